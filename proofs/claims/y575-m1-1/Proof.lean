import JvmDerived
import JvmDerived.Pilot.@@N@@Statement
import JvmDerived.Pilot.@@N@@Code
set_option linter.unusedVariables false
set_option linter.unusedSimpArgs false
namespace Jvm.RoadKit
open Sem ClassFile Op Lib Jvm.Stand Jvm.Free Jvm.LawKit
section New
variable {p : Program} {l : Launch} {e : Env} {R : Room} {s : State} {m : MethodId} {args : Array Value} {below : List Frame} {meth : Method} {c : Code} {T : State} {locs : List Loc} {cells slots : Nat}
theorem retI (X : Stand p l e R s m args below meth c T locs cells slots) (hx : p.tables.exec = Jvm.exec) {pc : Nat} {Ls : Array Slot} {z : Int32} {rest : List Value} (hret : meth.sig.returnType = some .int) (hd : decode c.code pc = .ok (.ireturn, 1)) {fs : List Frame}
    (hl : ∀ (f : JFrame) (acts : List Action), f.method = m → f.locked = none → f.entered = [] → (doReturn e (T.setTop f) acts (some (.int z))).1 = T.setFrames fs) : Steps p.tables e below (T.setTop (mkF m pc Ls (.int z :: rest))) (T.setFrames fs) :=
  retOut X hx hret rfl (Or.inl ⟨rfl, Or.inl rfl, _, rfl⟩) hd hl
end New
end Jvm.RoadKit
namespace Jvm.Pilot.@@N@@
open Jvm Jvm.ClassFile Sem Op Lib Jvm.Free Jvm.Stand Jvm.LawKit Jvm.RoadKit Bundle Jvm.Pilot.@@N@@.Jvm.D
theorem own_sub {p : Program} {l : Launch} {e : Env} {R : Room} {s : State} {m : MethodId} {args : Array Value} {below : List Frame} {meth : Method} {c : Code} {T : State} {L L' : List Loc} {k k' n n' : Nat} (X : Stand p l e R s m args below meth c T L k n) (hl : L = L') (hk : k = k') (hn : n = n') : Stand p l e R s m args below meth c T L' k' n' := by
  subst hl hk hn
  exact X
/-- what a body that writes nothing leaves: its value, no place written, the heap as it was -/
def PQ (w : Option Value) (h0 : Heap) (n0 : Nat) (v : Option Value) (h : Heap) (L : List Loc) : Prop := v = w ∧ Fr n0 L ∧ h = h0
def LQ (n0 : Nat) (v : Option Value) (h : Heap) (L : List Loc) : Prop := v = some (.int (1 : Int32)) ∧ Fr n0 L ∧ True
theorem own_pd0 : parseMethodDescriptor "(I)I" = some ⟨[.int], some .int⟩ := by decide +kernel
theorem own_pd1 : parseMethodDescriptor "(II)I" = some ⟨[.int, .int], some .int⟩ := by decide +kernel
theorem own_pd2 : parseMethodDescriptor "([B)I" = some ⟨[(.array .byte)], some .int⟩ := by decide +kernel
def own_t0 (v : Int32) : Int32 := 0
def own_t1 (v : Int32) : Int32 := if (v &&& (1 : Int32)) = (0 : Int32) then own_t0 v else own_t0 v ^^^ (49345 : Int32)
def own_t2 (v : Int32) : Int32 := if (v &&& (2 : Int32)) = (0 : Int32) then own_t1 v else own_t1 v ^^^ (49537 : Int32)
def own_t3 (v : Int32) : Int32 := if (v &&& (4 : Int32)) = (0 : Int32) then own_t2 v else own_t2 v ^^^ (49921 : Int32)
def own_t4 (v : Int32) : Int32 := if (v &&& (8 : Int32)) = (0 : Int32) then own_t3 v else own_t3 v ^^^ (50689 : Int32)
def own_t5 (v : Int32) : Int32 := if (v &&& (16 : Int32)) = (0 : Int32) then own_t4 v else own_t4 v ^^^ (52225 : Int32)
def own_t6 (v : Int32) : Int32 := if (v &&& (32 : Int32)) = (0 : Int32) then own_t5 v else own_t5 v ^^^ (55297 : Int32)
def own_t7 (v : Int32) : Int32 := if (v &&& (64 : Int32)) = (0 : Int32) then own_t6 v else own_t6 v ^^^ (61441 : Int32)
def own_t8 (v : Int32) : Int32 := if (v &&& (128 : Int32)) = (0 : Int32) then own_t7 v else own_t7 v ^^^ (40961 : Int32)
def own_bit (c : Int32) : Int32 := if (c &&& (1 : Int32)) = (0 : Int32) then ((c.toUInt32 >>> ((1 : Int32) &&& 31).toUInt32).toInt32) else (((c.toUInt32 >>> ((1 : Int32) &&& 31).toUInt32).toInt32) ^^^ (40961 : Int32))
def own_byte (c x : Int32) : Int32 := own_bit (own_bit (own_bit (own_bit (own_bit (own_bit (own_bit (own_bit (c ^^^ (x &&& (255 : Int32))))))))))
def own_step (q1 q2 : Int32) : Int32 := (((q1.toUInt32 >>> ((8 : Int32) &&& 31).toUInt32).toInt32) ^^^ (own_t8 ((q1 ^^^ q2) &&& (255 : Int32))))
def own_U0 (p1 : Int32) : Int32 := (p1 &&& (255 : Int32))
def own_U1 (p1 : Int32) : Int32 := (((p1.toUInt32 >>> ((8 : Int32) &&& 31).toUInt32).toInt32) &&& (255 : Int32))
def own_U2 (p1 : Int32) : Int32 := (((p1.toUInt32 >>> ((16 : Int32) &&& 31).toUInt32).toInt32) &&& (255 : Int32))
def own_U3 (p1 : Int32) : Int32 := (((p1.toUInt32 >>> ((24 : Int32) &&& 31).toUInt32).toInt32) &&& (255 : Int32))
def own_R1 (p1 : Int32) : Int32 := (own_step (0 : Int32) (own_U0 p1))
def own_R2 (p1 : Int32) : Int32 := (own_step (own_R1 p1) (own_U1 p1))
def own_R3 (p1 : Int32) : Int32 := (own_step (own_R2 p1) (own_U2 p1))
def own_R4 (p1 : Int32) : Int32 := (own_step (own_R3 p1) (own_U3 p1))
def own_H (p1 : Int32) : Int32 := (((own_R4 p1).toUInt32 >>> ((8 : Int32) &&& 31).toUInt32).toInt32)
def own_B0 (p1 : Int32) : Int32 := ((own_U0 p1).toInt8.toInt32)
def own_B1 (p1 : Int32) : Int32 := ((own_U1 p1).toInt8.toInt32)
def own_B2 (p1 : Int32) : Int32 := ((own_U2 p1).toInt8.toInt32)
def own_B3 (p1 : Int32) : Int32 := ((own_U3 p1).toInt8.toInt32)
def own_B4 (p1 : Int32) : Int32 := ((own_R4 p1).toInt8.toInt32)
def own_B5 (p1 : Int32) : Int32 := ((own_H p1).toInt8.toInt32)
def own_bitN (n : Nat) : Nat := if n % 2 = 0 then n / 2 else (n / 2) ^^^ 40961
def own_b8N (n : Nat) : Nat := own_bitN (own_bitN (own_bitN (own_bitN (own_bitN (own_bitN (own_bitN (own_bitN n)))))))
def own_tN (v : Nat) : Nat := (if v % 2 = 0 then 0 else 49345) ^^^ (if v / 2 % 2 = 0 then 0 else 49537) ^^^ (if v / 4 % 2 = 0 then 0 else 49921) ^^^ (if v / 8 % 2 = 0 then 0 else 50689) ^^^ (if v / 16 % 2 = 0 then 0 else 52225) ^^^ (if v / 32 % 2 = 0 then 0 else 55297) ^^^ (if v / 64 % 2 = 0 then 0 else 61441) ^^^ (if v / 128 % 2 = 0 then 0 else 40961)
theorem own_toInt {n : Nat} (h : n < 65536) : (Int32.ofNat n).toInt = (n : Int) := Int32.toInt_ofNat_small (by omega)
theorem own_xor (a b : Nat) : Int32.ofNat a ^^^ Int32.ofNat b = Int32.ofNat (a ^^^ b) := by
  apply Int32.toBitVec_inj.mp
  rw [Int32.toBitVec_xor]
  show BitVec.ofNat 32 a ^^^ BitVec.ofNat 32 b = BitVec.ofNat 32 (a ^^^ b)
  apply BitVec.eq_of_toNat_eq
  rw [BitVec.toNat_xor, BitVec.toNat_ofNat, BitVec.toNat_ofNat, BitVec.toNat_ofNat, Nat.xor_mod_two_pow]
theorem own_shr1 {n : Nat} (h : n < 65536) : (((Int32.ofNat n).toUInt32 >>> ((1 : Int32) &&& 31).toUInt32).toInt32) = Int32.ofNat (n / 2) := by
  apply Int32.toInt_inj.mp
  rw [c_iushr (Int32.ofNat n) (1 : Int32) 1 (by decide) (by decide), own_toInt h, own_toInt (by omega)]
  omega
theorem own_shr8 {n : Nat} (h : n < 65536) : (((Int32.ofNat n).toUInt32 >>> ((8 : Int32) &&& 31).toUInt32).toInt32) = Int32.ofNat (n / 256) := by
  apply Int32.toInt_inj.mp
  rw [c_iushr (Int32.ofNat n) (8 : Int32) 8 (by decide) (by decide), own_toInt h, own_toInt (by omega)]
  omega
theorem own_low {n : Nat} (h : n < 65536) : (Int32.ofNat n &&& (1 : Int32)) = (0 : Int32) ↔ n % 2 = 0 := by
  rw [← Int32.toInt_inj, c_mask (Int32.ofNat n) 1 1 (by decide) (by decide), own_toInt h]
  show ((n : Int) % (2 ^ 1 : Nat)) = 0 ↔ _
  omega
theorem own_msk {n : Nat} (h : n < 65536) : (Int32.ofNat n &&& (255 : Int32)) = Int32.ofNat (n % 256) := by
  apply Int32.toInt_inj.mp
  rw [c_mask (Int32.ofNat n) 255 8 (by decide) (by decide), own_toInt h, own_toInt (by omega)]
  omega
theorem own_bitLt {n : Nat} (h : n < 65536) : own_bitN n < 65536 := by
  unfold own_bitN
  split
  · omega
  · exact Nat.xor_lt_two_pow (n := 16) (by omega) (by decide)
theorem own_bitE {n : Nat} (h : n < 65536) : own_bit (Int32.ofNat n) = Int32.ofNat (own_bitN n) := by
  unfold own_bit own_bitN
  rw [own_shr1 h]
  by_cases q : n % 2 = 0
  · rw [if_pos ((own_low h).mpr q), if_pos q]
  · rw [if_neg (fun z => q ((own_low h).mp z)), if_neg q]
    exact own_xor _ _
theorem own_b8 : ∀ a : Nat, a < 256 → ∀ b : Nat, b < 256 → own_b8N (a * 256 + b) = a ^^^ own_tN b := by decide +kernel
theorem own_t8E : ∀ v : Nat, v < 256 → own_t8 (Int32.ofNat v) = Int32.ofNat (own_tN v) := by decide +kernel
theorem own_tLt : ∀ v : Nat, v < 256 → own_tN v < 65536 := by decide +kernel
theorem own_wdiv {n u : Nat} (hu : u < 256) : (n ^^^ u) / 256 = n / 256 := by
  have e : (n ^^^ u) / 2 ^ 8 = n / 2 ^ 8 ^^^ u / 2 ^ 8 := Nat.xor_div_two_pow
  have e2 : u / 2 ^ 8 = 0 := Nat.div_eq_of_lt (by omega)
  rw [e2, Nat.xor_zero] at e
  exact e
def own_stN (n u : Nat) : Nat := (n / 256) ^^^ own_tN ((n ^^^ u) % 256)
theorem own_stLt {n u : Nat} (h : n < 65536) (hu : u < 256) : own_stN n u < 65536 := Nat.xor_lt_two_pow (n := 16) (by omega) (own_tLt _ (Nat.mod_lt _ (by decide)))
theorem own_byteE {n u : Nat} {x : Int32} (h : n < 65536) (hu : u < 256) (hx : (x &&& (255 : Int32)) = Int32.ofNat u) : own_byte (Int32.ofNat n) x = Int32.ofNat (own_stN n u) := by
  unfold own_byte
  have hw : n ^^^ u < 65536 := Nat.xor_lt_two_pow (n := 16) (by omega) (by omega)
  have L : ∀ m, m < 65536 → own_bitN m < 65536 := fun m hm => own_bitLt hm
  rw [hx, own_xor, own_bitE hw, own_bitE (L _ hw), own_bitE (L _ (L _ hw)), own_bitE (L _ (L _ (L _ hw))), own_bitE (L _ (L _ (L _ (L _ hw)))), own_bitE (L _ (L _ (L _ (L _ (L _ hw))))), own_bitE (L _ (L _ (L _ (L _ (L _ (L _ hw)))))), own_bitE (L _ (L _ (L _ (L _ (L _ (L _ (L _ hw))))))) ]
  have q := own_b8 ((n ^^^ u) / 256) (by omega) ((n ^^^ u) % 256) (Nat.mod_lt _ (by decide))
  have e : (n ^^^ u) / 256 * 256 + (n ^^^ u) % 256 = n ^^^ u := by omega
  rw [e, own_wdiv hu] at q
  exact congrArg Int32.ofNat q
theorem own_stepE {n u : Nat} (h : n < 65536) (hu : u < 256) : own_step (Int32.ofNat n) (Int32.ofNat u) = Int32.ofNat (own_stN n u) := by
  have hw : n ^^^ u < 65536 := Nat.xor_lt_two_pow (n := 16) (by omega) (by omega)
  unfold own_step own_stN
  rw [own_shr8 h, own_xor, own_msk hw, own_t8E _ (Nat.mod_lt _ (by decide)), own_xor]
theorem own_byt (x : Int32) : (nar .byte (x.toInt8.toInt32)) &&& (255 : Int32) = x &&& (255 : Int32) := by
  apply Int32.toInt_inj.mp
  rw [c_mask _ 255 8 (by decide) (by decide), c_mask _ 255 8 (by decide) (by decide)]
  have q1 := c_i2b x
  have q2 := c_i2b (x.toInt8.toInt32)
  have e : nar .byte (x.toInt8.toInt32) = (x.toInt8.toInt32).toInt8.toInt32 := rfl
  rw [e]
  omega
theorem own_m255 (x : Int32) : ∃ u, u < 256 ∧ (x &&& (255 : Int32)) = Int32.ofNat u := by
  have q := c_mask x 255 8 (by decide) (by decide)
  refine ⟨(x.toInt % 256).toNat, by omega, ?_⟩
  apply Int32.toInt_inj.mp
  rw [q, own_toInt (by omega)]
  omega
theorem own_mm {x : Int32} {u : Nat} (hu : u < 256) (h : x = Int32.ofNat u) : (x &&& (255 : Int32)) = Int32.ofNat u := by
  rw [h, own_msk (by omega), Nat.mod_eq_of_lt hu]
theorem own_all (p1 : Int32) : ∃ u0 u1 u2 u3 r1 r2 r3 r4 : Nat, u0 < 256 ∧ u1 < 256 ∧ u2 < 256 ∧ u3 < 256 ∧ r1 < 65536 ∧ r2 < 65536 ∧ r3 < 65536 ∧ r4 < 65536 ∧ own_U0 p1 = Int32.ofNat u0 ∧ own_U1 p1 = Int32.ofNat u1 ∧ own_U2 p1 = Int32.ofNat u2 ∧ own_U3 p1 = Int32.ofNat u3 ∧
    own_R1 p1 = Int32.ofNat r1 ∧ own_R2 p1 = Int32.ofNat r2 ∧ own_R3 p1 = Int32.ofNat r3 ∧ own_R4 p1 = Int32.ofNat r4 ∧ r1 = own_stN 0 u0 ∧ r2 = own_stN r1 u1 ∧ r3 = own_stN r2 u2 ∧ r4 = own_stN r3 u3 := by
  obtain ⟨u0, h0, e0⟩ : ∃ u, u < 256 ∧ own_U0 p1 = Int32.ofNat u := own_m255 _
  obtain ⟨u1, h1, e1⟩ : ∃ u, u < 256 ∧ own_U1 p1 = Int32.ofNat u := own_m255 _
  obtain ⟨u2, h2, e2⟩ : ∃ u, u < 256 ∧ own_U2 p1 = Int32.ofNat u := own_m255 _
  obtain ⟨u3, h3, e3⟩ : ∃ u, u < 256 ∧ own_U3 p1 = Int32.ofNat u := own_m255 _
  have z : (0 : Nat) < 65536 := by decide
  have f1 : own_R1 p1 = Int32.ofNat (own_stN 0 u0) := by
    show own_step (0 : Int32) (own_U0 p1) = _
    rw [e0]; exact own_stepE z h0
  have l1 := own_stLt (n := 0) z h0
  have f2 : own_R2 p1 = Int32.ofNat (own_stN (own_stN 0 u0) u1) := by
    show own_step (own_R1 p1) (own_U1 p1) = _
    rw [e1, f1]; exact own_stepE l1 h1
  have l2 := own_stLt l1 h1
  have f3 : own_R3 p1 = Int32.ofNat (own_stN (own_stN (own_stN 0 u0) u1) u2) := by
    show own_step (own_R2 p1) (own_U2 p1) = _
    rw [e2, f2]; exact own_stepE l2 h2
  have l3 := own_stLt l2 h2
  have f4 : own_R4 p1 = Int32.ofNat (own_stN (own_stN (own_stN (own_stN 0 u0) u1) u2) u3) := by
    show own_step (own_R3 p1) (own_U3 p1) = _
    rw [e3, f3]; exact own_stepE l3 h3
  exact ⟨u0, u1, u2, u3, _, _, _, _, h0, h1, h2, h3, l1, l2, l3, own_stLt l3 h3, e0, e1, e2, e3, f1, f2, f3, f4, rfl, rfl, rfl, rfl⟩
theorem own_qq (p1 : Int32) : (own_byte (0 : Int32) (nar .byte (own_B0 p1)) = own_R1 p1) ∧ (own_byte (own_R1 p1) (nar .byte (own_B1 p1)) = own_R2 p1) ∧ (own_byte (own_R2 p1) (nar .byte (own_B2 p1)) = own_R3 p1) ∧ (own_byte (own_R3 p1) (nar .byte (own_B3 p1)) = own_R4 p1) ∧ own_byte (own_byte (own_R4 p1) (nar .byte (own_B4 p1))) (nar .byte (own_B5 p1)) = (0 : Int32) := by
  obtain ⟨u0, u1, u2, u3, r1, r2, r3, r4, h0, h1, h2, h3, l1, l2, l3, l4, e0, e1, e2, e3, f1, f2, f3, f4, g1, g2, g3, g4⟩ := own_all p1
  have b0 : (nar .byte (own_B0 p1)) &&& (255 : Int32) = Int32.ofNat u0 := (own_byt (own_U0 p1)).trans (own_mm h0 e0)
  have b1 : (nar .byte (own_B1 p1)) &&& (255 : Int32) = Int32.ofNat u1 := (own_byt (own_U1 p1)).trans (own_mm h1 e1)
  have b2 : (nar .byte (own_B2 p1)) &&& (255 : Int32) = Int32.ofNat u2 := (own_byt (own_U2 p1)).trans (own_mm h2 e2)
  have b3 : (nar .byte (own_B3 p1)) &&& (255 : Int32) = Int32.ofNat u3 := (own_byt (own_U3 p1)).trans (own_mm h3 e3)
  have b4 : (nar .byte (own_B4 p1)) &&& (255 : Int32) = Int32.ofNat (r4 % 256) := by
    refine (own_byt (own_R4 p1)).trans ?_
    rw [f4]; exact own_msk l4
  have b5 : (nar .byte (own_B5 p1)) &&& (255 : Int32) = Int32.ofNat (r4 / 256) := by
    refine (own_byt (own_H p1)).trans (own_mm (by omega) ?_)
    show (((own_R4 p1).toUInt32 >>> ((8 : Int32) &&& 31).toUInt32).toInt32) = _
    rw [f4]; exact own_shr8 l4
  have x1 : own_stN r4 (r4 % 256) = r4 / 256 := by
    unfold own_stN
    have e : (r4 ^^^ r4 % 256) % 256 = 0 := by
      have q : (r4 ^^^ r4 % 256) % 2 ^ 8 = (r4 % 2 ^ 8) ^^^ ((r4 % 256) % 2 ^ 8) := Nat.xor_mod_two_pow
      have q2 : (r4 % 256) % 2 ^ 8 = r4 % 2 ^ 8 := Nat.mod_mod _ _
      rw [q2, Nat.xor_self] at q
      exact q
    rw [e]
    exact Nat.xor_zero _
  have x2 : own_stN (r4 / 256) (r4 / 256) = 0 := by
    unfold own_stN
    rw [Nat.xor_self]
    have e : r4 / 256 / 256 = 0 := Nat.div_eq_of_lt (by omega)
    rw [e]
    decide
  refine ⟨?_, ?_, ?_, ?_, ?_⟩
  · rw [f1, g1]; exact own_byteE (n := 0) (by decide) h0 b0
  · rw [f1, f2, g2]; exact own_byteE l1 h1 b1
  · rw [f2, f3, g3]; exact own_byteE l2 h2 b2
  · rw [f3, f4, g4]; exact own_byteE l3 h3 b3
  · rw [f4, own_byteE l4 (by omega) b4, x1, own_byteE (by omega) (by omega) b5, x2]; rfl
theorem own_qs1 (p1 : Int32) : own_byte (0 : Int32) (nar .byte (own_B0 p1)) = own_R1 p1 := (own_qq p1).1
theorem own_qs2 (p1 : Int32) : own_byte (own_byte (0 : Int32) (nar .byte (own_B0 p1))) (nar .byte (own_B1 p1)) = own_R2 p1 := by rw [own_qs1]; exact (own_qq p1).2.1
theorem own_qs3 (p1 : Int32) : own_byte (own_byte (own_byte (0 : Int32) (nar .byte (own_B0 p1))) (nar .byte (own_B1 p1))) (nar .byte (own_B2 p1)) = own_R3 p1 := by rw [own_qs2]; exact (own_qq p1).2.2.1
theorem own_qs4 (p1 : Int32) : own_byte (own_byte (own_byte (own_byte (0 : Int32) (nar .byte (own_B0 p1))) (nar .byte (own_B1 p1))) (nar .byte (own_B2 p1))) (nar .byte (own_B3 p1)) = own_R4 p1 := by rw [own_qs3]; exact (own_qq p1).2.2.2.1
theorem own_res (p1 : Int32) : own_byte (own_byte (own_byte (own_byte (own_byte (own_byte (0 : Int32) (nar .byte (own_B0 p1))) (nar .byte (own_B1 p1))) (nar .byte (own_B2 p1))) (nar .byte (own_B3 p1))) (nar .byte (own_B4 p1))) (nar .byte (own_B5 p1)) = (0 : Int32) := by rw [own_qs4]; exact (own_qq p1).2.2.2.2
theorem own_q1 (p1 : Int32) : (own_byte (0 : Int32) (nar .byte (own_B0 p1))) = (own_R1 p1) := own_qs1 p1
theorem own_q2 (p1 : Int32) : (own_byte (own_byte (0 : Int32) (nar .byte (own_B0 p1))) (nar .byte (own_B1 p1))) = (own_R2 p1) := own_qs2 p1
theorem own_q3 (p1 : Int32) : (own_byte (own_byte (own_byte (0 : Int32) (nar .byte (own_B0 p1))) (nar .byte (own_B1 p1))) (nar .byte (own_B2 p1))) = (own_R3 p1) := own_qs3 p1
theorem own_q4 (p1 : Int32) : (own_byte (own_byte (own_byte (own_byte (0 : Int32) (nar .byte (own_B0 p1))) (nar .byte (own_B1 p1))) (nar .byte (own_B2 p1))) (nar .byte (own_B3 p1))) = (own_R4 p1) := own_qs4 p1
theorem own_q6 (p1 : Int32) : (own_byte (own_byte (own_byte (own_byte (own_byte (own_byte (0 : Int32) (nar .byte (own_B0 p1))) (nar .byte (own_B1 p1))) (nar .byte (own_B2 p1))) (nar .byte (own_B3 p1))) (nar .byte (own_B4 p1))) (nar .byte (own_B5 p1))) = (0 : Int32) := own_res p1
theorem own_q9 (p1 : Int32) : (own_byte (own_byte (own_byte (own_byte (own_byte (own_byte (own_byte (own_byte (own_byte (0 : Int32) (49 : Int32)) (50 : Int32)) (51 : Int32)) (52 : Int32)) (53 : Int32)) (54 : Int32)) (55 : Int32)) (56 : Int32)) (57 : Int32)) = (47933 : Int32) := by decide +kernel
theorem own_d_method_2_code_0 : decode method_2_code 0 = .ok (.iconst 0, 1) := by decide +kernel
theorem own_d_method_2_code_1 : decode method_2_code 1 = .ok (.istore_n 1, 1) := by decide +kernel
theorem own_d_method_2_code_2 : decode method_2_code 2 = .ok (.iload_n 0, 1) := by decide +kernel
theorem own_d_method_2_code_3 : decode method_2_code 3 = .ok (.iconst 1, 1) := by decide +kernel
theorem own_d_method_2_code_4 : decode method_2_code 4 = .ok (.iand, 1) := by decide +kernel
theorem own_d_method_2_code_5 : decode method_2_code 5 = .ok (.ifCond .eq 8, 3) := by decide +kernel
theorem own_d_method_2_code_8 : decode method_2_code 8 = .ok (.iload_n 1, 1) := by decide +kernel
theorem own_d_method_2_code_9 : decode method_2_code 9 = .ok (.ldc 7, 2) := by decide +kernel
theorem own_d_method_2_code_11 : decode method_2_code 11 = .ok (.ixor, 1) := by decide +kernel
theorem own_d_method_2_code_12 : decode method_2_code 12 = .ok (.istore_n 1, 1) := by decide +kernel
theorem own_d_method_2_code_13 : decode method_2_code 13 = .ok (.iload_n 0, 1) := by decide +kernel
theorem own_d_method_2_code_14 : decode method_2_code 14 = .ok (.iconst 2, 1) := by decide +kernel
theorem own_d_method_2_code_15 : decode method_2_code 15 = .ok (.iand, 1) := by decide +kernel
theorem own_d_method_2_code_16 : decode method_2_code 16 = .ok (.ifCond .eq 8, 3) := by decide +kernel
theorem own_d_method_2_code_19 : decode method_2_code 19 = .ok (.iload_n 1, 1) := by decide +kernel
theorem own_d_method_2_code_20 : decode method_2_code 20 = .ok (.ldc 8, 2) := by decide +kernel
theorem own_d_method_2_code_22 : decode method_2_code 22 = .ok (.ixor, 1) := by decide +kernel
theorem own_d_method_2_code_23 : decode method_2_code 23 = .ok (.istore_n 1, 1) := by decide +kernel
theorem own_d_method_2_code_24 : decode method_2_code 24 = .ok (.iload_n 0, 1) := by decide +kernel
theorem own_d_method_2_code_25 : decode method_2_code 25 = .ok (.iconst 4, 1) := by decide +kernel
theorem own_d_method_2_code_26 : decode method_2_code 26 = .ok (.iand, 1) := by decide +kernel
theorem own_d_method_2_code_27 : decode method_2_code 27 = .ok (.ifCond .eq 8, 3) := by decide +kernel
theorem own_d_method_2_code_30 : decode method_2_code 30 = .ok (.iload_n 1, 1) := by decide +kernel
theorem own_d_method_2_code_31 : decode method_2_code 31 = .ok (.ldc 9, 2) := by decide +kernel
theorem own_d_method_2_code_33 : decode method_2_code 33 = .ok (.ixor, 1) := by decide +kernel
theorem own_d_method_2_code_34 : decode method_2_code 34 = .ok (.istore_n 1, 1) := by decide +kernel
theorem own_d_method_2_code_35 : decode method_2_code 35 = .ok (.iload_n 0, 1) := by decide +kernel
theorem own_d_method_2_code_36 : decode method_2_code 36 = .ok (.bipush 8, 2) := by decide +kernel
theorem own_d_method_2_code_38 : decode method_2_code 38 = .ok (.iand, 1) := by decide +kernel
theorem own_d_method_2_code_39 : decode method_2_code 39 = .ok (.ifCond .eq 8, 3) := by decide +kernel
theorem own_d_method_2_code_42 : decode method_2_code 42 = .ok (.iload_n 1, 1) := by decide +kernel
theorem own_d_method_2_code_43 : decode method_2_code 43 = .ok (.ldc 10, 2) := by decide +kernel
theorem own_d_method_2_code_45 : decode method_2_code 45 = .ok (.ixor, 1) := by decide +kernel
theorem own_d_method_2_code_46 : decode method_2_code 46 = .ok (.istore_n 1, 1) := by decide +kernel
theorem own_d_method_2_code_47 : decode method_2_code 47 = .ok (.iload_n 0, 1) := by decide +kernel
theorem own_d_method_2_code_48 : decode method_2_code 48 = .ok (.bipush 16, 2) := by decide +kernel
theorem own_d_method_2_code_50 : decode method_2_code 50 = .ok (.iand, 1) := by decide +kernel
theorem own_d_method_2_code_51 : decode method_2_code 51 = .ok (.ifCond .eq 8, 3) := by decide +kernel
theorem own_d_method_2_code_54 : decode method_2_code 54 = .ok (.iload_n 1, 1) := by decide +kernel
theorem own_d_method_2_code_55 : decode method_2_code 55 = .ok (.ldc 11, 2) := by decide +kernel
theorem own_d_method_2_code_57 : decode method_2_code 57 = .ok (.ixor, 1) := by decide +kernel
theorem own_d_method_2_code_58 : decode method_2_code 58 = .ok (.istore_n 1, 1) := by decide +kernel
theorem own_d_method_2_code_59 : decode method_2_code 59 = .ok (.iload_n 0, 1) := by decide +kernel
theorem own_d_method_2_code_60 : decode method_2_code 60 = .ok (.bipush 32, 2) := by decide +kernel
theorem own_d_method_2_code_62 : decode method_2_code 62 = .ok (.iand, 1) := by decide +kernel
theorem own_d_method_2_code_63 : decode method_2_code 63 = .ok (.ifCond .eq 8, 3) := by decide +kernel
theorem own_d_method_2_code_66 : decode method_2_code 66 = .ok (.iload_n 1, 1) := by decide +kernel
theorem own_d_method_2_code_67 : decode method_2_code 67 = .ok (.ldc 12, 2) := by decide +kernel
theorem own_d_method_2_code_69 : decode method_2_code 69 = .ok (.ixor, 1) := by decide +kernel
theorem own_d_method_2_code_70 : decode method_2_code 70 = .ok (.istore_n 1, 1) := by decide +kernel
theorem own_d_method_2_code_71 : decode method_2_code 71 = .ok (.iload_n 0, 1) := by decide +kernel
theorem own_d_method_2_code_72 : decode method_2_code 72 = .ok (.bipush 64, 2) := by decide +kernel
theorem own_d_method_2_code_74 : decode method_2_code 74 = .ok (.iand, 1) := by decide +kernel
theorem own_d_method_2_code_75 : decode method_2_code 75 = .ok (.ifCond .eq 8, 3) := by decide +kernel
theorem own_d_method_2_code_78 : decode method_2_code 78 = .ok (.iload_n 1, 1) := by decide +kernel
theorem own_d_method_2_code_79 : decode method_2_code 79 = .ok (.ldc 13, 2) := by decide +kernel
theorem own_d_method_2_code_81 : decode method_2_code 81 = .ok (.ixor, 1) := by decide +kernel
theorem own_d_method_2_code_82 : decode method_2_code 82 = .ok (.istore_n 1, 1) := by decide +kernel
theorem own_d_method_2_code_83 : decode method_2_code 83 = .ok (.iload_n 0, 1) := by decide +kernel
theorem own_d_method_2_code_84 : decode method_2_code 84 = .ok (.sipush 128, 3) := by decide +kernel
theorem own_d_method_2_code_87 : decode method_2_code 87 = .ok (.iand, 1) := by decide +kernel
theorem own_d_method_2_code_88 : decode method_2_code 88 = .ok (.ifCond .eq 8, 3) := by decide +kernel
theorem own_d_method_2_code_91 : decode method_2_code 91 = .ok (.iload_n 1, 1) := by decide +kernel
theorem own_d_method_2_code_92 : decode method_2_code 92 = .ok (.ldc 14, 2) := by decide +kernel
theorem own_d_method_2_code_94 : decode method_2_code 94 = .ok (.ixor, 1) := by decide +kernel
theorem own_d_method_2_code_95 : decode method_2_code 95 = .ok (.istore_n 1, 1) := by decide +kernel
theorem own_d_method_2_code_96 : decode method_2_code 96 = .ok (.iload_n 1, 1) := by decide +kernel
theorem own_d_method_2_code_97 : decode method_2_code 97 = .ok (.ireturn, 1) := by decide +kernel
theorem own_pn0 : plainName "com/example/dongl/dongl/crypto/Crc16ArcPinLaw" = true := by first | (simp [plainName, overriddenIn]; done) | decide +kernel
theorem own_ef_rmT (m : MethodId) (q1 : Int32) : entryFrame m #[(.int q1)] 2 = mkF m 0 #[.val (.int q1), .unset] [] := by first | (simp [entryFrame, mkF, argsToLocals, Value.category, maxLocals]; done) | rfl
set_option maxRecDepth 65536 in
set_option maxHeartbeats 40000000 in
theorem rmT (l : Launch) (Z : State) (a0 : Array Value) (hw : ∀ d ∈ tables_1, d.before a0 Z = true) (ws : List Jvm.Cond) (h0 : Heap) (n0 : Nat) (q1 : Int32)  :
    MetFree l (⟨"com/example/dongl/dongl/crypto/Crc16ArcPinLaw", "t", "(I)I"⟩ : MethodName) (head1 (Jvm.Cond.code (⟨"com/example/dongl/dongl/crypto/Crc16ArcPinLaw", "t", "(I)I"⟩ : MethodName) method_2_code 2 (some .int) :: ws) ({ frames := 0, cells := 0, slots := 0, locals := 0 } : Room)) (fun a U => a = #[(.int q1)] ∧ Z.Warmed39 U.vm ∧ U.heap = h0) (fun _ _ _ _ _ => True) (fun _ U o U' => ∃ v L, o = .returned v ∧ (PQ (some (.int (own_t8 q1))) h0 n0) v U'.heap L ∧ FrameEnd U o U' L ({ frames := 0, cells := 0, slots := 0, locals := 0 } : Room).cells ({ frames := 0, cells := 0, slots := 0, locals := 0 } : Room).slots) := by
  refine MetFree.of_bodySF (plainFor_of_name own_pn0) hisR ?_
  intro p e s m args below meth c s₁ Bd hml0 hP hK
  obtain ⟨rfl, hZ, hh⟩ := hP
  have hx := Bd.exec
  have hby := Bd.bytes
  have hml : c.maxLocals = 2 := hml0
  have hown : s.vm.findClass "com/example/dongl/dongl/crypto/Crc16ArcPinLaw" = some m.cls := findClass_of_methodNamed Bd.named
  have hnm := (name_of_methodNamed Bd.named Bd.method).1
  have X0 : Stand p l e ({ frames := 0, cells := 0, slots := 0, locals := 0 } : Room) s m #[(.int q1)] below meth c s₁ [] 0 0 := Stand.of_body Bd
  have e0 : s₁.heap = h0 := by rw [← hh, Bd.state]; rfl
  have N0 := Fr.nil n0
  have pre0 : ∀ t, Steps p.tables e below (s₁.setTop (mkF m 0 #[.val (.int q1), .unset] [])) t → Steps p.tables e below (s₁.setTop (entryFrame m #[(.int q1)] 2)) t := fun t k => castTop (own_ef_rmT m q1) k
  have pre1 : ∀ t, Steps p.tables e below (s₁.setTop (mkF m 5 #[.val (.int q1), .val (.int (own_t0 q1))] [(.int (q1 &&& (1 : Int32)))])) t → Steps p.tables e below (s₁.setTop (entryFrame m #[(.int q1)] 2)) t := fun t k => pre0 t (by
    show Steps p.tables e below (s₁.setTop (mkF m 0 #[.val (.int q1), .unset] [])) _
    refine XS.iconst X0.here hx rfl (hb hby own_d_method_2_code_0) ?_
    show Steps p.tables e below (s₁.setTop (mkF m 1 #[.val (.int q1), .unset] [(.int (0 : Int32))])) _
    refine XS.istoreN X0.here hx rfl (hb hby own_d_method_2_code_1) rfl (l' := #[.val (.int q1), .val (.int (0 : Int32))]) rfl ?_
    show Steps p.tables e below (s₁.setTop (mkF m 2 #[.val (.int q1), .val (.int (own_t0 q1))] [])) _
    refine XS.iloadN X0.here hx rfl (hb hby own_d_method_2_code_2) rfl ?_
    show Steps p.tables e below (s₁.setTop (mkF m 3 #[.val (.int q1), .val (.int (own_t0 q1))] [(.int q1)])) _
    refine XS.iconst X0.here hx rfl (hb hby own_d_method_2_code_3) ?_
    show Steps p.tables e below (s₁.setTop (mkF m 4 #[.val (.int q1), .val (.int (own_t0 q1))] [(.int (1 : Int32)), (.int q1)])) _
    refine XS.iand X0.here hx rfl (hb hby own_d_method_2_code_4) rfl ?_
    exact k)
  have pre3 : ∀ t, Steps p.tables e below (s₁.setTop (mkF m 13 #[.val (.int q1), .val (.int (own_t1 q1))] [])) t → Steps p.tables e below (s₁.setTop (entryFrame m #[(.int q1)] 2)) t := fun t k => pre1 t (by
    by_cases hd2 : (q1 &&& (1 : Int32)) = (0 : Int32)
    · rw [(show own_t1 q1 = own_t0 q1 from if_pos hd2)] at k
      show Steps p.tables e below (s₁.setTop (mkF m 5 #[.val (.int q1), .val (.int (own_t0 q1))] [(.int (q1 &&& (1 : Int32)))])) _
      refine XS.ifYes X0.here hx rfl (pc0 := 5) (pc' := 13) rfl (hb hby own_d_method_2_code_5) rfl ((if0 _ _).trans (teq hd2).1) (by decide) (by decide) ?_
      exact k
    · rw [(show own_t1 q1 = own_t0 q1 ^^^ (49345 : Int32) from if_neg hd2)] at k
      show Steps p.tables e below (s₁.setTop (mkF m 5 #[.val (.int q1), .val (.int (own_t0 q1))] [(.int (q1 &&& (1 : Int32)))])) _
      refine XS.ifNo X0.here hx rfl (hb hby own_d_method_2_code_5) rfl ((if0 _ _).trans (feq hd2).1) ?_
      show Steps p.tables e below (s₁.setTop (mkF m 8 #[.val (.int q1), .val (.int (own_t0 q1))] [])) _
      refine XS.iloadN X0.here hx rfl (hb hby own_d_method_2_code_8) rfl ?_
      show Steps p.tables e below (s₁.setTop (mkF m 9 #[.val (.int q1), .val (.int (own_t0 q1))] [(.int (own_t0 q1))])) _
      refine X0.ldcInt hx hown (mvT hZ (hw _ (List.mem_of_getElem? (i := 14) rfl))) (g := (mkF m 9 #[.val (.int q1), .val (.int (own_t0 q1))] [(.int (own_t0 q1))])) rfl (hb hby own_d_method_2_code_9) _ ?_
      show Steps p.tables e below (s₁.setTop (mkF m 11 #[.val (.int q1), .val (.int (own_t0 q1))] [(.int (49345 : Int32)), (.int (own_t0 q1))])) _
      refine XS.ixor X0.here hx rfl (hb hby own_d_method_2_code_11) rfl ?_
      show Steps p.tables e below (s₁.setTop (mkF m 12 #[.val (.int q1), .val (.int (own_t0 q1))] [(.int ((own_t0 q1) ^^^ (49345 : Int32)))])) _
      refine XS.istoreN X0.here hx rfl (hb hby own_d_method_2_code_12) rfl (l' := #[.val (.int q1), .val (.int ((own_t0 q1) ^^^ (49345 : Int32)))]) rfl ?_
      exact k)
  have pre4 : ∀ t, Steps p.tables e below (s₁.setTop (mkF m 16 #[.val (.int q1), .val (.int (own_t1 q1))] [(.int (q1 &&& (2 : Int32)))])) t → Steps p.tables e below (s₁.setTop (entryFrame m #[(.int q1)] 2)) t := fun t k => pre3 t (by
    show Steps p.tables e below (s₁.setTop (mkF m 13 #[.val (.int q1), .val (.int (own_t1 q1))] [])) _
    refine XS.iloadN X0.here hx rfl (hb hby own_d_method_2_code_13) rfl ?_
    show Steps p.tables e below (s₁.setTop (mkF m 14 #[.val (.int q1), .val (.int (own_t1 q1))] [(.int q1)])) _
    refine XS.iconst X0.here hx rfl (hb hby own_d_method_2_code_14) ?_
    show Steps p.tables e below (s₁.setTop (mkF m 15 #[.val (.int q1), .val (.int (own_t1 q1))] [(.int (2 : Int32)), (.int q1)])) _
    refine XS.iand X0.here hx rfl (hb hby own_d_method_2_code_15) rfl ?_
    exact k)
  have pre6 : ∀ t, Steps p.tables e below (s₁.setTop (mkF m 24 #[.val (.int q1), .val (.int (own_t2 q1))] [])) t → Steps p.tables e below (s₁.setTop (entryFrame m #[(.int q1)] 2)) t := fun t k => pre4 t (by
    by_cases hd5 : (q1 &&& (2 : Int32)) = (0 : Int32)
    · rw [(show own_t2 q1 = (own_t1 q1) from if_pos hd5)] at k
      show Steps p.tables e below (s₁.setTop (mkF m 16 #[.val (.int q1), .val (.int (own_t1 q1))] [(.int (q1 &&& (2 : Int32)))])) _
      refine XS.ifYes X0.here hx rfl (pc0 := 16) (pc' := 24) rfl (hb hby own_d_method_2_code_16) rfl ((if0 _ _).trans (teq hd5).1) (by decide) (by decide) ?_
      exact k
    · rw [(show own_t2 q1 = ((own_t1 q1) ^^^ (49537 : Int32)) from if_neg hd5)] at k
      show Steps p.tables e below (s₁.setTop (mkF m 16 #[.val (.int q1), .val (.int (own_t1 q1))] [(.int (q1 &&& (2 : Int32)))])) _
      refine XS.ifNo X0.here hx rfl (hb hby own_d_method_2_code_16) rfl ((if0 _ _).trans (feq hd5).1) ?_
      show Steps p.tables e below (s₁.setTop (mkF m 19 #[.val (.int q1), .val (.int (own_t1 q1))] [])) _
      refine XS.iloadN X0.here hx rfl (hb hby own_d_method_2_code_19) rfl ?_
      show Steps p.tables e below (s₁.setTop (mkF m 20 #[.val (.int q1), .val (.int (own_t1 q1))] [(.int (own_t1 q1))])) _
      refine X0.ldcInt hx hown (mvT hZ (hw _ (List.mem_of_getElem? (i := 15) rfl))) (g := (mkF m 20 #[.val (.int q1), .val (.int (own_t1 q1))] [(.int (own_t1 q1))])) rfl (hb hby own_d_method_2_code_20) _ ?_
      show Steps p.tables e below (s₁.setTop (mkF m 22 #[.val (.int q1), .val (.int (own_t1 q1))] [(.int (49537 : Int32)), (.int (own_t1 q1))])) _
      refine XS.ixor X0.here hx rfl (hb hby own_d_method_2_code_22) rfl ?_
      show Steps p.tables e below (s₁.setTop (mkF m 23 #[.val (.int q1), .val (.int (own_t1 q1))] [(.int ((own_t1 q1) ^^^ (49537 : Int32)))])) _
      refine XS.istoreN X0.here hx rfl (hb hby own_d_method_2_code_23) rfl (l' := #[.val (.int q1), .val (.int ((own_t1 q1) ^^^ (49537 : Int32)))]) rfl ?_
      exact k)
  have pre7 : ∀ t, Steps p.tables e below (s₁.setTop (mkF m 27 #[.val (.int q1), .val (.int (own_t2 q1))] [(.int (q1 &&& (4 : Int32)))])) t → Steps p.tables e below (s₁.setTop (entryFrame m #[(.int q1)] 2)) t := fun t k => pre6 t (by
    show Steps p.tables e below (s₁.setTop (mkF m 24 #[.val (.int q1), .val (.int (own_t2 q1))] [])) _
    refine XS.iloadN X0.here hx rfl (hb hby own_d_method_2_code_24) rfl ?_
    show Steps p.tables e below (s₁.setTop (mkF m 25 #[.val (.int q1), .val (.int (own_t2 q1))] [(.int q1)])) _
    refine XS.iconst X0.here hx rfl (hb hby own_d_method_2_code_25) ?_
    show Steps p.tables e below (s₁.setTop (mkF m 26 #[.val (.int q1), .val (.int (own_t2 q1))] [(.int (4 : Int32)), (.int q1)])) _
    refine XS.iand X0.here hx rfl (hb hby own_d_method_2_code_26) rfl ?_
    exact k)
  have pre9 : ∀ t, Steps p.tables e below (s₁.setTop (mkF m 35 #[.val (.int q1), .val (.int (own_t3 q1))] [])) t → Steps p.tables e below (s₁.setTop (entryFrame m #[(.int q1)] 2)) t := fun t k => pre7 t (by
    by_cases hd8 : (q1 &&& (4 : Int32)) = (0 : Int32)
    · rw [(show own_t3 q1 = (own_t2 q1) from if_pos hd8)] at k
      show Steps p.tables e below (s₁.setTop (mkF m 27 #[.val (.int q1), .val (.int (own_t2 q1))] [(.int (q1 &&& (4 : Int32)))])) _
      refine XS.ifYes X0.here hx rfl (pc0 := 27) (pc' := 35) rfl (hb hby own_d_method_2_code_27) rfl ((if0 _ _).trans (teq hd8).1) (by decide) (by decide) ?_
      exact k
    · rw [(show own_t3 q1 = ((own_t2 q1) ^^^ (49921 : Int32)) from if_neg hd8)] at k
      show Steps p.tables e below (s₁.setTop (mkF m 27 #[.val (.int q1), .val (.int (own_t2 q1))] [(.int (q1 &&& (4 : Int32)))])) _
      refine XS.ifNo X0.here hx rfl (hb hby own_d_method_2_code_27) rfl ((if0 _ _).trans (feq hd8).1) ?_
      show Steps p.tables e below (s₁.setTop (mkF m 30 #[.val (.int q1), .val (.int (own_t2 q1))] [])) _
      refine XS.iloadN X0.here hx rfl (hb hby own_d_method_2_code_30) rfl ?_
      show Steps p.tables e below (s₁.setTop (mkF m 31 #[.val (.int q1), .val (.int (own_t2 q1))] [(.int (own_t2 q1))])) _
      refine X0.ldcInt hx hown (mvT hZ (hw _ (List.mem_of_getElem? (i := 20) rfl))) (g := (mkF m 31 #[.val (.int q1), .val (.int (own_t2 q1))] [(.int (own_t2 q1))])) rfl (hb hby own_d_method_2_code_31) _ ?_
      show Steps p.tables e below (s₁.setTop (mkF m 33 #[.val (.int q1), .val (.int (own_t2 q1))] [(.int (49921 : Int32)), (.int (own_t2 q1))])) _
      refine XS.ixor X0.here hx rfl (hb hby own_d_method_2_code_33) rfl ?_
      show Steps p.tables e below (s₁.setTop (mkF m 34 #[.val (.int q1), .val (.int (own_t2 q1))] [(.int ((own_t2 q1) ^^^ (49921 : Int32)))])) _
      refine XS.istoreN X0.here hx rfl (hb hby own_d_method_2_code_34) rfl (l' := #[.val (.int q1), .val (.int ((own_t2 q1) ^^^ (49921 : Int32)))]) rfl ?_
      exact k)
  have pre10 : ∀ t, Steps p.tables e below (s₁.setTop (mkF m 39 #[.val (.int q1), .val (.int (own_t3 q1))] [(.int (q1 &&& (8 : Int32)))])) t → Steps p.tables e below (s₁.setTop (entryFrame m #[(.int q1)] 2)) t := fun t k => pre9 t (by
    show Steps p.tables e below (s₁.setTop (mkF m 35 #[.val (.int q1), .val (.int (own_t3 q1))] [])) _
    refine XS.iloadN X0.here hx rfl (hb hby own_d_method_2_code_35) rfl ?_
    show Steps p.tables e below (s₁.setTop (mkF m 36 #[.val (.int q1), .val (.int (own_t3 q1))] [(.int q1)])) _
    refine XS.bipush X0.here hx rfl (hb hby own_d_method_2_code_36) ?_
    show Steps p.tables e below (s₁.setTop (mkF m 38 #[.val (.int q1), .val (.int (own_t3 q1))] [(.int (8 : Int32)), (.int q1)])) _
    refine XS.iand X0.here hx rfl (hb hby own_d_method_2_code_38) rfl ?_
    exact k)
  have pre12 : ∀ t, Steps p.tables e below (s₁.setTop (mkF m 47 #[.val (.int q1), .val (.int (own_t4 q1))] [])) t → Steps p.tables e below (s₁.setTop (entryFrame m #[(.int q1)] 2)) t := fun t k => pre10 t (by
    by_cases hd11 : (q1 &&& (8 : Int32)) = (0 : Int32)
    · rw [(show own_t4 q1 = (own_t3 q1) from if_pos hd11)] at k
      show Steps p.tables e below (s₁.setTop (mkF m 39 #[.val (.int q1), .val (.int (own_t3 q1))] [(.int (q1 &&& (8 : Int32)))])) _
      refine XS.ifYes X0.here hx rfl (pc0 := 39) (pc' := 47) rfl (hb hby own_d_method_2_code_39) rfl ((if0 _ _).trans (teq hd11).1) (by decide) (by decide) ?_
      exact k
    · rw [(show own_t4 q1 = ((own_t3 q1) ^^^ (50689 : Int32)) from if_neg hd11)] at k
      show Steps p.tables e below (s₁.setTop (mkF m 39 #[.val (.int q1), .val (.int (own_t3 q1))] [(.int (q1 &&& (8 : Int32)))])) _
      refine XS.ifNo X0.here hx rfl (hb hby own_d_method_2_code_39) rfl ((if0 _ _).trans (feq hd11).1) ?_
      show Steps p.tables e below (s₁.setTop (mkF m 42 #[.val (.int q1), .val (.int (own_t3 q1))] [])) _
      refine XS.iloadN X0.here hx rfl (hb hby own_d_method_2_code_42) rfl ?_
      show Steps p.tables e below (s₁.setTop (mkF m 43 #[.val (.int q1), .val (.int (own_t3 q1))] [(.int (own_t3 q1))])) _
      refine X0.ldcInt hx hown (mvT hZ (hw _ (List.mem_of_getElem? (i := 21) rfl))) (g := (mkF m 43 #[.val (.int q1), .val (.int (own_t3 q1))] [(.int (own_t3 q1))])) rfl (hb hby own_d_method_2_code_43) _ ?_
      show Steps p.tables e below (s₁.setTop (mkF m 45 #[.val (.int q1), .val (.int (own_t3 q1))] [(.int (50689 : Int32)), (.int (own_t3 q1))])) _
      refine XS.ixor X0.here hx rfl (hb hby own_d_method_2_code_45) rfl ?_
      show Steps p.tables e below (s₁.setTop (mkF m 46 #[.val (.int q1), .val (.int (own_t3 q1))] [(.int ((own_t3 q1) ^^^ (50689 : Int32)))])) _
      refine XS.istoreN X0.here hx rfl (hb hby own_d_method_2_code_46) rfl (l' := #[.val (.int q1), .val (.int ((own_t3 q1) ^^^ (50689 : Int32)))]) rfl ?_
      exact k)
  have pre13 : ∀ t, Steps p.tables e below (s₁.setTop (mkF m 51 #[.val (.int q1), .val (.int (own_t4 q1))] [(.int (q1 &&& (16 : Int32)))])) t → Steps p.tables e below (s₁.setTop (entryFrame m #[(.int q1)] 2)) t := fun t k => pre12 t (by
    show Steps p.tables e below (s₁.setTop (mkF m 47 #[.val (.int q1), .val (.int (own_t4 q1))] [])) _
    refine XS.iloadN X0.here hx rfl (hb hby own_d_method_2_code_47) rfl ?_
    show Steps p.tables e below (s₁.setTop (mkF m 48 #[.val (.int q1), .val (.int (own_t4 q1))] [(.int q1)])) _
    refine XS.bipush X0.here hx rfl (hb hby own_d_method_2_code_48) ?_
    show Steps p.tables e below (s₁.setTop (mkF m 50 #[.val (.int q1), .val (.int (own_t4 q1))] [(.int (16 : Int32)), (.int q1)])) _
    refine XS.iand X0.here hx rfl (hb hby own_d_method_2_code_50) rfl ?_
    exact k)
  have pre15 : ∀ t, Steps p.tables e below (s₁.setTop (mkF m 59 #[.val (.int q1), .val (.int (own_t5 q1))] [])) t → Steps p.tables e below (s₁.setTop (entryFrame m #[(.int q1)] 2)) t := fun t k => pre13 t (by
    by_cases hd14 : (q1 &&& (16 : Int32)) = (0 : Int32)
    · rw [(show own_t5 q1 = (own_t4 q1) from if_pos hd14)] at k
      show Steps p.tables e below (s₁.setTop (mkF m 51 #[.val (.int q1), .val (.int (own_t4 q1))] [(.int (q1 &&& (16 : Int32)))])) _
      refine XS.ifYes X0.here hx rfl (pc0 := 51) (pc' := 59) rfl (hb hby own_d_method_2_code_51) rfl ((if0 _ _).trans (teq hd14).1) (by decide) (by decide) ?_
      exact k
    · rw [(show own_t5 q1 = ((own_t4 q1) ^^^ (52225 : Int32)) from if_neg hd14)] at k
      show Steps p.tables e below (s₁.setTop (mkF m 51 #[.val (.int q1), .val (.int (own_t4 q1))] [(.int (q1 &&& (16 : Int32)))])) _
      refine XS.ifNo X0.here hx rfl (hb hby own_d_method_2_code_51) rfl ((if0 _ _).trans (feq hd14).1) ?_
      show Steps p.tables e below (s₁.setTop (mkF m 54 #[.val (.int q1), .val (.int (own_t4 q1))] [])) _
      refine XS.iloadN X0.here hx rfl (hb hby own_d_method_2_code_54) rfl ?_
      show Steps p.tables e below (s₁.setTop (mkF m 55 #[.val (.int q1), .val (.int (own_t4 q1))] [(.int (own_t4 q1))])) _
      refine X0.ldcInt hx hown (mvT hZ (hw _ (List.mem_of_getElem? (i := 17) rfl))) (g := (mkF m 55 #[.val (.int q1), .val (.int (own_t4 q1))] [(.int (own_t4 q1))])) rfl (hb hby own_d_method_2_code_55) _ ?_
      show Steps p.tables e below (s₁.setTop (mkF m 57 #[.val (.int q1), .val (.int (own_t4 q1))] [(.int (52225 : Int32)), (.int (own_t4 q1))])) _
      refine XS.ixor X0.here hx rfl (hb hby own_d_method_2_code_57) rfl ?_
      show Steps p.tables e below (s₁.setTop (mkF m 58 #[.val (.int q1), .val (.int (own_t4 q1))] [(.int ((own_t4 q1) ^^^ (52225 : Int32)))])) _
      refine XS.istoreN X0.here hx rfl (hb hby own_d_method_2_code_58) rfl (l' := #[.val (.int q1), .val (.int ((own_t4 q1) ^^^ (52225 : Int32)))]) rfl ?_
      exact k)
  have pre16 : ∀ t, Steps p.tables e below (s₁.setTop (mkF m 63 #[.val (.int q1), .val (.int (own_t5 q1))] [(.int (q1 &&& (32 : Int32)))])) t → Steps p.tables e below (s₁.setTop (entryFrame m #[(.int q1)] 2)) t := fun t k => pre15 t (by
    show Steps p.tables e below (s₁.setTop (mkF m 59 #[.val (.int q1), .val (.int (own_t5 q1))] [])) _
    refine XS.iloadN X0.here hx rfl (hb hby own_d_method_2_code_59) rfl ?_
    show Steps p.tables e below (s₁.setTop (mkF m 60 #[.val (.int q1), .val (.int (own_t5 q1))] [(.int q1)])) _
    refine XS.bipush X0.here hx rfl (hb hby own_d_method_2_code_60) ?_
    show Steps p.tables e below (s₁.setTop (mkF m 62 #[.val (.int q1), .val (.int (own_t5 q1))] [(.int (32 : Int32)), (.int q1)])) _
    refine XS.iand X0.here hx rfl (hb hby own_d_method_2_code_62) rfl ?_
    exact k)
  have pre18 : ∀ t, Steps p.tables e below (s₁.setTop (mkF m 71 #[.val (.int q1), .val (.int (own_t6 q1))] [])) t → Steps p.tables e below (s₁.setTop (entryFrame m #[(.int q1)] 2)) t := fun t k => pre16 t (by
    by_cases hd17 : (q1 &&& (32 : Int32)) = (0 : Int32)
    · rw [(show own_t6 q1 = (own_t5 q1) from if_pos hd17)] at k
      show Steps p.tables e below (s₁.setTop (mkF m 63 #[.val (.int q1), .val (.int (own_t5 q1))] [(.int (q1 &&& (32 : Int32)))])) _
      refine XS.ifYes X0.here hx rfl (pc0 := 63) (pc' := 71) rfl (hb hby own_d_method_2_code_63) rfl ((if0 _ _).trans (teq hd17).1) (by decide) (by decide) ?_
      exact k
    · rw [(show own_t6 q1 = ((own_t5 q1) ^^^ (55297 : Int32)) from if_neg hd17)] at k
      show Steps p.tables e below (s₁.setTop (mkF m 63 #[.val (.int q1), .val (.int (own_t5 q1))] [(.int (q1 &&& (32 : Int32)))])) _
      refine XS.ifNo X0.here hx rfl (hb hby own_d_method_2_code_63) rfl ((if0 _ _).trans (feq hd17).1) ?_
      show Steps p.tables e below (s₁.setTop (mkF m 66 #[.val (.int q1), .val (.int (own_t5 q1))] [])) _
      refine XS.iloadN X0.here hx rfl (hb hby own_d_method_2_code_66) rfl ?_
      show Steps p.tables e below (s₁.setTop (mkF m 67 #[.val (.int q1), .val (.int (own_t5 q1))] [(.int (own_t5 q1))])) _
      refine X0.ldcInt hx hown (mvT hZ (hw _ (List.mem_of_getElem? (i := 18) rfl))) (g := (mkF m 67 #[.val (.int q1), .val (.int (own_t5 q1))] [(.int (own_t5 q1))])) rfl (hb hby own_d_method_2_code_67) _ ?_
      show Steps p.tables e below (s₁.setTop (mkF m 69 #[.val (.int q1), .val (.int (own_t5 q1))] [(.int (55297 : Int32)), (.int (own_t5 q1))])) _
      refine XS.ixor X0.here hx rfl (hb hby own_d_method_2_code_69) rfl ?_
      show Steps p.tables e below (s₁.setTop (mkF m 70 #[.val (.int q1), .val (.int (own_t5 q1))] [(.int ((own_t5 q1) ^^^ (55297 : Int32)))])) _
      refine XS.istoreN X0.here hx rfl (hb hby own_d_method_2_code_70) rfl (l' := #[.val (.int q1), .val (.int ((own_t5 q1) ^^^ (55297 : Int32)))]) rfl ?_
      exact k)
  have pre19 : ∀ t, Steps p.tables e below (s₁.setTop (mkF m 75 #[.val (.int q1), .val (.int (own_t6 q1))] [(.int (q1 &&& (64 : Int32)))])) t → Steps p.tables e below (s₁.setTop (entryFrame m #[(.int q1)] 2)) t := fun t k => pre18 t (by
    show Steps p.tables e below (s₁.setTop (mkF m 71 #[.val (.int q1), .val (.int (own_t6 q1))] [])) _
    refine XS.iloadN X0.here hx rfl (hb hby own_d_method_2_code_71) rfl ?_
    show Steps p.tables e below (s₁.setTop (mkF m 72 #[.val (.int q1), .val (.int (own_t6 q1))] [(.int q1)])) _
    refine XS.bipush X0.here hx rfl (hb hby own_d_method_2_code_72) ?_
    show Steps p.tables e below (s₁.setTop (mkF m 74 #[.val (.int q1), .val (.int (own_t6 q1))] [(.int (64 : Int32)), (.int q1)])) _
    refine XS.iand X0.here hx rfl (hb hby own_d_method_2_code_74) rfl ?_
    exact k)
  have pre21 : ∀ t, Steps p.tables e below (s₁.setTop (mkF m 83 #[.val (.int q1), .val (.int (own_t7 q1))] [])) t → Steps p.tables e below (s₁.setTop (entryFrame m #[(.int q1)] 2)) t := fun t k => pre19 t (by
    by_cases hd20 : (q1 &&& (64 : Int32)) = (0 : Int32)
    · rw [(show own_t7 q1 = (own_t6 q1) from if_pos hd20)] at k
      show Steps p.tables e below (s₁.setTop (mkF m 75 #[.val (.int q1), .val (.int (own_t6 q1))] [(.int (q1 &&& (64 : Int32)))])) _
      refine XS.ifYes X0.here hx rfl (pc0 := 75) (pc' := 83) rfl (hb hby own_d_method_2_code_75) rfl ((if0 _ _).trans (teq hd20).1) (by decide) (by decide) ?_
      exact k
    · rw [(show own_t7 q1 = ((own_t6 q1) ^^^ (61441 : Int32)) from if_neg hd20)] at k
      show Steps p.tables e below (s₁.setTop (mkF m 75 #[.val (.int q1), .val (.int (own_t6 q1))] [(.int (q1 &&& (64 : Int32)))])) _
      refine XS.ifNo X0.here hx rfl (hb hby own_d_method_2_code_75) rfl ((if0 _ _).trans (feq hd20).1) ?_
      show Steps p.tables e below (s₁.setTop (mkF m 78 #[.val (.int q1), .val (.int (own_t6 q1))] [])) _
      refine XS.iloadN X0.here hx rfl (hb hby own_d_method_2_code_78) rfl ?_
      show Steps p.tables e below (s₁.setTop (mkF m 79 #[.val (.int q1), .val (.int (own_t6 q1))] [(.int (own_t6 q1))])) _
      refine X0.ldcInt hx hown (mvT hZ (hw _ (List.mem_of_getElem? (i := 16) rfl))) (g := (mkF m 79 #[.val (.int q1), .val (.int (own_t6 q1))] [(.int (own_t6 q1))])) rfl (hb hby own_d_method_2_code_79) _ ?_
      show Steps p.tables e below (s₁.setTop (mkF m 81 #[.val (.int q1), .val (.int (own_t6 q1))] [(.int (61441 : Int32)), (.int (own_t6 q1))])) _
      refine XS.ixor X0.here hx rfl (hb hby own_d_method_2_code_81) rfl ?_
      show Steps p.tables e below (s₁.setTop (mkF m 82 #[.val (.int q1), .val (.int (own_t6 q1))] [(.int ((own_t6 q1) ^^^ (61441 : Int32)))])) _
      refine XS.istoreN X0.here hx rfl (hb hby own_d_method_2_code_82) rfl (l' := #[.val (.int q1), .val (.int ((own_t6 q1) ^^^ (61441 : Int32)))]) rfl ?_
      exact k)
  have pre22 : ∀ t, Steps p.tables e below (s₁.setTop (mkF m 88 #[.val (.int q1), .val (.int (own_t7 q1))] [(.int (q1 &&& (128 : Int32)))])) t → Steps p.tables e below (s₁.setTop (entryFrame m #[(.int q1)] 2)) t := fun t k => pre21 t (by
    show Steps p.tables e below (s₁.setTop (mkF m 83 #[.val (.int q1), .val (.int (own_t7 q1))] [])) _
    refine XS.iloadN X0.here hx rfl (hb hby own_d_method_2_code_83) rfl ?_
    show Steps p.tables e below (s₁.setTop (mkF m 84 #[.val (.int q1), .val (.int (own_t7 q1))] [(.int q1)])) _
    refine XS.sipush X0.here hx rfl (hb hby own_d_method_2_code_84) ?_
    show Steps p.tables e below (s₁.setTop (mkF m 87 #[.val (.int q1), .val (.int (own_t7 q1))] [(.int (128 : Int32)), (.int q1)])) _
    refine XS.iand X0.here hx rfl (hb hby own_d_method_2_code_87) rfl ?_
    exact k)
  have pre24 : ∀ t, Steps p.tables e below (s₁.setTop (mkF m 96 #[.val (.int q1), .val (.int (own_t8 q1))] [])) t → Steps p.tables e below (s₁.setTop (entryFrame m #[(.int q1)] 2)) t := fun t k => pre22 t (by
    by_cases hd23 : (q1 &&& (128 : Int32)) = (0 : Int32)
    · rw [(show own_t8 q1 = (own_t7 q1) from if_pos hd23)] at k
      show Steps p.tables e below (s₁.setTop (mkF m 88 #[.val (.int q1), .val (.int (own_t7 q1))] [(.int (q1 &&& (128 : Int32)))])) _
      refine XS.ifYes X0.here hx rfl (pc0 := 88) (pc' := 96) rfl (hb hby own_d_method_2_code_88) rfl ((if0 _ _).trans (teq hd23).1) (by decide) (by decide) ?_
      exact k
    · rw [(show own_t8 q1 = ((own_t7 q1) ^^^ (40961 : Int32)) from if_neg hd23)] at k
      show Steps p.tables e below (s₁.setTop (mkF m 88 #[.val (.int q1), .val (.int (own_t7 q1))] [(.int (q1 &&& (128 : Int32)))])) _
      refine XS.ifNo X0.here hx rfl (hb hby own_d_method_2_code_88) rfl ((if0 _ _).trans (feq hd23).1) ?_
      show Steps p.tables e below (s₁.setTop (mkF m 91 #[.val (.int q1), .val (.int (own_t7 q1))] [])) _
      refine XS.iloadN X0.here hx rfl (hb hby own_d_method_2_code_91) rfl ?_
      show Steps p.tables e below (s₁.setTop (mkF m 92 #[.val (.int q1), .val (.int (own_t7 q1))] [(.int (own_t7 q1))])) _
      refine X0.ldcInt hx hown (mvT hZ (hw _ (List.mem_of_getElem? (i := 19) rfl))) (g := (mkF m 92 #[.val (.int q1), .val (.int (own_t7 q1))] [(.int (own_t7 q1))])) rfl (hb hby own_d_method_2_code_92) _ ?_
      show Steps p.tables e below (s₁.setTop (mkF m 94 #[.val (.int q1), .val (.int (own_t7 q1))] [(.int (40961 : Int32)), (.int (own_t7 q1))])) _
      refine XS.ixor X0.here hx rfl (hb hby own_d_method_2_code_94) rfl ?_
      show Steps p.tables e below (s₁.setTop (mkF m 95 #[.val (.int q1), .val (.int (own_t7 q1))] [(.int ((own_t7 q1) ^^^ (40961 : Int32)))])) _
      refine XS.istoreN X0.here hx rfl (hb hby own_d_method_2_code_95) rfl (l' := #[.val (.int q1), .val (.int ((own_t7 q1) ^^^ (40961 : Int32)))]) rfl ?_
      exact k)
  obtain ⟨fs, hr, hrun, hended, hW, hsame⟩ := X0.leave (v := some (.int (own_t8 q1))) (fun h => by rw [Bd.returns] at h; cases h)
  refine ⟨_, _, pre24 _ ?_, hrun, hended, _, _, rfl, ?_, ⟨_, rfl⟩, hW, hsame.mono (by decide) (by decide)⟩
  · show Steps p.tables e below (s₁.setTop (mkF m 96 #[.val (.int q1), .val (.int (own_t8 q1))] [])) _
    refine XS.iloadN X0.here hx rfl (hb hby own_d_method_2_code_96) rfl ?_
    show Steps p.tables e below (s₁.setTop (mkF m 97 #[.val (.int q1), .val (.int (own_t8 q1))] [(.int (own_t8 q1))])) _
    exact retI X0 hx Bd.returns (hb hby own_d_method_2_code_97) hr
  · show PQ (some (.int (own_t8 q1))) h0 n0 _ s₁.heap _
    rw [e0]
    exact ⟨rfl, N0, rfl⟩
theorem own_d_method_3_code_0 : decode method_3_code 0 = .ok (.iload_n 0, 1) := by decide +kernel
theorem own_d_method_3_code_1 : decode method_3_code 1 = .ok (.bipush 8, 2) := by decide +kernel
theorem own_d_method_3_code_3 : decode method_3_code 3 = .ok (.iushr, 1) := by decide +kernel
theorem own_d_method_3_code_4 : decode method_3_code 4 = .ok (.iload_n 0, 1) := by decide +kernel
theorem own_d_method_3_code_5 : decode method_3_code 5 = .ok (.iload_n 1, 1) := by decide +kernel
theorem own_d_method_3_code_6 : decode method_3_code 6 = .ok (.ixor, 1) := by decide +kernel
theorem own_d_method_3_code_7 : decode method_3_code 7 = .ok (.sipush 255, 3) := by decide +kernel
theorem own_d_method_3_code_10 : decode method_3_code 10 = .ok (.iand, 1) := by decide +kernel
theorem own_d_method_3_code_11 : decode method_3_code 11 = .ok (.invokestatic 15, 3) := by decide +kernel
theorem own_d_method_3_code_14 : decode method_3_code 14 = .ok (.ixor, 1) := by decide +kernel
theorem own_d_method_3_code_15 : decode method_3_code 15 = .ok (.ireturn, 1) := by decide +kernel
theorem own_ef_rmS (m : MethodId) (q1 : Int32) (q2 : Int32) : entryFrame m #[(.int q1), (.int q2)] 2 = mkF m 0 #[.val (.int q1), .val (.int q2)] [] := by first | (simp [entryFrame, mkF, argsToLocals, Value.category, maxLocals]; done) | rfl
set_option maxRecDepth 65536 in
set_option maxHeartbeats 40000000 in
theorem rmS (l : Launch) (Z : State) (a0 : Array Value) (hw : ∀ d ∈ tables_1, d.before a0 Z = true) (ws : List Jvm.Cond) (h0 : Heap) (n0 : Nat) (q1 : Int32) (q2 : Int32)  :
    MetFree l (⟨"com/example/dongl/dongl/crypto/Crc16ArcPinLaw", "step", "(II)I"⟩ : MethodName) (head1 (Jvm.Cond.code (⟨"com/example/dongl/dongl/crypto/Crc16ArcPinLaw", "step", "(II)I"⟩ : MethodName) method_3_code 2 (some .int) :: ws) ({ frames := 1, cells := 0, slots := 0, locals := 14 } : Room)) (fun a U => a = #[(.int q1), (.int q2)] ∧ Z.Warmed39 U.vm ∧ U.heap = h0) (fun _ _ _ _ _ => True) (fun _ U o U' => ∃ v L, o = .returned v ∧ (PQ (some (.int (own_step q1 q2))) h0 n0) v U'.heap L ∧ FrameEnd U o U' L ({ frames := 1, cells := 0, slots := 0, locals := 14 } : Room).cells ({ frames := 1, cells := 0, slots := 0, locals := 14 } : Room).slots) := by
  refine MetFree.of_bodySF (plainFor_of_name own_pn0) hisR ?_
  intro p e s m args below meth c s₁ Bd hml0 hP hK
  obtain ⟨rfl, hZ, hh⟩ := hP
  have hx := Bd.exec
  have hby := Bd.bytes
  have hml : c.maxLocals = 2 := hml0
  have hown : s.vm.findClass "com/example/dongl/dongl/crypto/Crc16ArcPinLaw" = some m.cls := findClass_of_methodNamed Bd.named
  have hnm := (name_of_methodNamed Bd.named Bd.method).1
  have X0 : Stand p l e ({ frames := 1, cells := 0, slots := 0, locals := 14 } : Room) s m #[(.int q1), (.int q2)] below meth c s₁ [] 0 0 := Stand.of_body Bd
  have e0 : s₁.heap = h0 := by rw [← hh, Bd.state]; rfl
  have N0 := Fr.nil n0
  have pre0 : ∀ t, Steps p.tables e below (s₁.setTop (mkF m 0 #[.val (.int q1), .val (.int q2)] [])) t → Steps p.tables e below (s₁.setTop (entryFrame m #[(.int q1), (.int q2)] 2)) t := fun t k => castTop (own_ef_rmS m q1 q2) k
  obtain ⟨_, _, ⟨T25, L25, k25, n25⟩, -, X25, ⟨Lc25, hQ25, l25, y25, z25⟩, st25⟩ := Jvm.LawKit.callS X0 hx (y := (⟨"com/example/dongl/dongl/crypto/Crc16ArcPinLaw", "t", "(I)I"⟩ : MethodName)) hown (mvT hZ (hw _ (List.mem_of_getElem? (i := 4) rfl))) (mvT hZ (hw _ (List.mem_of_getElem? (i := 5) rfl))) (mvT hZ (hw _ (List.mem_of_getElem? (i := 2) rfl))) (mvT hZ (hw _ (List.mem_of_getElem? (i := 6) rfl))) (by decide) (backOf (W := 1) (rmT l Z a0 hw [] h0 n0 ((q1 ^^^ q2) &&& (255 : Int32))) hZ (hw _ (List.mem_of_getElem? (i := 6) rfl)) (hw _ (List.mem_of_getElem? (i := 2) rfl)) (by decide) (by decide)) (g := (mkF m 11 #[.val (.int q1), .val (.int q2)] [(.int ((q1 ^^^ q2) &&& (255 : Int32))), (.int ((q1.toUInt32 >>> ((8 : Int32) &&& 31).toUInt32).toInt32))])) rfl (by rw [hml]; rfl) (argsL := [(.int ((q1 ^^^ q2) &&& (255 : Int32)))]) (rest := [(.int ((q1.toUInt32 >>> ((8 : Int32) &&& 31).toUInt32).toInt32))]) (lenOf own_pd0 rfl) rfl (by show 2 * 0 + _ ≤ _; exact Nat.le_of_eq rfl) (hb hby own_d_method_3_code_11) (fun _ _ => ⟨rfl, e0, (by decide : 0 + 0 ≤ _), (by decide : 0 + 0 ≤ _)⟩)
  dsimp only [Pt.U, Pt.locs, Pt.cells, Pt.slots] at X25 l25 y25 z25 st25 hQ25
  replace X25 := own_sub X25 l25 y25 z25
  obtain ⟨rfl, N25q, e25⟩ := hQ25
  have N25 := Fr.app N0 N25q
  obtain ⟨fs, hr, hrun, hended, hW, hsame⟩ := X25.leave (v := some (.int (own_step q1 q2))) (fun h => by rw [Bd.returns] at h; cases h)
  refine ⟨_, _, pre0 _ ?_, hrun, hended, _, _, rfl, ?_, ⟨_, rfl⟩, hW, hsame.mono (by decide) (by decide)⟩
  · show Steps p.tables e below (s₁.setTop (mkF m 0 #[.val (.int q1), .val (.int q2)] [])) _
    refine XS.iloadN X0.here hx rfl (hb hby own_d_method_3_code_0) rfl ?_
    show Steps p.tables e below (s₁.setTop (mkF m 1 #[.val (.int q1), .val (.int q2)] [(.int q1)])) _
    refine XS.bipush X0.here hx rfl (hb hby own_d_method_3_code_1) ?_
    show Steps p.tables e below (s₁.setTop (mkF m 3 #[.val (.int q1), .val (.int q2)] [(.int (8 : Int32)), (.int q1)])) _
    refine XS.iushr X0.here hx rfl (hb hby own_d_method_3_code_3) rfl ?_
    show Steps p.tables e below (s₁.setTop (mkF m 4 #[.val (.int q1), .val (.int q2)] [(.int ((q1.toUInt32 >>> ((8 : Int32) &&& 31).toUInt32).toInt32))])) _
    refine XS.iloadN X0.here hx rfl (hb hby own_d_method_3_code_4) rfl ?_
    show Steps p.tables e below (s₁.setTop (mkF m 5 #[.val (.int q1), .val (.int q2)] [(.int q1), (.int ((q1.toUInt32 >>> ((8 : Int32) &&& 31).toUInt32).toInt32))])) _
    refine XS.iloadN X0.here hx rfl (hb hby own_d_method_3_code_5) rfl ?_
    show Steps p.tables e below (s₁.setTop (mkF m 6 #[.val (.int q1), .val (.int q2)] [(.int q2), (.int q1), (.int ((q1.toUInt32 >>> ((8 : Int32) &&& 31).toUInt32).toInt32))])) _
    refine XS.ixor X0.here hx rfl (hb hby own_d_method_3_code_6) rfl ?_
    show Steps p.tables e below (s₁.setTop (mkF m 7 #[.val (.int q1), .val (.int q2)] [(.int (q1 ^^^ q2)), (.int ((q1.toUInt32 >>> ((8 : Int32) &&& 31).toUInt32).toInt32))])) _
    refine XS.sipush X0.here hx rfl (hb hby own_d_method_3_code_7) ?_
    show Steps p.tables e below (s₁.setTop (mkF m 10 #[.val (.int q1), .val (.int q2)] [(.int (255 : Int32)), (.int (q1 ^^^ q2)), (.int ((q1.toUInt32 >>> ((8 : Int32) &&& 31).toUInt32).toInt32))])) _
    refine XS.iand X0.here hx rfl (hb hby own_d_method_3_code_10) rfl ?_
    show Steps p.tables e below (s₁.setTop (mkF m 11 #[.val (.int q1), .val (.int q2)] [(.int ((q1 ^^^ q2) &&& (255 : Int32))), (.int ((q1.toUInt32 >>> ((8 : Int32) &&& 31).toUInt32).toInt32))])) _
    refine st25 _ ?_
    show Steps p.tables e below (T25.setTop (mkF m 14 #[.val (.int q1), .val (.int q2)] [(.int (own_t8 ((q1 ^^^ q2) &&& (255 : Int32)))), (.int ((q1.toUInt32 >>> ((8 : Int32) &&& 31).toUInt32).toInt32))])) _
    refine XS.ixor X25.here hx rfl (hb hby own_d_method_3_code_14) rfl ?_
    show Steps p.tables e below (T25.setTop (mkF m 15 #[.val (.int q1), .val (.int q2)] [(.int (own_step q1 q2))])) _
    exact retI X25 hx Bd.returns (hb hby own_d_method_3_code_15) hr
  · show PQ (some (.int (own_step q1 q2))) h0 n0 _ T25.heap _
    rw [e25]
    exact ⟨rfl, N25, rfl⟩
theorem own_d_prog_22_method_2_code_10 : decode prog_22_method_2_code 10 = .ok (.iload 4, 2) := by decide +kernel
theorem own_d_prog_22_method_2_code_12 : decode prog_22_method_2_code 12 = .ok (.iload_n 3, 1) := by decide +kernel
theorem own_d_prog_22_method_2_code_13 : decode prog_22_method_2_code 13 = .ok (.if_icmp .ge 60, 3) := by decide +kernel
theorem own_d_prog_22_method_2_code_16 : decode prog_22_method_2_code 16 = .ok (.aload_n 2, 1) := by decide +kernel
theorem own_d_prog_22_method_2_code_17 : decode prog_22_method_2_code 17 = .ok (.iload 4, 2) := by decide +kernel
theorem own_d_prog_22_method_2_code_19 : decode prog_22_method_2_code 19 = .ok (.baload, 1) := by decide +kernel
theorem own_d_prog_22_method_2_code_20 : decode prog_22_method_2_code 20 = .ok (.istore 5, 2) := by decide +kernel
theorem own_d_prog_22_method_2_code_22 : decode prog_22_method_2_code 22 = .ok (.iload_n 1, 1) := by decide +kernel
theorem own_d_prog_22_method_2_code_23 : decode prog_22_method_2_code 23 = .ok (.iload 5, 2) := by decide +kernel
theorem own_d_prog_22_method_2_code_25 : decode prog_22_method_2_code 25 = .ok (.sipush 255, 3) := by decide +kernel
theorem own_d_prog_22_method_2_code_28 : decode prog_22_method_2_code 28 = .ok (.iand, 1) := by decide +kernel
theorem own_d_prog_22_method_2_code_29 : decode prog_22_method_2_code 29 = .ok (.ixor, 1) := by decide +kernel
theorem own_d_prog_22_method_2_code_30 : decode prog_22_method_2_code 30 = .ok (.istore_n 1, 1) := by decide +kernel
theorem own_d_prog_22_method_2_code_31 : decode prog_22_method_2_code 31 = .ok (.iconst 0, 1) := by decide +kernel
theorem own_d_prog_22_method_2_code_32 : decode prog_22_method_2_code 32 = .ok (.istore 6, 2) := by decide +kernel
theorem own_d_prog_22_method_2_code_34 : decode prog_22_method_2_code 34 = .ok (.iload 6, 2) := by decide +kernel
theorem own_d_prog_22_method_2_code_36 : decode prog_22_method_2_code 36 = .ok (.bipush 8, 2) := by decide +kernel
theorem own_d_prog_22_method_2_code_38 : decode prog_22_method_2_code 38 = .ok (.if_icmp .ge 29, 3) := by decide +kernel
theorem own_d_prog_22_method_2_code_41 : decode prog_22_method_2_code 41 = .ok (.iload_n 1, 1) := by decide +kernel
theorem own_d_prog_22_method_2_code_42 : decode prog_22_method_2_code 42 = .ok (.iconst 1, 1) := by decide +kernel
theorem own_d_prog_22_method_2_code_43 : decode prog_22_method_2_code 43 = .ok (.iand, 1) := by decide +kernel
theorem own_d_prog_22_method_2_code_44 : decode prog_22_method_2_code 44 = .ok (.ifCond .eq 13, 3) := by decide +kernel
theorem own_d_prog_22_method_2_code_47 : decode prog_22_method_2_code 47 = .ok (.iload_n 1, 1) := by decide +kernel
theorem own_d_prog_22_method_2_code_48 : decode prog_22_method_2_code 48 = .ok (.iconst 1, 1) := by decide +kernel
theorem own_d_prog_22_method_2_code_49 : decode prog_22_method_2_code 49 = .ok (.iushr, 1) := by decide +kernel
theorem own_d_prog_22_method_2_code_50 : decode prog_22_method_2_code 50 = .ok (.ldc 11, 2) := by decide +kernel
theorem own_d_prog_22_method_2_code_52 : decode prog_22_method_2_code 52 = .ok (.ixor, 1) := by decide +kernel
theorem own_d_prog_22_method_2_code_53 : decode prog_22_method_2_code 53 = .ok (.istore_n 1, 1) := by decide +kernel
theorem own_d_prog_22_method_2_code_54 : decode prog_22_method_2_code 54 = .ok (.goto 7, 3) := by decide +kernel
theorem own_d_prog_22_method_2_code_57 : decode prog_22_method_2_code 57 = .ok (.iload_n 1, 1) := by decide +kernel
theorem own_d_prog_22_method_2_code_58 : decode prog_22_method_2_code 58 = .ok (.iconst 1, 1) := by decide +kernel
theorem own_d_prog_22_method_2_code_59 : decode prog_22_method_2_code 59 = .ok (.iushr, 1) := by decide +kernel
theorem own_d_prog_22_method_2_code_60 : decode prog_22_method_2_code 60 = .ok (.istore_n 1, 1) := by decide +kernel
theorem own_d_prog_22_method_2_code_61 : decode prog_22_method_2_code 61 = .ok (.iinc 6 1, 3) := by decide +kernel
theorem own_d_prog_22_method_2_code_64 : decode prog_22_method_2_code 64 = .ok (.goto (-30), 3) := by decide +kernel
theorem own_d_prog_22_method_2_code_67 : decode prog_22_method_2_code 67 = .ok (.iinc 4 1, 3) := by decide +kernel
theorem own_d_prog_22_method_2_code_70 : decode prog_22_method_2_code 70 = .ok (.goto (-60), 3) := by decide +kernel
set_option maxRecDepth 65536 in
set_option maxHeartbeats 40000000 in
theorem own_seg1 {p : Program} {l : Launch} {e : Env} {R : Room} {s : State} {m : MethodId} {args : Array Value} {below : List Frame} {meth : Method} {c : Code} {T0 : State} {locs : List Loc} {cells slots : Nat} {Z : State} {a0 : Array Value} (ar : Addr) (cl : Cell) (crc : Int32) (len : Int32) (i : Int32) (x : Int32)
    (X0 : Stand p l e R s m args below meth c T0 locs cells slots) (hx : p.tables.exec = Jvm.exec) (hZ : Z.Warmed39 s.vm) (hw : ∀ d ∈ tables_1, d.before a0 Z = true) (hby : c.code = prog_22_method_2_code) (hml : c.maxLocals = 7) (hown : s.vm.findClass "com/example/dongl/dongl/crypto/Crc16" = some m.cls) (Ar : Arr Z T0.heap ar cl .byte) (hlt : i < len) (hin : ¬ (i < 0 ∨ cl.slots.size ≤ i.toNatClampNeg)) (hat : cl.slots[i.toNatClampNeg]? = some (.int x)) :
    ∀ t, Steps p.tables e below (T0.setTop (mkF m 10 #[.val (.ref ar), .val (.int (own_bit (own_bit (own_bit (own_bit (own_bit (own_bit (own_bit (own_bit (crc ^^^ (x &&& (255 : Int32)))))))))))), .val (.ref ar), .val (.int len), .val (.int (i + (1 : Int32))), .val (.int x), .val (.int (8 : Int32))] [])) t → Steps p.tables e below (T0.setTop (mkF m 10 #[.val (.ref ar), .val (.int crc), .val (.ref ar), .val (.int len), .val (.int i), .unset, .unset] [])) t := by
  have pre0 : ∀ t, Steps p.tables e below (T0.setTop (mkF m 10 #[.val (.ref ar), .val (.int crc), .val (.ref ar), .val (.int len), .val (.int i), .unset, .unset] [])) t → Steps p.tables e below (T0.setTop (mkF m 10 #[.val (.ref ar), .val (.int crc), .val (.ref ar), .val (.int len), .val (.int i), .unset, .unset] [])) t := fun t k => k
  have pre26 : ∀ t, Steps p.tables e below (T0.setTop (mkF m 44 #[.val (.ref ar), .val (.int (crc ^^^ (x &&& (255 : Int32)))), .val (.ref ar), .val (.int len), .val (.int i), .val (.int x), .val (.int (0 : Int32))] [(.int ((crc ^^^ (x &&& (255 : Int32))) &&& (1 : Int32)))])) t → Steps p.tables e below (T0.setTop (mkF m 10 #[.val (.ref ar), .val (.int crc), .val (.ref ar), .val (.int len), .val (.int i), .unset, .unset] [])) t := fun t k => pre0 t (by
    show Steps p.tables e below (T0.setTop (mkF m 10 #[.val (.ref ar), .val (.int crc), .val (.ref ar), .val (.int len), .val (.int i), .unset, .unset] [])) _
    refine XS.iload X0.here hx rfl (hb hby own_d_prog_22_method_2_code_10) rfl ?_
    show Steps p.tables e below (T0.setTop (mkF m 12 #[.val (.ref ar), .val (.int crc), .val (.ref ar), .val (.int len), .val (.int i), .unset, .unset] [(.int i)])) _
    refine XS.iloadN X0.here hx rfl (hb hby own_d_prog_22_method_2_code_12) rfl ?_
    show Steps p.tables e below (T0.setTop (mkF m 13 #[.val (.ref ar), .val (.int crc), .val (.ref ar), .val (.int len), .val (.int i), .unset, .unset] [(.int len), (.int i)])) _
    refine XS.icmpNo X0.here hx rfl (hb hby own_d_prog_22_method_2_code_13) rfl (tlt hlt).2.1 ?_
    show Steps p.tables e below (T0.setTop (mkF m 16 #[.val (.ref ar), .val (.int crc), .val (.ref ar), .val (.int len), .val (.int i), .unset, .unset] [])) _
    refine XS.aloadN X0.here hx rfl (hb hby own_d_prog_22_method_2_code_16) rfl rfl ?_
    show Steps p.tables e below (T0.setTop (mkF m 17 #[.val (.ref ar), .val (.int crc), .val (.ref ar), .val (.int len), .val (.int i), .unset, .unset] [(.ref ar)])) _
    refine XS.iload X0.here hx rfl (hb hby own_d_prog_22_method_2_code_17) rfl ?_
    show Steps p.tables e below (T0.setTop (mkF m 19 #[.val (.ref ar), .val (.int crc), .val (.ref ar), .val (.int len), .val (.int i), .unset, .unset] [(.int i), (.ref ar)])) _
    refine X0.baloadBytes hx (j := i) (v := (.int x)) (by exact Ar.1) (State.isArrayOf_alike hZ.alike Ar.2.1) Ar.2.2 hin hat (g := (mkF m 19 #[.val (.ref ar), .val (.int crc), .val (.ref ar), .val (.int len), .val (.int i), .unset, .unset] [(.int i), (.ref ar)])) rfl rfl (hb hby own_d_prog_22_method_2_code_19) _ ?_
    show Steps p.tables e below (T0.setTop (mkF m 20 #[.val (.ref ar), .val (.int crc), .val (.ref ar), .val (.int len), .val (.int i), .unset, .unset] [(.int x)])) _
    refine XS.istore X0.here hx rfl (hb hby own_d_prog_22_method_2_code_20) rfl (l' := #[.val (.ref ar), .val (.int crc), .val (.ref ar), .val (.int len), .val (.int i), .val (.int x), .unset]) rfl ?_
    show Steps p.tables e below (T0.setTop (mkF m 22 #[.val (.ref ar), .val (.int crc), .val (.ref ar), .val (.int len), .val (.int i), .val (.int x), .unset] [])) _
    refine XS.iloadN X0.here hx rfl (hb hby own_d_prog_22_method_2_code_22) rfl ?_
    show Steps p.tables e below (T0.setTop (mkF m 23 #[.val (.ref ar), .val (.int crc), .val (.ref ar), .val (.int len), .val (.int i), .val (.int x), .unset] [(.int crc)])) _
    refine XS.iload X0.here hx rfl (hb hby own_d_prog_22_method_2_code_23) rfl ?_
    show Steps p.tables e below (T0.setTop (mkF m 25 #[.val (.ref ar), .val (.int crc), .val (.ref ar), .val (.int len), .val (.int i), .val (.int x), .unset] [(.int x), (.int crc)])) _
    refine XS.sipush X0.here hx rfl (hb hby own_d_prog_22_method_2_code_25) ?_
    show Steps p.tables e below (T0.setTop (mkF m 28 #[.val (.ref ar), .val (.int crc), .val (.ref ar), .val (.int len), .val (.int i), .val (.int x), .unset] [(.int (255 : Int32)), (.int x), (.int crc)])) _
    refine XS.iand X0.here hx rfl (hb hby own_d_prog_22_method_2_code_28) rfl ?_
    show Steps p.tables e below (T0.setTop (mkF m 29 #[.val (.ref ar), .val (.int crc), .val (.ref ar), .val (.int len), .val (.int i), .val (.int x), .unset] [(.int (x &&& (255 : Int32))), (.int crc)])) _
    refine XS.ixor X0.here hx rfl (hb hby own_d_prog_22_method_2_code_29) rfl ?_
    show Steps p.tables e below (T0.setTop (mkF m 30 #[.val (.ref ar), .val (.int crc), .val (.ref ar), .val (.int len), .val (.int i), .val (.int x), .unset] [(.int (crc ^^^ (x &&& (255 : Int32))))])) _
    refine XS.istoreN X0.here hx rfl (hb hby own_d_prog_22_method_2_code_30) rfl (l' := #[.val (.ref ar), .val (.int (crc ^^^ (x &&& (255 : Int32)))), .val (.ref ar), .val (.int len), .val (.int i), .val (.int x), .unset]) rfl ?_
    show Steps p.tables e below (T0.setTop (mkF m 31 #[.val (.ref ar), .val (.int (crc ^^^ (x &&& (255 : Int32)))), .val (.ref ar), .val (.int len), .val (.int i), .val (.int x), .unset] [])) _
    refine XS.iconst X0.here hx rfl (hb hby own_d_prog_22_method_2_code_31) ?_
    show Steps p.tables e below (T0.setTop (mkF m 32 #[.val (.ref ar), .val (.int (crc ^^^ (x &&& (255 : Int32)))), .val (.ref ar), .val (.int len), .val (.int i), .val (.int x), .unset] [(.int (0 : Int32))])) _
    refine XS.istore X0.here hx rfl (hb hby own_d_prog_22_method_2_code_32) rfl (l' := #[.val (.ref ar), .val (.int (crc ^^^ (x &&& (255 : Int32)))), .val (.ref ar), .val (.int len), .val (.int i), .val (.int x), .val (.int (0 : Int32))]) rfl ?_
    show Steps p.tables e below (T0.setTop (mkF m 34 #[.val (.ref ar), .val (.int (crc ^^^ (x &&& (255 : Int32)))), .val (.ref ar), .val (.int len), .val (.int i), .val (.int x), .val (.int (0 : Int32))] [])) _
    refine XS.iload X0.here hx rfl (hb hby own_d_prog_22_method_2_code_34) rfl ?_
    show Steps p.tables e below (T0.setTop (mkF m 36 #[.val (.ref ar), .val (.int (crc ^^^ (x &&& (255 : Int32)))), .val (.ref ar), .val (.int len), .val (.int i), .val (.int x), .val (.int (0 : Int32))] [(.int (0 : Int32))])) _
    refine XS.bipush X0.here hx rfl (hb hby own_d_prog_22_method_2_code_36) ?_
    show Steps p.tables e below (T0.setTop (mkF m 38 #[.val (.ref ar), .val (.int (crc ^^^ (x &&& (255 : Int32)))), .val (.ref ar), .val (.int len), .val (.int i), .val (.int x), .val (.int (0 : Int32))] [(.int (8 : Int32)), (.int (0 : Int32))])) _
    refine XS.icmpNo X0.here hx rfl (hb hby own_d_prog_22_method_2_code_38) rfl (tlt (by decide : (0 : Int32) < (8 : Int32))).2.1 ?_
    show Steps p.tables e below (T0.setTop (mkF m 41 #[.val (.ref ar), .val (.int (crc ^^^ (x &&& (255 : Int32)))), .val (.ref ar), .val (.int len), .val (.int i), .val (.int x), .val (.int (0 : Int32))] [])) _
    refine XS.iloadN X0.here hx rfl (hb hby own_d_prog_22_method_2_code_41) rfl ?_
    show Steps p.tables e below (T0.setTop (mkF m 42 #[.val (.ref ar), .val (.int (crc ^^^ (x &&& (255 : Int32)))), .val (.ref ar), .val (.int len), .val (.int i), .val (.int x), .val (.int (0 : Int32))] [(.int (crc ^^^ (x &&& (255 : Int32))))])) _
    refine XS.iconst X0.here hx rfl (hb hby own_d_prog_22_method_2_code_42) ?_
    show Steps p.tables e below (T0.setTop (mkF m 43 #[.val (.ref ar), .val (.int (crc ^^^ (x &&& (255 : Int32)))), .val (.ref ar), .val (.int len), .val (.int i), .val (.int x), .val (.int (0 : Int32))] [(.int (1 : Int32)), (.int (crc ^^^ (x &&& (255 : Int32))))])) _
    refine XS.iand X0.here hx rfl (hb hby own_d_prog_22_method_2_code_43) rfl ?_
    exact k)
  have pre28 : ∀ t, Steps p.tables e below (T0.setTop (mkF m 61 #[.val (.ref ar), .val (.int (own_bit (crc ^^^ (x &&& (255 : Int32))))), .val (.ref ar), .val (.int len), .val (.int i), .val (.int x), .val (.int (0 : Int32))] [])) t → Steps p.tables e below (T0.setTop (mkF m 10 #[.val (.ref ar), .val (.int crc), .val (.ref ar), .val (.int len), .val (.int i), .unset, .unset] [])) t := fun t k => pre26 t (by
    by_cases hd27 : ((crc ^^^ (x &&& (255 : Int32))) &&& (1 : Int32)) = (0 : Int32)
    · rw [(show own_bit (crc ^^^ (x &&& (255 : Int32))) = _ from if_pos hd27)] at k
      show Steps p.tables e below (T0.setTop (mkF m 44 #[.val (.ref ar), .val (.int (crc ^^^ (x &&& (255 : Int32)))), .val (.ref ar), .val (.int len), .val (.int i), .val (.int x), .val (.int (0 : Int32))] [(.int ((crc ^^^ (x &&& (255 : Int32))) &&& (1 : Int32)))])) _
      refine XS.ifYes X0.here hx rfl (pc0 := 44) (pc' := 57) rfl (hb hby own_d_prog_22_method_2_code_44) rfl ((if0 _ _).trans (teq hd27).1) (by decide) (by decide) ?_
      show Steps p.tables e below (T0.setTop (mkF m 57 #[.val (.ref ar), .val (.int (crc ^^^ (x &&& (255 : Int32)))), .val (.ref ar), .val (.int len), .val (.int i), .val (.int x), .val (.int (0 : Int32))] [])) _
      refine XS.iloadN X0.here hx rfl (hb hby own_d_prog_22_method_2_code_57) rfl ?_
      show Steps p.tables e below (T0.setTop (mkF m 58 #[.val (.ref ar), .val (.int (crc ^^^ (x &&& (255 : Int32)))), .val (.ref ar), .val (.int len), .val (.int i), .val (.int x), .val (.int (0 : Int32))] [(.int (crc ^^^ (x &&& (255 : Int32))))])) _
      refine XS.iconst X0.here hx rfl (hb hby own_d_prog_22_method_2_code_58) ?_
      show Steps p.tables e below (T0.setTop (mkF m 59 #[.val (.ref ar), .val (.int (crc ^^^ (x &&& (255 : Int32)))), .val (.ref ar), .val (.int len), .val (.int i), .val (.int x), .val (.int (0 : Int32))] [(.int (1 : Int32)), (.int (crc ^^^ (x &&& (255 : Int32))))])) _
      refine XS.iushr X0.here hx rfl (hb hby own_d_prog_22_method_2_code_59) rfl ?_
      show Steps p.tables e below (T0.setTop (mkF m 60 #[.val (.ref ar), .val (.int (crc ^^^ (x &&& (255 : Int32)))), .val (.ref ar), .val (.int len), .val (.int i), .val (.int x), .val (.int (0 : Int32))] [(.int (((crc ^^^ (x &&& (255 : Int32))).toUInt32 >>> ((1 : Int32) &&& 31).toUInt32).toInt32))])) _
      refine XS.istoreN X0.here hx rfl (hb hby own_d_prog_22_method_2_code_60) rfl (l' := #[.val (.ref ar), .val (.int (((crc ^^^ (x &&& (255 : Int32))).toUInt32 >>> ((1 : Int32) &&& 31).toUInt32).toInt32)), .val (.ref ar), .val (.int len), .val (.int i), .val (.int x), .val (.int (0 : Int32))]) rfl ?_
      exact k
    · rw [(show own_bit (crc ^^^ (x &&& (255 : Int32))) = _ from if_neg hd27)] at k
      show Steps p.tables e below (T0.setTop (mkF m 44 #[.val (.ref ar), .val (.int (crc ^^^ (x &&& (255 : Int32)))), .val (.ref ar), .val (.int len), .val (.int i), .val (.int x), .val (.int (0 : Int32))] [(.int ((crc ^^^ (x &&& (255 : Int32))) &&& (1 : Int32)))])) _
      refine XS.ifNo X0.here hx rfl (hb hby own_d_prog_22_method_2_code_44) rfl ((if0 _ _).trans (feq hd27).1) ?_
      show Steps p.tables e below (T0.setTop (mkF m 47 #[.val (.ref ar), .val (.int (crc ^^^ (x &&& (255 : Int32)))), .val (.ref ar), .val (.int len), .val (.int i), .val (.int x), .val (.int (0 : Int32))] [])) _
      refine XS.iloadN X0.here hx rfl (hb hby own_d_prog_22_method_2_code_47) rfl ?_
      show Steps p.tables e below (T0.setTop (mkF m 48 #[.val (.ref ar), .val (.int (crc ^^^ (x &&& (255 : Int32)))), .val (.ref ar), .val (.int len), .val (.int i), .val (.int x), .val (.int (0 : Int32))] [(.int (crc ^^^ (x &&& (255 : Int32))))])) _
      refine XS.iconst X0.here hx rfl (hb hby own_d_prog_22_method_2_code_48) ?_
      show Steps p.tables e below (T0.setTop (mkF m 49 #[.val (.ref ar), .val (.int (crc ^^^ (x &&& (255 : Int32)))), .val (.ref ar), .val (.int len), .val (.int i), .val (.int x), .val (.int (0 : Int32))] [(.int (1 : Int32)), (.int (crc ^^^ (x &&& (255 : Int32))))])) _
      refine XS.iushr X0.here hx rfl (hb hby own_d_prog_22_method_2_code_49) rfl ?_
      show Steps p.tables e below (T0.setTop (mkF m 50 #[.val (.ref ar), .val (.int (crc ^^^ (x &&& (255 : Int32)))), .val (.ref ar), .val (.int len), .val (.int i), .val (.int x), .val (.int (0 : Int32))] [(.int (((crc ^^^ (x &&& (255 : Int32))).toUInt32 >>> ((1 : Int32) &&& 31).toUInt32).toInt32))])) _
      refine X0.ldcInt hx hown (mvT hZ (hw _ (List.mem_of_getElem? (i := 12) rfl))) (g := (mkF m 50 #[.val (.ref ar), .val (.int (crc ^^^ (x &&& (255 : Int32)))), .val (.ref ar), .val (.int len), .val (.int i), .val (.int x), .val (.int (0 : Int32))] [(.int (((crc ^^^ (x &&& (255 : Int32))).toUInt32 >>> ((1 : Int32) &&& 31).toUInt32).toInt32))])) rfl (hb hby own_d_prog_22_method_2_code_50) _ ?_
      show Steps p.tables e below (T0.setTop (mkF m 52 #[.val (.ref ar), .val (.int (crc ^^^ (x &&& (255 : Int32)))), .val (.ref ar), .val (.int len), .val (.int i), .val (.int x), .val (.int (0 : Int32))] [(.int (40961 : Int32)), (.int (((crc ^^^ (x &&& (255 : Int32))).toUInt32 >>> ((1 : Int32) &&& 31).toUInt32).toInt32))])) _
      refine XS.ixor X0.here hx rfl (hb hby own_d_prog_22_method_2_code_52) rfl ?_
      show Steps p.tables e below (T0.setTop (mkF m 53 #[.val (.ref ar), .val (.int (crc ^^^ (x &&& (255 : Int32)))), .val (.ref ar), .val (.int len), .val (.int i), .val (.int x), .val (.int (0 : Int32))] [(.int ((((crc ^^^ (x &&& (255 : Int32))).toUInt32 >>> ((1 : Int32) &&& 31).toUInt32).toInt32) ^^^ (40961 : Int32)))])) _
      refine XS.istoreN X0.here hx rfl (hb hby own_d_prog_22_method_2_code_53) rfl (l' := #[.val (.ref ar), .val (.int ((((crc ^^^ (x &&& (255 : Int32))).toUInt32 >>> ((1 : Int32) &&& 31).toUInt32).toInt32) ^^^ (40961 : Int32))), .val (.ref ar), .val (.int len), .val (.int i), .val (.int x), .val (.int (0 : Int32))]) rfl ?_
      show Steps p.tables e below (T0.setTop (mkF m 54 #[.val (.ref ar), .val (.int ((((crc ^^^ (x &&& (255 : Int32))).toUInt32 >>> ((1 : Int32) &&& 31).toUInt32).toInt32) ^^^ (40961 : Int32))), .val (.ref ar), .val (.int len), .val (.int i), .val (.int x), .val (.int (0 : Int32))] [])) _
      refine XS.goto X0.here hx rfl (pc0 := 54) (pc' := 61) rfl (hb hby own_d_prog_22_method_2_code_54) (by decide) (by decide) ?_
      exact k)
  have pre29 : ∀ t, Steps p.tables e below (T0.setTop (mkF m 44 #[.val (.ref ar), .val (.int (own_bit (crc ^^^ (x &&& (255 : Int32))))), .val (.ref ar), .val (.int len), .val (.int i), .val (.int x), .val (.int (1 : Int32))] [(.int ((own_bit (crc ^^^ (x &&& (255 : Int32)))) &&& (1 : Int32)))])) t → Steps p.tables e below (T0.setTop (mkF m 10 #[.val (.ref ar), .val (.int crc), .val (.ref ar), .val (.int len), .val (.int i), .unset, .unset] [])) t := fun t k => pre28 t (by
    show Steps p.tables e below (T0.setTop (mkF m 61 #[.val (.ref ar), .val (.int (own_bit (crc ^^^ (x &&& (255 : Int32))))), .val (.ref ar), .val (.int len), .val (.int i), .val (.int x), .val (.int (0 : Int32))] [])) _
    refine XS.iinc X0.here hx rfl (hb hby own_d_prog_22_method_2_code_61) rfl (l' := #[.val (.ref ar), .val (.int (own_bit (crc ^^^ (x &&& (255 : Int32))))), .val (.ref ar), .val (.int len), .val (.int i), .val (.int x), .val (.int (1 : Int32))]) rfl ?_
    show Steps p.tables e below (T0.setTop (mkF m 64 #[.val (.ref ar), .val (.int (own_bit (crc ^^^ (x &&& (255 : Int32))))), .val (.ref ar), .val (.int len), .val (.int i), .val (.int x), .val (.int (1 : Int32))] [])) _
    refine XS.goto X0.here hx rfl (pc0 := 64) (pc' := 34) rfl (hb hby own_d_prog_22_method_2_code_64) (by decide) (by decide) ?_
    show Steps p.tables e below (T0.setTop (mkF m 34 #[.val (.ref ar), .val (.int (own_bit (crc ^^^ (x &&& (255 : Int32))))), .val (.ref ar), .val (.int len), .val (.int i), .val (.int x), .val (.int (1 : Int32))] [])) _
    refine XS.iload X0.here hx rfl (hb hby own_d_prog_22_method_2_code_34) rfl ?_
    show Steps p.tables e below (T0.setTop (mkF m 36 #[.val (.ref ar), .val (.int (own_bit (crc ^^^ (x &&& (255 : Int32))))), .val (.ref ar), .val (.int len), .val (.int i), .val (.int x), .val (.int (1 : Int32))] [(.int (1 : Int32))])) _
    refine XS.bipush X0.here hx rfl (hb hby own_d_prog_22_method_2_code_36) ?_
    show Steps p.tables e below (T0.setTop (mkF m 38 #[.val (.ref ar), .val (.int (own_bit (crc ^^^ (x &&& (255 : Int32))))), .val (.ref ar), .val (.int len), .val (.int i), .val (.int x), .val (.int (1 : Int32))] [(.int (8 : Int32)), (.int (1 : Int32))])) _
    refine XS.icmpNo X0.here hx rfl (hb hby own_d_prog_22_method_2_code_38) rfl (tlt (by decide : (1 : Int32) < (8 : Int32))).2.1 ?_
    show Steps p.tables e below (T0.setTop (mkF m 41 #[.val (.ref ar), .val (.int (own_bit (crc ^^^ (x &&& (255 : Int32))))), .val (.ref ar), .val (.int len), .val (.int i), .val (.int x), .val (.int (1 : Int32))] [])) _
    refine XS.iloadN X0.here hx rfl (hb hby own_d_prog_22_method_2_code_41) rfl ?_
    show Steps p.tables e below (T0.setTop (mkF m 42 #[.val (.ref ar), .val (.int (own_bit (crc ^^^ (x &&& (255 : Int32))))), .val (.ref ar), .val (.int len), .val (.int i), .val (.int x), .val (.int (1 : Int32))] [(.int (own_bit (crc ^^^ (x &&& (255 : Int32)))))])) _
    refine XS.iconst X0.here hx rfl (hb hby own_d_prog_22_method_2_code_42) ?_
    show Steps p.tables e below (T0.setTop (mkF m 43 #[.val (.ref ar), .val (.int (own_bit (crc ^^^ (x &&& (255 : Int32))))), .val (.ref ar), .val (.int len), .val (.int i), .val (.int x), .val (.int (1 : Int32))] [(.int (1 : Int32)), (.int (own_bit (crc ^^^ (x &&& (255 : Int32)))))])) _
    refine XS.iand X0.here hx rfl (hb hby own_d_prog_22_method_2_code_43) rfl ?_
    exact k)
  have pre31 : ∀ t, Steps p.tables e below (T0.setTop (mkF m 61 #[.val (.ref ar), .val (.int (own_bit (own_bit (crc ^^^ (x &&& (255 : Int32)))))), .val (.ref ar), .val (.int len), .val (.int i), .val (.int x), .val (.int (1 : Int32))] [])) t → Steps p.tables e below (T0.setTop (mkF m 10 #[.val (.ref ar), .val (.int crc), .val (.ref ar), .val (.int len), .val (.int i), .unset, .unset] [])) t := fun t k => pre29 t (by
    by_cases hd30 : ((own_bit (crc ^^^ (x &&& (255 : Int32)))) &&& (1 : Int32)) = (0 : Int32)
    · rw [(show own_bit (own_bit (crc ^^^ (x &&& (255 : Int32)))) = _ from if_pos hd30)] at k
      show Steps p.tables e below (T0.setTop (mkF m 44 #[.val (.ref ar), .val (.int (own_bit (crc ^^^ (x &&& (255 : Int32))))), .val (.ref ar), .val (.int len), .val (.int i), .val (.int x), .val (.int (1 : Int32))] [(.int ((own_bit (crc ^^^ (x &&& (255 : Int32)))) &&& (1 : Int32)))])) _
      refine XS.ifYes X0.here hx rfl (pc0 := 44) (pc' := 57) rfl (hb hby own_d_prog_22_method_2_code_44) rfl ((if0 _ _).trans (teq hd30).1) (by decide) (by decide) ?_
      show Steps p.tables e below (T0.setTop (mkF m 57 #[.val (.ref ar), .val (.int (own_bit (crc ^^^ (x &&& (255 : Int32))))), .val (.ref ar), .val (.int len), .val (.int i), .val (.int x), .val (.int (1 : Int32))] [])) _
      refine XS.iloadN X0.here hx rfl (hb hby own_d_prog_22_method_2_code_57) rfl ?_
      show Steps p.tables e below (T0.setTop (mkF m 58 #[.val (.ref ar), .val (.int (own_bit (crc ^^^ (x &&& (255 : Int32))))), .val (.ref ar), .val (.int len), .val (.int i), .val (.int x), .val (.int (1 : Int32))] [(.int (own_bit (crc ^^^ (x &&& (255 : Int32)))))])) _
      refine XS.iconst X0.here hx rfl (hb hby own_d_prog_22_method_2_code_58) ?_
      show Steps p.tables e below (T0.setTop (mkF m 59 #[.val (.ref ar), .val (.int (own_bit (crc ^^^ (x &&& (255 : Int32))))), .val (.ref ar), .val (.int len), .val (.int i), .val (.int x), .val (.int (1 : Int32))] [(.int (1 : Int32)), (.int (own_bit (crc ^^^ (x &&& (255 : Int32)))))])) _
      refine XS.iushr X0.here hx rfl (hb hby own_d_prog_22_method_2_code_59) rfl ?_
      show Steps p.tables e below (T0.setTop (mkF m 60 #[.val (.ref ar), .val (.int (own_bit (crc ^^^ (x &&& (255 : Int32))))), .val (.ref ar), .val (.int len), .val (.int i), .val (.int x), .val (.int (1 : Int32))] [(.int (((own_bit (crc ^^^ (x &&& (255 : Int32)))).toUInt32 >>> ((1 : Int32) &&& 31).toUInt32).toInt32))])) _
      refine XS.istoreN X0.here hx rfl (hb hby own_d_prog_22_method_2_code_60) rfl (l' := #[.val (.ref ar), .val (.int (((own_bit (crc ^^^ (x &&& (255 : Int32)))).toUInt32 >>> ((1 : Int32) &&& 31).toUInt32).toInt32)), .val (.ref ar), .val (.int len), .val (.int i), .val (.int x), .val (.int (1 : Int32))]) rfl ?_
      exact k
    · rw [(show own_bit (own_bit (crc ^^^ (x &&& (255 : Int32)))) = _ from if_neg hd30)] at k
      show Steps p.tables e below (T0.setTop (mkF m 44 #[.val (.ref ar), .val (.int (own_bit (crc ^^^ (x &&& (255 : Int32))))), .val (.ref ar), .val (.int len), .val (.int i), .val (.int x), .val (.int (1 : Int32))] [(.int ((own_bit (crc ^^^ (x &&& (255 : Int32)))) &&& (1 : Int32)))])) _
      refine XS.ifNo X0.here hx rfl (hb hby own_d_prog_22_method_2_code_44) rfl ((if0 _ _).trans (feq hd30).1) ?_
      show Steps p.tables e below (T0.setTop (mkF m 47 #[.val (.ref ar), .val (.int (own_bit (crc ^^^ (x &&& (255 : Int32))))), .val (.ref ar), .val (.int len), .val (.int i), .val (.int x), .val (.int (1 : Int32))] [])) _
      refine XS.iloadN X0.here hx rfl (hb hby own_d_prog_22_method_2_code_47) rfl ?_
      show Steps p.tables e below (T0.setTop (mkF m 48 #[.val (.ref ar), .val (.int (own_bit (crc ^^^ (x &&& (255 : Int32))))), .val (.ref ar), .val (.int len), .val (.int i), .val (.int x), .val (.int (1 : Int32))] [(.int (own_bit (crc ^^^ (x &&& (255 : Int32)))))])) _
      refine XS.iconst X0.here hx rfl (hb hby own_d_prog_22_method_2_code_48) ?_
      show Steps p.tables e below (T0.setTop (mkF m 49 #[.val (.ref ar), .val (.int (own_bit (crc ^^^ (x &&& (255 : Int32))))), .val (.ref ar), .val (.int len), .val (.int i), .val (.int x), .val (.int (1 : Int32))] [(.int (1 : Int32)), (.int (own_bit (crc ^^^ (x &&& (255 : Int32)))))])) _
      refine XS.iushr X0.here hx rfl (hb hby own_d_prog_22_method_2_code_49) rfl ?_
      show Steps p.tables e below (T0.setTop (mkF m 50 #[.val (.ref ar), .val (.int (own_bit (crc ^^^ (x &&& (255 : Int32))))), .val (.ref ar), .val (.int len), .val (.int i), .val (.int x), .val (.int (1 : Int32))] [(.int (((own_bit (crc ^^^ (x &&& (255 : Int32)))).toUInt32 >>> ((1 : Int32) &&& 31).toUInt32).toInt32))])) _
      refine X0.ldcInt hx hown (mvT hZ (hw _ (List.mem_of_getElem? (i := 12) rfl))) (g := (mkF m 50 #[.val (.ref ar), .val (.int (own_bit (crc ^^^ (x &&& (255 : Int32))))), .val (.ref ar), .val (.int len), .val (.int i), .val (.int x), .val (.int (1 : Int32))] [(.int (((own_bit (crc ^^^ (x &&& (255 : Int32)))).toUInt32 >>> ((1 : Int32) &&& 31).toUInt32).toInt32))])) rfl (hb hby own_d_prog_22_method_2_code_50) _ ?_
      show Steps p.tables e below (T0.setTop (mkF m 52 #[.val (.ref ar), .val (.int (own_bit (crc ^^^ (x &&& (255 : Int32))))), .val (.ref ar), .val (.int len), .val (.int i), .val (.int x), .val (.int (1 : Int32))] [(.int (40961 : Int32)), (.int (((own_bit (crc ^^^ (x &&& (255 : Int32)))).toUInt32 >>> ((1 : Int32) &&& 31).toUInt32).toInt32))])) _
      refine XS.ixor X0.here hx rfl (hb hby own_d_prog_22_method_2_code_52) rfl ?_
      show Steps p.tables e below (T0.setTop (mkF m 53 #[.val (.ref ar), .val (.int (own_bit (crc ^^^ (x &&& (255 : Int32))))), .val (.ref ar), .val (.int len), .val (.int i), .val (.int x), .val (.int (1 : Int32))] [(.int ((((own_bit (crc ^^^ (x &&& (255 : Int32)))).toUInt32 >>> ((1 : Int32) &&& 31).toUInt32).toInt32) ^^^ (40961 : Int32)))])) _
      refine XS.istoreN X0.here hx rfl (hb hby own_d_prog_22_method_2_code_53) rfl (l' := #[.val (.ref ar), .val (.int ((((own_bit (crc ^^^ (x &&& (255 : Int32)))).toUInt32 >>> ((1 : Int32) &&& 31).toUInt32).toInt32) ^^^ (40961 : Int32))), .val (.ref ar), .val (.int len), .val (.int i), .val (.int x), .val (.int (1 : Int32))]) rfl ?_
      show Steps p.tables e below (T0.setTop (mkF m 54 #[.val (.ref ar), .val (.int ((((own_bit (crc ^^^ (x &&& (255 : Int32)))).toUInt32 >>> ((1 : Int32) &&& 31).toUInt32).toInt32) ^^^ (40961 : Int32))), .val (.ref ar), .val (.int len), .val (.int i), .val (.int x), .val (.int (1 : Int32))] [])) _
      refine XS.goto X0.here hx rfl (pc0 := 54) (pc' := 61) rfl (hb hby own_d_prog_22_method_2_code_54) (by decide) (by decide) ?_
      exact k)
  have pre32 : ∀ t, Steps p.tables e below (T0.setTop (mkF m 44 #[.val (.ref ar), .val (.int (own_bit (own_bit (crc ^^^ (x &&& (255 : Int32)))))), .val (.ref ar), .val (.int len), .val (.int i), .val (.int x), .val (.int (2 : Int32))] [(.int ((own_bit (own_bit (crc ^^^ (x &&& (255 : Int32))))) &&& (1 : Int32)))])) t → Steps p.tables e below (T0.setTop (mkF m 10 #[.val (.ref ar), .val (.int crc), .val (.ref ar), .val (.int len), .val (.int i), .unset, .unset] [])) t := fun t k => pre31 t (by
    show Steps p.tables e below (T0.setTop (mkF m 61 #[.val (.ref ar), .val (.int (own_bit (own_bit (crc ^^^ (x &&& (255 : Int32)))))), .val (.ref ar), .val (.int len), .val (.int i), .val (.int x), .val (.int (1 : Int32))] [])) _
    refine XS.iinc X0.here hx rfl (hb hby own_d_prog_22_method_2_code_61) rfl (l' := #[.val (.ref ar), .val (.int (own_bit (own_bit (crc ^^^ (x &&& (255 : Int32)))))), .val (.ref ar), .val (.int len), .val (.int i), .val (.int x), .val (.int (2 : Int32))]) rfl ?_
    show Steps p.tables e below (T0.setTop (mkF m 64 #[.val (.ref ar), .val (.int (own_bit (own_bit (crc ^^^ (x &&& (255 : Int32)))))), .val (.ref ar), .val (.int len), .val (.int i), .val (.int x), .val (.int (2 : Int32))] [])) _
    refine XS.goto X0.here hx rfl (pc0 := 64) (pc' := 34) rfl (hb hby own_d_prog_22_method_2_code_64) (by decide) (by decide) ?_
    show Steps p.tables e below (T0.setTop (mkF m 34 #[.val (.ref ar), .val (.int (own_bit (own_bit (crc ^^^ (x &&& (255 : Int32)))))), .val (.ref ar), .val (.int len), .val (.int i), .val (.int x), .val (.int (2 : Int32))] [])) _
    refine XS.iload X0.here hx rfl (hb hby own_d_prog_22_method_2_code_34) rfl ?_
    show Steps p.tables e below (T0.setTop (mkF m 36 #[.val (.ref ar), .val (.int (own_bit (own_bit (crc ^^^ (x &&& (255 : Int32)))))), .val (.ref ar), .val (.int len), .val (.int i), .val (.int x), .val (.int (2 : Int32))] [(.int (2 : Int32))])) _
    refine XS.bipush X0.here hx rfl (hb hby own_d_prog_22_method_2_code_36) ?_
    show Steps p.tables e below (T0.setTop (mkF m 38 #[.val (.ref ar), .val (.int (own_bit (own_bit (crc ^^^ (x &&& (255 : Int32)))))), .val (.ref ar), .val (.int len), .val (.int i), .val (.int x), .val (.int (2 : Int32))] [(.int (8 : Int32)), (.int (2 : Int32))])) _
    refine XS.icmpNo X0.here hx rfl (hb hby own_d_prog_22_method_2_code_38) rfl (tlt (by decide : (2 : Int32) < (8 : Int32))).2.1 ?_
    show Steps p.tables e below (T0.setTop (mkF m 41 #[.val (.ref ar), .val (.int (own_bit (own_bit (crc ^^^ (x &&& (255 : Int32)))))), .val (.ref ar), .val (.int len), .val (.int i), .val (.int x), .val (.int (2 : Int32))] [])) _
    refine XS.iloadN X0.here hx rfl (hb hby own_d_prog_22_method_2_code_41) rfl ?_
    show Steps p.tables e below (T0.setTop (mkF m 42 #[.val (.ref ar), .val (.int (own_bit (own_bit (crc ^^^ (x &&& (255 : Int32)))))), .val (.ref ar), .val (.int len), .val (.int i), .val (.int x), .val (.int (2 : Int32))] [(.int (own_bit (own_bit (crc ^^^ (x &&& (255 : Int32))))))])) _
    refine XS.iconst X0.here hx rfl (hb hby own_d_prog_22_method_2_code_42) ?_
    show Steps p.tables e below (T0.setTop (mkF m 43 #[.val (.ref ar), .val (.int (own_bit (own_bit (crc ^^^ (x &&& (255 : Int32)))))), .val (.ref ar), .val (.int len), .val (.int i), .val (.int x), .val (.int (2 : Int32))] [(.int (1 : Int32)), (.int (own_bit (own_bit (crc ^^^ (x &&& (255 : Int32))))))])) _
    refine XS.iand X0.here hx rfl (hb hby own_d_prog_22_method_2_code_43) rfl ?_
    exact k)
  have pre34 : ∀ t, Steps p.tables e below (T0.setTop (mkF m 61 #[.val (.ref ar), .val (.int (own_bit (own_bit (own_bit (crc ^^^ (x &&& (255 : Int32))))))), .val (.ref ar), .val (.int len), .val (.int i), .val (.int x), .val (.int (2 : Int32))] [])) t → Steps p.tables e below (T0.setTop (mkF m 10 #[.val (.ref ar), .val (.int crc), .val (.ref ar), .val (.int len), .val (.int i), .unset, .unset] [])) t := fun t k => pre32 t (by
    by_cases hd33 : ((own_bit (own_bit (crc ^^^ (x &&& (255 : Int32))))) &&& (1 : Int32)) = (0 : Int32)
    · rw [(show own_bit (own_bit (own_bit (crc ^^^ (x &&& (255 : Int32))))) = _ from if_pos hd33)] at k
      show Steps p.tables e below (T0.setTop (mkF m 44 #[.val (.ref ar), .val (.int (own_bit (own_bit (crc ^^^ (x &&& (255 : Int32)))))), .val (.ref ar), .val (.int len), .val (.int i), .val (.int x), .val (.int (2 : Int32))] [(.int ((own_bit (own_bit (crc ^^^ (x &&& (255 : Int32))))) &&& (1 : Int32)))])) _
      refine XS.ifYes X0.here hx rfl (pc0 := 44) (pc' := 57) rfl (hb hby own_d_prog_22_method_2_code_44) rfl ((if0 _ _).trans (teq hd33).1) (by decide) (by decide) ?_
      show Steps p.tables e below (T0.setTop (mkF m 57 #[.val (.ref ar), .val (.int (own_bit (own_bit (crc ^^^ (x &&& (255 : Int32)))))), .val (.ref ar), .val (.int len), .val (.int i), .val (.int x), .val (.int (2 : Int32))] [])) _
      refine XS.iloadN X0.here hx rfl (hb hby own_d_prog_22_method_2_code_57) rfl ?_
      show Steps p.tables e below (T0.setTop (mkF m 58 #[.val (.ref ar), .val (.int (own_bit (own_bit (crc ^^^ (x &&& (255 : Int32)))))), .val (.ref ar), .val (.int len), .val (.int i), .val (.int x), .val (.int (2 : Int32))] [(.int (own_bit (own_bit (crc ^^^ (x &&& (255 : Int32))))))])) _
      refine XS.iconst X0.here hx rfl (hb hby own_d_prog_22_method_2_code_58) ?_
      show Steps p.tables e below (T0.setTop (mkF m 59 #[.val (.ref ar), .val (.int (own_bit (own_bit (crc ^^^ (x &&& (255 : Int32)))))), .val (.ref ar), .val (.int len), .val (.int i), .val (.int x), .val (.int (2 : Int32))] [(.int (1 : Int32)), (.int (own_bit (own_bit (crc ^^^ (x &&& (255 : Int32))))))])) _
      refine XS.iushr X0.here hx rfl (hb hby own_d_prog_22_method_2_code_59) rfl ?_
      show Steps p.tables e below (T0.setTop (mkF m 60 #[.val (.ref ar), .val (.int (own_bit (own_bit (crc ^^^ (x &&& (255 : Int32)))))), .val (.ref ar), .val (.int len), .val (.int i), .val (.int x), .val (.int (2 : Int32))] [(.int (((own_bit (own_bit (crc ^^^ (x &&& (255 : Int32))))).toUInt32 >>> ((1 : Int32) &&& 31).toUInt32).toInt32))])) _
      refine XS.istoreN X0.here hx rfl (hb hby own_d_prog_22_method_2_code_60) rfl (l' := #[.val (.ref ar), .val (.int (((own_bit (own_bit (crc ^^^ (x &&& (255 : Int32))))).toUInt32 >>> ((1 : Int32) &&& 31).toUInt32).toInt32)), .val (.ref ar), .val (.int len), .val (.int i), .val (.int x), .val (.int (2 : Int32))]) rfl ?_
      exact k
    · rw [(show own_bit (own_bit (own_bit (crc ^^^ (x &&& (255 : Int32))))) = _ from if_neg hd33)] at k
      show Steps p.tables e below (T0.setTop (mkF m 44 #[.val (.ref ar), .val (.int (own_bit (own_bit (crc ^^^ (x &&& (255 : Int32)))))), .val (.ref ar), .val (.int len), .val (.int i), .val (.int x), .val (.int (2 : Int32))] [(.int ((own_bit (own_bit (crc ^^^ (x &&& (255 : Int32))))) &&& (1 : Int32)))])) _
      refine XS.ifNo X0.here hx rfl (hb hby own_d_prog_22_method_2_code_44) rfl ((if0 _ _).trans (feq hd33).1) ?_
      show Steps p.tables e below (T0.setTop (mkF m 47 #[.val (.ref ar), .val (.int (own_bit (own_bit (crc ^^^ (x &&& (255 : Int32)))))), .val (.ref ar), .val (.int len), .val (.int i), .val (.int x), .val (.int (2 : Int32))] [])) _
      refine XS.iloadN X0.here hx rfl (hb hby own_d_prog_22_method_2_code_47) rfl ?_
      show Steps p.tables e below (T0.setTop (mkF m 48 #[.val (.ref ar), .val (.int (own_bit (own_bit (crc ^^^ (x &&& (255 : Int32)))))), .val (.ref ar), .val (.int len), .val (.int i), .val (.int x), .val (.int (2 : Int32))] [(.int (own_bit (own_bit (crc ^^^ (x &&& (255 : Int32))))))])) _
      refine XS.iconst X0.here hx rfl (hb hby own_d_prog_22_method_2_code_48) ?_
      show Steps p.tables e below (T0.setTop (mkF m 49 #[.val (.ref ar), .val (.int (own_bit (own_bit (crc ^^^ (x &&& (255 : Int32)))))), .val (.ref ar), .val (.int len), .val (.int i), .val (.int x), .val (.int (2 : Int32))] [(.int (1 : Int32)), (.int (own_bit (own_bit (crc ^^^ (x &&& (255 : Int32))))))])) _
      refine XS.iushr X0.here hx rfl (hb hby own_d_prog_22_method_2_code_49) rfl ?_
      show Steps p.tables e below (T0.setTop (mkF m 50 #[.val (.ref ar), .val (.int (own_bit (own_bit (crc ^^^ (x &&& (255 : Int32)))))), .val (.ref ar), .val (.int len), .val (.int i), .val (.int x), .val (.int (2 : Int32))] [(.int (((own_bit (own_bit (crc ^^^ (x &&& (255 : Int32))))).toUInt32 >>> ((1 : Int32) &&& 31).toUInt32).toInt32))])) _
      refine X0.ldcInt hx hown (mvT hZ (hw _ (List.mem_of_getElem? (i := 12) rfl))) (g := (mkF m 50 #[.val (.ref ar), .val (.int (own_bit (own_bit (crc ^^^ (x &&& (255 : Int32)))))), .val (.ref ar), .val (.int len), .val (.int i), .val (.int x), .val (.int (2 : Int32))] [(.int (((own_bit (own_bit (crc ^^^ (x &&& (255 : Int32))))).toUInt32 >>> ((1 : Int32) &&& 31).toUInt32).toInt32))])) rfl (hb hby own_d_prog_22_method_2_code_50) _ ?_
      show Steps p.tables e below (T0.setTop (mkF m 52 #[.val (.ref ar), .val (.int (own_bit (own_bit (crc ^^^ (x &&& (255 : Int32)))))), .val (.ref ar), .val (.int len), .val (.int i), .val (.int x), .val (.int (2 : Int32))] [(.int (40961 : Int32)), (.int (((own_bit (own_bit (crc ^^^ (x &&& (255 : Int32))))).toUInt32 >>> ((1 : Int32) &&& 31).toUInt32).toInt32))])) _
      refine XS.ixor X0.here hx rfl (hb hby own_d_prog_22_method_2_code_52) rfl ?_
      show Steps p.tables e below (T0.setTop (mkF m 53 #[.val (.ref ar), .val (.int (own_bit (own_bit (crc ^^^ (x &&& (255 : Int32)))))), .val (.ref ar), .val (.int len), .val (.int i), .val (.int x), .val (.int (2 : Int32))] [(.int ((((own_bit (own_bit (crc ^^^ (x &&& (255 : Int32))))).toUInt32 >>> ((1 : Int32) &&& 31).toUInt32).toInt32) ^^^ (40961 : Int32)))])) _
      refine XS.istoreN X0.here hx rfl (hb hby own_d_prog_22_method_2_code_53) rfl (l' := #[.val (.ref ar), .val (.int ((((own_bit (own_bit (crc ^^^ (x &&& (255 : Int32))))).toUInt32 >>> ((1 : Int32) &&& 31).toUInt32).toInt32) ^^^ (40961 : Int32))), .val (.ref ar), .val (.int len), .val (.int i), .val (.int x), .val (.int (2 : Int32))]) rfl ?_
      show Steps p.tables e below (T0.setTop (mkF m 54 #[.val (.ref ar), .val (.int ((((own_bit (own_bit (crc ^^^ (x &&& (255 : Int32))))).toUInt32 >>> ((1 : Int32) &&& 31).toUInt32).toInt32) ^^^ (40961 : Int32))), .val (.ref ar), .val (.int len), .val (.int i), .val (.int x), .val (.int (2 : Int32))] [])) _
      refine XS.goto X0.here hx rfl (pc0 := 54) (pc' := 61) rfl (hb hby own_d_prog_22_method_2_code_54) (by decide) (by decide) ?_
      exact k)
  have pre35 : ∀ t, Steps p.tables e below (T0.setTop (mkF m 44 #[.val (.ref ar), .val (.int (own_bit (own_bit (own_bit (crc ^^^ (x &&& (255 : Int32))))))), .val (.ref ar), .val (.int len), .val (.int i), .val (.int x), .val (.int (3 : Int32))] [(.int ((own_bit (own_bit (own_bit (crc ^^^ (x &&& (255 : Int32)))))) &&& (1 : Int32)))])) t → Steps p.tables e below (T0.setTop (mkF m 10 #[.val (.ref ar), .val (.int crc), .val (.ref ar), .val (.int len), .val (.int i), .unset, .unset] [])) t := fun t k => pre34 t (by
    show Steps p.tables e below (T0.setTop (mkF m 61 #[.val (.ref ar), .val (.int (own_bit (own_bit (own_bit (crc ^^^ (x &&& (255 : Int32))))))), .val (.ref ar), .val (.int len), .val (.int i), .val (.int x), .val (.int (2 : Int32))] [])) _
    refine XS.iinc X0.here hx rfl (hb hby own_d_prog_22_method_2_code_61) rfl (l' := #[.val (.ref ar), .val (.int (own_bit (own_bit (own_bit (crc ^^^ (x &&& (255 : Int32))))))), .val (.ref ar), .val (.int len), .val (.int i), .val (.int x), .val (.int (3 : Int32))]) rfl ?_
    show Steps p.tables e below (T0.setTop (mkF m 64 #[.val (.ref ar), .val (.int (own_bit (own_bit (own_bit (crc ^^^ (x &&& (255 : Int32))))))), .val (.ref ar), .val (.int len), .val (.int i), .val (.int x), .val (.int (3 : Int32))] [])) _
    refine XS.goto X0.here hx rfl (pc0 := 64) (pc' := 34) rfl (hb hby own_d_prog_22_method_2_code_64) (by decide) (by decide) ?_
    show Steps p.tables e below (T0.setTop (mkF m 34 #[.val (.ref ar), .val (.int (own_bit (own_bit (own_bit (crc ^^^ (x &&& (255 : Int32))))))), .val (.ref ar), .val (.int len), .val (.int i), .val (.int x), .val (.int (3 : Int32))] [])) _
    refine XS.iload X0.here hx rfl (hb hby own_d_prog_22_method_2_code_34) rfl ?_
    show Steps p.tables e below (T0.setTop (mkF m 36 #[.val (.ref ar), .val (.int (own_bit (own_bit (own_bit (crc ^^^ (x &&& (255 : Int32))))))), .val (.ref ar), .val (.int len), .val (.int i), .val (.int x), .val (.int (3 : Int32))] [(.int (3 : Int32))])) _
    refine XS.bipush X0.here hx rfl (hb hby own_d_prog_22_method_2_code_36) ?_
    show Steps p.tables e below (T0.setTop (mkF m 38 #[.val (.ref ar), .val (.int (own_bit (own_bit (own_bit (crc ^^^ (x &&& (255 : Int32))))))), .val (.ref ar), .val (.int len), .val (.int i), .val (.int x), .val (.int (3 : Int32))] [(.int (8 : Int32)), (.int (3 : Int32))])) _
    refine XS.icmpNo X0.here hx rfl (hb hby own_d_prog_22_method_2_code_38) rfl (tlt (by decide : (3 : Int32) < (8 : Int32))).2.1 ?_
    show Steps p.tables e below (T0.setTop (mkF m 41 #[.val (.ref ar), .val (.int (own_bit (own_bit (own_bit (crc ^^^ (x &&& (255 : Int32))))))), .val (.ref ar), .val (.int len), .val (.int i), .val (.int x), .val (.int (3 : Int32))] [])) _
    refine XS.iloadN X0.here hx rfl (hb hby own_d_prog_22_method_2_code_41) rfl ?_
    show Steps p.tables e below (T0.setTop (mkF m 42 #[.val (.ref ar), .val (.int (own_bit (own_bit (own_bit (crc ^^^ (x &&& (255 : Int32))))))), .val (.ref ar), .val (.int len), .val (.int i), .val (.int x), .val (.int (3 : Int32))] [(.int (own_bit (own_bit (own_bit (crc ^^^ (x &&& (255 : Int32)))))))])) _
    refine XS.iconst X0.here hx rfl (hb hby own_d_prog_22_method_2_code_42) ?_
    show Steps p.tables e below (T0.setTop (mkF m 43 #[.val (.ref ar), .val (.int (own_bit (own_bit (own_bit (crc ^^^ (x &&& (255 : Int32))))))), .val (.ref ar), .val (.int len), .val (.int i), .val (.int x), .val (.int (3 : Int32))] [(.int (1 : Int32)), (.int (own_bit (own_bit (own_bit (crc ^^^ (x &&& (255 : Int32)))))))])) _
    refine XS.iand X0.here hx rfl (hb hby own_d_prog_22_method_2_code_43) rfl ?_
    exact k)
  have pre37 : ∀ t, Steps p.tables e below (T0.setTop (mkF m 61 #[.val (.ref ar), .val (.int (own_bit (own_bit (own_bit (own_bit (crc ^^^ (x &&& (255 : Int32)))))))), .val (.ref ar), .val (.int len), .val (.int i), .val (.int x), .val (.int (3 : Int32))] [])) t → Steps p.tables e below (T0.setTop (mkF m 10 #[.val (.ref ar), .val (.int crc), .val (.ref ar), .val (.int len), .val (.int i), .unset, .unset] [])) t := fun t k => pre35 t (by
    by_cases hd36 : ((own_bit (own_bit (own_bit (crc ^^^ (x &&& (255 : Int32)))))) &&& (1 : Int32)) = (0 : Int32)
    · rw [(show own_bit (own_bit (own_bit (own_bit (crc ^^^ (x &&& (255 : Int32)))))) = _ from if_pos hd36)] at k
      show Steps p.tables e below (T0.setTop (mkF m 44 #[.val (.ref ar), .val (.int (own_bit (own_bit (own_bit (crc ^^^ (x &&& (255 : Int32))))))), .val (.ref ar), .val (.int len), .val (.int i), .val (.int x), .val (.int (3 : Int32))] [(.int ((own_bit (own_bit (own_bit (crc ^^^ (x &&& (255 : Int32)))))) &&& (1 : Int32)))])) _
      refine XS.ifYes X0.here hx rfl (pc0 := 44) (pc' := 57) rfl (hb hby own_d_prog_22_method_2_code_44) rfl ((if0 _ _).trans (teq hd36).1) (by decide) (by decide) ?_
      show Steps p.tables e below (T0.setTop (mkF m 57 #[.val (.ref ar), .val (.int (own_bit (own_bit (own_bit (crc ^^^ (x &&& (255 : Int32))))))), .val (.ref ar), .val (.int len), .val (.int i), .val (.int x), .val (.int (3 : Int32))] [])) _
      refine XS.iloadN X0.here hx rfl (hb hby own_d_prog_22_method_2_code_57) rfl ?_
      show Steps p.tables e below (T0.setTop (mkF m 58 #[.val (.ref ar), .val (.int (own_bit (own_bit (own_bit (crc ^^^ (x &&& (255 : Int32))))))), .val (.ref ar), .val (.int len), .val (.int i), .val (.int x), .val (.int (3 : Int32))] [(.int (own_bit (own_bit (own_bit (crc ^^^ (x &&& (255 : Int32)))))))])) _
      refine XS.iconst X0.here hx rfl (hb hby own_d_prog_22_method_2_code_58) ?_
      show Steps p.tables e below (T0.setTop (mkF m 59 #[.val (.ref ar), .val (.int (own_bit (own_bit (own_bit (crc ^^^ (x &&& (255 : Int32))))))), .val (.ref ar), .val (.int len), .val (.int i), .val (.int x), .val (.int (3 : Int32))] [(.int (1 : Int32)), (.int (own_bit (own_bit (own_bit (crc ^^^ (x &&& (255 : Int32)))))))])) _
      refine XS.iushr X0.here hx rfl (hb hby own_d_prog_22_method_2_code_59) rfl ?_
      show Steps p.tables e below (T0.setTop (mkF m 60 #[.val (.ref ar), .val (.int (own_bit (own_bit (own_bit (crc ^^^ (x &&& (255 : Int32))))))), .val (.ref ar), .val (.int len), .val (.int i), .val (.int x), .val (.int (3 : Int32))] [(.int (((own_bit (own_bit (own_bit (crc ^^^ (x &&& (255 : Int32)))))).toUInt32 >>> ((1 : Int32) &&& 31).toUInt32).toInt32))])) _
      refine XS.istoreN X0.here hx rfl (hb hby own_d_prog_22_method_2_code_60) rfl (l' := #[.val (.ref ar), .val (.int (((own_bit (own_bit (own_bit (crc ^^^ (x &&& (255 : Int32)))))).toUInt32 >>> ((1 : Int32) &&& 31).toUInt32).toInt32)), .val (.ref ar), .val (.int len), .val (.int i), .val (.int x), .val (.int (3 : Int32))]) rfl ?_
      exact k
    · rw [(show own_bit (own_bit (own_bit (own_bit (crc ^^^ (x &&& (255 : Int32)))))) = _ from if_neg hd36)] at k
      show Steps p.tables e below (T0.setTop (mkF m 44 #[.val (.ref ar), .val (.int (own_bit (own_bit (own_bit (crc ^^^ (x &&& (255 : Int32))))))), .val (.ref ar), .val (.int len), .val (.int i), .val (.int x), .val (.int (3 : Int32))] [(.int ((own_bit (own_bit (own_bit (crc ^^^ (x &&& (255 : Int32)))))) &&& (1 : Int32)))])) _
      refine XS.ifNo X0.here hx rfl (hb hby own_d_prog_22_method_2_code_44) rfl ((if0 _ _).trans (feq hd36).1) ?_
      show Steps p.tables e below (T0.setTop (mkF m 47 #[.val (.ref ar), .val (.int (own_bit (own_bit (own_bit (crc ^^^ (x &&& (255 : Int32))))))), .val (.ref ar), .val (.int len), .val (.int i), .val (.int x), .val (.int (3 : Int32))] [])) _
      refine XS.iloadN X0.here hx rfl (hb hby own_d_prog_22_method_2_code_47) rfl ?_
      show Steps p.tables e below (T0.setTop (mkF m 48 #[.val (.ref ar), .val (.int (own_bit (own_bit (own_bit (crc ^^^ (x &&& (255 : Int32))))))), .val (.ref ar), .val (.int len), .val (.int i), .val (.int x), .val (.int (3 : Int32))] [(.int (own_bit (own_bit (own_bit (crc ^^^ (x &&& (255 : Int32)))))))])) _
      refine XS.iconst X0.here hx rfl (hb hby own_d_prog_22_method_2_code_48) ?_
      show Steps p.tables e below (T0.setTop (mkF m 49 #[.val (.ref ar), .val (.int (own_bit (own_bit (own_bit (crc ^^^ (x &&& (255 : Int32))))))), .val (.ref ar), .val (.int len), .val (.int i), .val (.int x), .val (.int (3 : Int32))] [(.int (1 : Int32)), (.int (own_bit (own_bit (own_bit (crc ^^^ (x &&& (255 : Int32)))))))])) _
      refine XS.iushr X0.here hx rfl (hb hby own_d_prog_22_method_2_code_49) rfl ?_
      show Steps p.tables e below (T0.setTop (mkF m 50 #[.val (.ref ar), .val (.int (own_bit (own_bit (own_bit (crc ^^^ (x &&& (255 : Int32))))))), .val (.ref ar), .val (.int len), .val (.int i), .val (.int x), .val (.int (3 : Int32))] [(.int (((own_bit (own_bit (own_bit (crc ^^^ (x &&& (255 : Int32)))))).toUInt32 >>> ((1 : Int32) &&& 31).toUInt32).toInt32))])) _
      refine X0.ldcInt hx hown (mvT hZ (hw _ (List.mem_of_getElem? (i := 12) rfl))) (g := (mkF m 50 #[.val (.ref ar), .val (.int (own_bit (own_bit (own_bit (crc ^^^ (x &&& (255 : Int32))))))), .val (.ref ar), .val (.int len), .val (.int i), .val (.int x), .val (.int (3 : Int32))] [(.int (((own_bit (own_bit (own_bit (crc ^^^ (x &&& (255 : Int32)))))).toUInt32 >>> ((1 : Int32) &&& 31).toUInt32).toInt32))])) rfl (hb hby own_d_prog_22_method_2_code_50) _ ?_
      show Steps p.tables e below (T0.setTop (mkF m 52 #[.val (.ref ar), .val (.int (own_bit (own_bit (own_bit (crc ^^^ (x &&& (255 : Int32))))))), .val (.ref ar), .val (.int len), .val (.int i), .val (.int x), .val (.int (3 : Int32))] [(.int (40961 : Int32)), (.int (((own_bit (own_bit (own_bit (crc ^^^ (x &&& (255 : Int32)))))).toUInt32 >>> ((1 : Int32) &&& 31).toUInt32).toInt32))])) _
      refine XS.ixor X0.here hx rfl (hb hby own_d_prog_22_method_2_code_52) rfl ?_
      show Steps p.tables e below (T0.setTop (mkF m 53 #[.val (.ref ar), .val (.int (own_bit (own_bit (own_bit (crc ^^^ (x &&& (255 : Int32))))))), .val (.ref ar), .val (.int len), .val (.int i), .val (.int x), .val (.int (3 : Int32))] [(.int ((((own_bit (own_bit (own_bit (crc ^^^ (x &&& (255 : Int32)))))).toUInt32 >>> ((1 : Int32) &&& 31).toUInt32).toInt32) ^^^ (40961 : Int32)))])) _
      refine XS.istoreN X0.here hx rfl (hb hby own_d_prog_22_method_2_code_53) rfl (l' := #[.val (.ref ar), .val (.int ((((own_bit (own_bit (own_bit (crc ^^^ (x &&& (255 : Int32)))))).toUInt32 >>> ((1 : Int32) &&& 31).toUInt32).toInt32) ^^^ (40961 : Int32))), .val (.ref ar), .val (.int len), .val (.int i), .val (.int x), .val (.int (3 : Int32))]) rfl ?_
      show Steps p.tables e below (T0.setTop (mkF m 54 #[.val (.ref ar), .val (.int ((((own_bit (own_bit (own_bit (crc ^^^ (x &&& (255 : Int32)))))).toUInt32 >>> ((1 : Int32) &&& 31).toUInt32).toInt32) ^^^ (40961 : Int32))), .val (.ref ar), .val (.int len), .val (.int i), .val (.int x), .val (.int (3 : Int32))] [])) _
      refine XS.goto X0.here hx rfl (pc0 := 54) (pc' := 61) rfl (hb hby own_d_prog_22_method_2_code_54) (by decide) (by decide) ?_
      exact k)
  have pre38 : ∀ t, Steps p.tables e below (T0.setTop (mkF m 44 #[.val (.ref ar), .val (.int (own_bit (own_bit (own_bit (own_bit (crc ^^^ (x &&& (255 : Int32)))))))), .val (.ref ar), .val (.int len), .val (.int i), .val (.int x), .val (.int (4 : Int32))] [(.int ((own_bit (own_bit (own_bit (own_bit (crc ^^^ (x &&& (255 : Int32))))))) &&& (1 : Int32)))])) t → Steps p.tables e below (T0.setTop (mkF m 10 #[.val (.ref ar), .val (.int crc), .val (.ref ar), .val (.int len), .val (.int i), .unset, .unset] [])) t := fun t k => pre37 t (by
    show Steps p.tables e below (T0.setTop (mkF m 61 #[.val (.ref ar), .val (.int (own_bit (own_bit (own_bit (own_bit (crc ^^^ (x &&& (255 : Int32)))))))), .val (.ref ar), .val (.int len), .val (.int i), .val (.int x), .val (.int (3 : Int32))] [])) _
    refine XS.iinc X0.here hx rfl (hb hby own_d_prog_22_method_2_code_61) rfl (l' := #[.val (.ref ar), .val (.int (own_bit (own_bit (own_bit (own_bit (crc ^^^ (x &&& (255 : Int32)))))))), .val (.ref ar), .val (.int len), .val (.int i), .val (.int x), .val (.int (4 : Int32))]) rfl ?_
    show Steps p.tables e below (T0.setTop (mkF m 64 #[.val (.ref ar), .val (.int (own_bit (own_bit (own_bit (own_bit (crc ^^^ (x &&& (255 : Int32)))))))), .val (.ref ar), .val (.int len), .val (.int i), .val (.int x), .val (.int (4 : Int32))] [])) _
    refine XS.goto X0.here hx rfl (pc0 := 64) (pc' := 34) rfl (hb hby own_d_prog_22_method_2_code_64) (by decide) (by decide) ?_
    show Steps p.tables e below (T0.setTop (mkF m 34 #[.val (.ref ar), .val (.int (own_bit (own_bit (own_bit (own_bit (crc ^^^ (x &&& (255 : Int32)))))))), .val (.ref ar), .val (.int len), .val (.int i), .val (.int x), .val (.int (4 : Int32))] [])) _
    refine XS.iload X0.here hx rfl (hb hby own_d_prog_22_method_2_code_34) rfl ?_
    show Steps p.tables e below (T0.setTop (mkF m 36 #[.val (.ref ar), .val (.int (own_bit (own_bit (own_bit (own_bit (crc ^^^ (x &&& (255 : Int32)))))))), .val (.ref ar), .val (.int len), .val (.int i), .val (.int x), .val (.int (4 : Int32))] [(.int (4 : Int32))])) _
    refine XS.bipush X0.here hx rfl (hb hby own_d_prog_22_method_2_code_36) ?_
    show Steps p.tables e below (T0.setTop (mkF m 38 #[.val (.ref ar), .val (.int (own_bit (own_bit (own_bit (own_bit (crc ^^^ (x &&& (255 : Int32)))))))), .val (.ref ar), .val (.int len), .val (.int i), .val (.int x), .val (.int (4 : Int32))] [(.int (8 : Int32)), (.int (4 : Int32))])) _
    refine XS.icmpNo X0.here hx rfl (hb hby own_d_prog_22_method_2_code_38) rfl (tlt (by decide : (4 : Int32) < (8 : Int32))).2.1 ?_
    show Steps p.tables e below (T0.setTop (mkF m 41 #[.val (.ref ar), .val (.int (own_bit (own_bit (own_bit (own_bit (crc ^^^ (x &&& (255 : Int32)))))))), .val (.ref ar), .val (.int len), .val (.int i), .val (.int x), .val (.int (4 : Int32))] [])) _
    refine XS.iloadN X0.here hx rfl (hb hby own_d_prog_22_method_2_code_41) rfl ?_
    show Steps p.tables e below (T0.setTop (mkF m 42 #[.val (.ref ar), .val (.int (own_bit (own_bit (own_bit (own_bit (crc ^^^ (x &&& (255 : Int32)))))))), .val (.ref ar), .val (.int len), .val (.int i), .val (.int x), .val (.int (4 : Int32))] [(.int (own_bit (own_bit (own_bit (own_bit (crc ^^^ (x &&& (255 : Int32))))))))])) _
    refine XS.iconst X0.here hx rfl (hb hby own_d_prog_22_method_2_code_42) ?_
    show Steps p.tables e below (T0.setTop (mkF m 43 #[.val (.ref ar), .val (.int (own_bit (own_bit (own_bit (own_bit (crc ^^^ (x &&& (255 : Int32)))))))), .val (.ref ar), .val (.int len), .val (.int i), .val (.int x), .val (.int (4 : Int32))] [(.int (1 : Int32)), (.int (own_bit (own_bit (own_bit (own_bit (crc ^^^ (x &&& (255 : Int32))))))))])) _
    refine XS.iand X0.here hx rfl (hb hby own_d_prog_22_method_2_code_43) rfl ?_
    exact k)
  have pre40 : ∀ t, Steps p.tables e below (T0.setTop (mkF m 61 #[.val (.ref ar), .val (.int (own_bit (own_bit (own_bit (own_bit (own_bit (crc ^^^ (x &&& (255 : Int32))))))))), .val (.ref ar), .val (.int len), .val (.int i), .val (.int x), .val (.int (4 : Int32))] [])) t → Steps p.tables e below (T0.setTop (mkF m 10 #[.val (.ref ar), .val (.int crc), .val (.ref ar), .val (.int len), .val (.int i), .unset, .unset] [])) t := fun t k => pre38 t (by
    by_cases hd39 : ((own_bit (own_bit (own_bit (own_bit (crc ^^^ (x &&& (255 : Int32))))))) &&& (1 : Int32)) = (0 : Int32)
    · rw [(show own_bit (own_bit (own_bit (own_bit (own_bit (crc ^^^ (x &&& (255 : Int32))))))) = _ from if_pos hd39)] at k
      show Steps p.tables e below (T0.setTop (mkF m 44 #[.val (.ref ar), .val (.int (own_bit (own_bit (own_bit (own_bit (crc ^^^ (x &&& (255 : Int32)))))))), .val (.ref ar), .val (.int len), .val (.int i), .val (.int x), .val (.int (4 : Int32))] [(.int ((own_bit (own_bit (own_bit (own_bit (crc ^^^ (x &&& (255 : Int32))))))) &&& (1 : Int32)))])) _
      refine XS.ifYes X0.here hx rfl (pc0 := 44) (pc' := 57) rfl (hb hby own_d_prog_22_method_2_code_44) rfl ((if0 _ _).trans (teq hd39).1) (by decide) (by decide) ?_
      show Steps p.tables e below (T0.setTop (mkF m 57 #[.val (.ref ar), .val (.int (own_bit (own_bit (own_bit (own_bit (crc ^^^ (x &&& (255 : Int32)))))))), .val (.ref ar), .val (.int len), .val (.int i), .val (.int x), .val (.int (4 : Int32))] [])) _
      refine XS.iloadN X0.here hx rfl (hb hby own_d_prog_22_method_2_code_57) rfl ?_
      show Steps p.tables e below (T0.setTop (mkF m 58 #[.val (.ref ar), .val (.int (own_bit (own_bit (own_bit (own_bit (crc ^^^ (x &&& (255 : Int32)))))))), .val (.ref ar), .val (.int len), .val (.int i), .val (.int x), .val (.int (4 : Int32))] [(.int (own_bit (own_bit (own_bit (own_bit (crc ^^^ (x &&& (255 : Int32))))))))])) _
      refine XS.iconst X0.here hx rfl (hb hby own_d_prog_22_method_2_code_58) ?_
      show Steps p.tables e below (T0.setTop (mkF m 59 #[.val (.ref ar), .val (.int (own_bit (own_bit (own_bit (own_bit (crc ^^^ (x &&& (255 : Int32)))))))), .val (.ref ar), .val (.int len), .val (.int i), .val (.int x), .val (.int (4 : Int32))] [(.int (1 : Int32)), (.int (own_bit (own_bit (own_bit (own_bit (crc ^^^ (x &&& (255 : Int32))))))))])) _
      refine XS.iushr X0.here hx rfl (hb hby own_d_prog_22_method_2_code_59) rfl ?_
      show Steps p.tables e below (T0.setTop (mkF m 60 #[.val (.ref ar), .val (.int (own_bit (own_bit (own_bit (own_bit (crc ^^^ (x &&& (255 : Int32)))))))), .val (.ref ar), .val (.int len), .val (.int i), .val (.int x), .val (.int (4 : Int32))] [(.int (((own_bit (own_bit (own_bit (own_bit (crc ^^^ (x &&& (255 : Int32))))))).toUInt32 >>> ((1 : Int32) &&& 31).toUInt32).toInt32))])) _
      refine XS.istoreN X0.here hx rfl (hb hby own_d_prog_22_method_2_code_60) rfl (l' := #[.val (.ref ar), .val (.int (((own_bit (own_bit (own_bit (own_bit (crc ^^^ (x &&& (255 : Int32))))))).toUInt32 >>> ((1 : Int32) &&& 31).toUInt32).toInt32)), .val (.ref ar), .val (.int len), .val (.int i), .val (.int x), .val (.int (4 : Int32))]) rfl ?_
      exact k
    · rw [(show own_bit (own_bit (own_bit (own_bit (own_bit (crc ^^^ (x &&& (255 : Int32))))))) = _ from if_neg hd39)] at k
      show Steps p.tables e below (T0.setTop (mkF m 44 #[.val (.ref ar), .val (.int (own_bit (own_bit (own_bit (own_bit (crc ^^^ (x &&& (255 : Int32)))))))), .val (.ref ar), .val (.int len), .val (.int i), .val (.int x), .val (.int (4 : Int32))] [(.int ((own_bit (own_bit (own_bit (own_bit (crc ^^^ (x &&& (255 : Int32))))))) &&& (1 : Int32)))])) _
      refine XS.ifNo X0.here hx rfl (hb hby own_d_prog_22_method_2_code_44) rfl ((if0 _ _).trans (feq hd39).1) ?_
      show Steps p.tables e below (T0.setTop (mkF m 47 #[.val (.ref ar), .val (.int (own_bit (own_bit (own_bit (own_bit (crc ^^^ (x &&& (255 : Int32)))))))), .val (.ref ar), .val (.int len), .val (.int i), .val (.int x), .val (.int (4 : Int32))] [])) _
      refine XS.iloadN X0.here hx rfl (hb hby own_d_prog_22_method_2_code_47) rfl ?_
      show Steps p.tables e below (T0.setTop (mkF m 48 #[.val (.ref ar), .val (.int (own_bit (own_bit (own_bit (own_bit (crc ^^^ (x &&& (255 : Int32)))))))), .val (.ref ar), .val (.int len), .val (.int i), .val (.int x), .val (.int (4 : Int32))] [(.int (own_bit (own_bit (own_bit (own_bit (crc ^^^ (x &&& (255 : Int32))))))))])) _
      refine XS.iconst X0.here hx rfl (hb hby own_d_prog_22_method_2_code_48) ?_
      show Steps p.tables e below (T0.setTop (mkF m 49 #[.val (.ref ar), .val (.int (own_bit (own_bit (own_bit (own_bit (crc ^^^ (x &&& (255 : Int32)))))))), .val (.ref ar), .val (.int len), .val (.int i), .val (.int x), .val (.int (4 : Int32))] [(.int (1 : Int32)), (.int (own_bit (own_bit (own_bit (own_bit (crc ^^^ (x &&& (255 : Int32))))))))])) _
      refine XS.iushr X0.here hx rfl (hb hby own_d_prog_22_method_2_code_49) rfl ?_
      show Steps p.tables e below (T0.setTop (mkF m 50 #[.val (.ref ar), .val (.int (own_bit (own_bit (own_bit (own_bit (crc ^^^ (x &&& (255 : Int32)))))))), .val (.ref ar), .val (.int len), .val (.int i), .val (.int x), .val (.int (4 : Int32))] [(.int (((own_bit (own_bit (own_bit (own_bit (crc ^^^ (x &&& (255 : Int32))))))).toUInt32 >>> ((1 : Int32) &&& 31).toUInt32).toInt32))])) _
      refine X0.ldcInt hx hown (mvT hZ (hw _ (List.mem_of_getElem? (i := 12) rfl))) (g := (mkF m 50 #[.val (.ref ar), .val (.int (own_bit (own_bit (own_bit (own_bit (crc ^^^ (x &&& (255 : Int32)))))))), .val (.ref ar), .val (.int len), .val (.int i), .val (.int x), .val (.int (4 : Int32))] [(.int (((own_bit (own_bit (own_bit (own_bit (crc ^^^ (x &&& (255 : Int32))))))).toUInt32 >>> ((1 : Int32) &&& 31).toUInt32).toInt32))])) rfl (hb hby own_d_prog_22_method_2_code_50) _ ?_
      show Steps p.tables e below (T0.setTop (mkF m 52 #[.val (.ref ar), .val (.int (own_bit (own_bit (own_bit (own_bit (crc ^^^ (x &&& (255 : Int32)))))))), .val (.ref ar), .val (.int len), .val (.int i), .val (.int x), .val (.int (4 : Int32))] [(.int (40961 : Int32)), (.int (((own_bit (own_bit (own_bit (own_bit (crc ^^^ (x &&& (255 : Int32))))))).toUInt32 >>> ((1 : Int32) &&& 31).toUInt32).toInt32))])) _
      refine XS.ixor X0.here hx rfl (hb hby own_d_prog_22_method_2_code_52) rfl ?_
      show Steps p.tables e below (T0.setTop (mkF m 53 #[.val (.ref ar), .val (.int (own_bit (own_bit (own_bit (own_bit (crc ^^^ (x &&& (255 : Int32)))))))), .val (.ref ar), .val (.int len), .val (.int i), .val (.int x), .val (.int (4 : Int32))] [(.int ((((own_bit (own_bit (own_bit (own_bit (crc ^^^ (x &&& (255 : Int32))))))).toUInt32 >>> ((1 : Int32) &&& 31).toUInt32).toInt32) ^^^ (40961 : Int32)))])) _
      refine XS.istoreN X0.here hx rfl (hb hby own_d_prog_22_method_2_code_53) rfl (l' := #[.val (.ref ar), .val (.int ((((own_bit (own_bit (own_bit (own_bit (crc ^^^ (x &&& (255 : Int32))))))).toUInt32 >>> ((1 : Int32) &&& 31).toUInt32).toInt32) ^^^ (40961 : Int32))), .val (.ref ar), .val (.int len), .val (.int i), .val (.int x), .val (.int (4 : Int32))]) rfl ?_
      show Steps p.tables e below (T0.setTop (mkF m 54 #[.val (.ref ar), .val (.int ((((own_bit (own_bit (own_bit (own_bit (crc ^^^ (x &&& (255 : Int32))))))).toUInt32 >>> ((1 : Int32) &&& 31).toUInt32).toInt32) ^^^ (40961 : Int32))), .val (.ref ar), .val (.int len), .val (.int i), .val (.int x), .val (.int (4 : Int32))] [])) _
      refine XS.goto X0.here hx rfl (pc0 := 54) (pc' := 61) rfl (hb hby own_d_prog_22_method_2_code_54) (by decide) (by decide) ?_
      exact k)
  have pre41 : ∀ t, Steps p.tables e below (T0.setTop (mkF m 44 #[.val (.ref ar), .val (.int (own_bit (own_bit (own_bit (own_bit (own_bit (crc ^^^ (x &&& (255 : Int32))))))))), .val (.ref ar), .val (.int len), .val (.int i), .val (.int x), .val (.int (5 : Int32))] [(.int ((own_bit (own_bit (own_bit (own_bit (own_bit (crc ^^^ (x &&& (255 : Int32)))))))) &&& (1 : Int32)))])) t → Steps p.tables e below (T0.setTop (mkF m 10 #[.val (.ref ar), .val (.int crc), .val (.ref ar), .val (.int len), .val (.int i), .unset, .unset] [])) t := fun t k => pre40 t (by
    show Steps p.tables e below (T0.setTop (mkF m 61 #[.val (.ref ar), .val (.int (own_bit (own_bit (own_bit (own_bit (own_bit (crc ^^^ (x &&& (255 : Int32))))))))), .val (.ref ar), .val (.int len), .val (.int i), .val (.int x), .val (.int (4 : Int32))] [])) _
    refine XS.iinc X0.here hx rfl (hb hby own_d_prog_22_method_2_code_61) rfl (l' := #[.val (.ref ar), .val (.int (own_bit (own_bit (own_bit (own_bit (own_bit (crc ^^^ (x &&& (255 : Int32))))))))), .val (.ref ar), .val (.int len), .val (.int i), .val (.int x), .val (.int (5 : Int32))]) rfl ?_
    show Steps p.tables e below (T0.setTop (mkF m 64 #[.val (.ref ar), .val (.int (own_bit (own_bit (own_bit (own_bit (own_bit (crc ^^^ (x &&& (255 : Int32))))))))), .val (.ref ar), .val (.int len), .val (.int i), .val (.int x), .val (.int (5 : Int32))] [])) _
    refine XS.goto X0.here hx rfl (pc0 := 64) (pc' := 34) rfl (hb hby own_d_prog_22_method_2_code_64) (by decide) (by decide) ?_
    show Steps p.tables e below (T0.setTop (mkF m 34 #[.val (.ref ar), .val (.int (own_bit (own_bit (own_bit (own_bit (own_bit (crc ^^^ (x &&& (255 : Int32))))))))), .val (.ref ar), .val (.int len), .val (.int i), .val (.int x), .val (.int (5 : Int32))] [])) _
    refine XS.iload X0.here hx rfl (hb hby own_d_prog_22_method_2_code_34) rfl ?_
    show Steps p.tables e below (T0.setTop (mkF m 36 #[.val (.ref ar), .val (.int (own_bit (own_bit (own_bit (own_bit (own_bit (crc ^^^ (x &&& (255 : Int32))))))))), .val (.ref ar), .val (.int len), .val (.int i), .val (.int x), .val (.int (5 : Int32))] [(.int (5 : Int32))])) _
    refine XS.bipush X0.here hx rfl (hb hby own_d_prog_22_method_2_code_36) ?_
    show Steps p.tables e below (T0.setTop (mkF m 38 #[.val (.ref ar), .val (.int (own_bit (own_bit (own_bit (own_bit (own_bit (crc ^^^ (x &&& (255 : Int32))))))))), .val (.ref ar), .val (.int len), .val (.int i), .val (.int x), .val (.int (5 : Int32))] [(.int (8 : Int32)), (.int (5 : Int32))])) _
    refine XS.icmpNo X0.here hx rfl (hb hby own_d_prog_22_method_2_code_38) rfl (tlt (by decide : (5 : Int32) < (8 : Int32))).2.1 ?_
    show Steps p.tables e below (T0.setTop (mkF m 41 #[.val (.ref ar), .val (.int (own_bit (own_bit (own_bit (own_bit (own_bit (crc ^^^ (x &&& (255 : Int32))))))))), .val (.ref ar), .val (.int len), .val (.int i), .val (.int x), .val (.int (5 : Int32))] [])) _
    refine XS.iloadN X0.here hx rfl (hb hby own_d_prog_22_method_2_code_41) rfl ?_
    show Steps p.tables e below (T0.setTop (mkF m 42 #[.val (.ref ar), .val (.int (own_bit (own_bit (own_bit (own_bit (own_bit (crc ^^^ (x &&& (255 : Int32))))))))), .val (.ref ar), .val (.int len), .val (.int i), .val (.int x), .val (.int (5 : Int32))] [(.int (own_bit (own_bit (own_bit (own_bit (own_bit (crc ^^^ (x &&& (255 : Int32)))))))))])) _
    refine XS.iconst X0.here hx rfl (hb hby own_d_prog_22_method_2_code_42) ?_
    show Steps p.tables e below (T0.setTop (mkF m 43 #[.val (.ref ar), .val (.int (own_bit (own_bit (own_bit (own_bit (own_bit (crc ^^^ (x &&& (255 : Int32))))))))), .val (.ref ar), .val (.int len), .val (.int i), .val (.int x), .val (.int (5 : Int32))] [(.int (1 : Int32)), (.int (own_bit (own_bit (own_bit (own_bit (own_bit (crc ^^^ (x &&& (255 : Int32)))))))))])) _
    refine XS.iand X0.here hx rfl (hb hby own_d_prog_22_method_2_code_43) rfl ?_
    exact k)
  have pre43 : ∀ t, Steps p.tables e below (T0.setTop (mkF m 61 #[.val (.ref ar), .val (.int (own_bit (own_bit (own_bit (own_bit (own_bit (own_bit (crc ^^^ (x &&& (255 : Int32)))))))))), .val (.ref ar), .val (.int len), .val (.int i), .val (.int x), .val (.int (5 : Int32))] [])) t → Steps p.tables e below (T0.setTop (mkF m 10 #[.val (.ref ar), .val (.int crc), .val (.ref ar), .val (.int len), .val (.int i), .unset, .unset] [])) t := fun t k => pre41 t (by
    by_cases hd42 : ((own_bit (own_bit (own_bit (own_bit (own_bit (crc ^^^ (x &&& (255 : Int32)))))))) &&& (1 : Int32)) = (0 : Int32)
    · rw [(show own_bit (own_bit (own_bit (own_bit (own_bit (own_bit (crc ^^^ (x &&& (255 : Int32)))))))) = _ from if_pos hd42)] at k
      show Steps p.tables e below (T0.setTop (mkF m 44 #[.val (.ref ar), .val (.int (own_bit (own_bit (own_bit (own_bit (own_bit (crc ^^^ (x &&& (255 : Int32))))))))), .val (.ref ar), .val (.int len), .val (.int i), .val (.int x), .val (.int (5 : Int32))] [(.int ((own_bit (own_bit (own_bit (own_bit (own_bit (crc ^^^ (x &&& (255 : Int32)))))))) &&& (1 : Int32)))])) _
      refine XS.ifYes X0.here hx rfl (pc0 := 44) (pc' := 57) rfl (hb hby own_d_prog_22_method_2_code_44) rfl ((if0 _ _).trans (teq hd42).1) (by decide) (by decide) ?_
      show Steps p.tables e below (T0.setTop (mkF m 57 #[.val (.ref ar), .val (.int (own_bit (own_bit (own_bit (own_bit (own_bit (crc ^^^ (x &&& (255 : Int32))))))))), .val (.ref ar), .val (.int len), .val (.int i), .val (.int x), .val (.int (5 : Int32))] [])) _
      refine XS.iloadN X0.here hx rfl (hb hby own_d_prog_22_method_2_code_57) rfl ?_
      show Steps p.tables e below (T0.setTop (mkF m 58 #[.val (.ref ar), .val (.int (own_bit (own_bit (own_bit (own_bit (own_bit (crc ^^^ (x &&& (255 : Int32))))))))), .val (.ref ar), .val (.int len), .val (.int i), .val (.int x), .val (.int (5 : Int32))] [(.int (own_bit (own_bit (own_bit (own_bit (own_bit (crc ^^^ (x &&& (255 : Int32)))))))))])) _
      refine XS.iconst X0.here hx rfl (hb hby own_d_prog_22_method_2_code_58) ?_
      show Steps p.tables e below (T0.setTop (mkF m 59 #[.val (.ref ar), .val (.int (own_bit (own_bit (own_bit (own_bit (own_bit (crc ^^^ (x &&& (255 : Int32))))))))), .val (.ref ar), .val (.int len), .val (.int i), .val (.int x), .val (.int (5 : Int32))] [(.int (1 : Int32)), (.int (own_bit (own_bit (own_bit (own_bit (own_bit (crc ^^^ (x &&& (255 : Int32)))))))))])) _
      refine XS.iushr X0.here hx rfl (hb hby own_d_prog_22_method_2_code_59) rfl ?_
      show Steps p.tables e below (T0.setTop (mkF m 60 #[.val (.ref ar), .val (.int (own_bit (own_bit (own_bit (own_bit (own_bit (crc ^^^ (x &&& (255 : Int32))))))))), .val (.ref ar), .val (.int len), .val (.int i), .val (.int x), .val (.int (5 : Int32))] [(.int (((own_bit (own_bit (own_bit (own_bit (own_bit (crc ^^^ (x &&& (255 : Int32)))))))).toUInt32 >>> ((1 : Int32) &&& 31).toUInt32).toInt32))])) _
      refine XS.istoreN X0.here hx rfl (hb hby own_d_prog_22_method_2_code_60) rfl (l' := #[.val (.ref ar), .val (.int (((own_bit (own_bit (own_bit (own_bit (own_bit (crc ^^^ (x &&& (255 : Int32)))))))).toUInt32 >>> ((1 : Int32) &&& 31).toUInt32).toInt32)), .val (.ref ar), .val (.int len), .val (.int i), .val (.int x), .val (.int (5 : Int32))]) rfl ?_
      exact k
    · rw [(show own_bit (own_bit (own_bit (own_bit (own_bit (own_bit (crc ^^^ (x &&& (255 : Int32)))))))) = _ from if_neg hd42)] at k
      show Steps p.tables e below (T0.setTop (mkF m 44 #[.val (.ref ar), .val (.int (own_bit (own_bit (own_bit (own_bit (own_bit (crc ^^^ (x &&& (255 : Int32))))))))), .val (.ref ar), .val (.int len), .val (.int i), .val (.int x), .val (.int (5 : Int32))] [(.int ((own_bit (own_bit (own_bit (own_bit (own_bit (crc ^^^ (x &&& (255 : Int32)))))))) &&& (1 : Int32)))])) _
      refine XS.ifNo X0.here hx rfl (hb hby own_d_prog_22_method_2_code_44) rfl ((if0 _ _).trans (feq hd42).1) ?_
      show Steps p.tables e below (T0.setTop (mkF m 47 #[.val (.ref ar), .val (.int (own_bit (own_bit (own_bit (own_bit (own_bit (crc ^^^ (x &&& (255 : Int32))))))))), .val (.ref ar), .val (.int len), .val (.int i), .val (.int x), .val (.int (5 : Int32))] [])) _
      refine XS.iloadN X0.here hx rfl (hb hby own_d_prog_22_method_2_code_47) rfl ?_
      show Steps p.tables e below (T0.setTop (mkF m 48 #[.val (.ref ar), .val (.int (own_bit (own_bit (own_bit (own_bit (own_bit (crc ^^^ (x &&& (255 : Int32))))))))), .val (.ref ar), .val (.int len), .val (.int i), .val (.int x), .val (.int (5 : Int32))] [(.int (own_bit (own_bit (own_bit (own_bit (own_bit (crc ^^^ (x &&& (255 : Int32)))))))))])) _
      refine XS.iconst X0.here hx rfl (hb hby own_d_prog_22_method_2_code_48) ?_
      show Steps p.tables e below (T0.setTop (mkF m 49 #[.val (.ref ar), .val (.int (own_bit (own_bit (own_bit (own_bit (own_bit (crc ^^^ (x &&& (255 : Int32))))))))), .val (.ref ar), .val (.int len), .val (.int i), .val (.int x), .val (.int (5 : Int32))] [(.int (1 : Int32)), (.int (own_bit (own_bit (own_bit (own_bit (own_bit (crc ^^^ (x &&& (255 : Int32)))))))))])) _
      refine XS.iushr X0.here hx rfl (hb hby own_d_prog_22_method_2_code_49) rfl ?_
      show Steps p.tables e below (T0.setTop (mkF m 50 #[.val (.ref ar), .val (.int (own_bit (own_bit (own_bit (own_bit (own_bit (crc ^^^ (x &&& (255 : Int32))))))))), .val (.ref ar), .val (.int len), .val (.int i), .val (.int x), .val (.int (5 : Int32))] [(.int (((own_bit (own_bit (own_bit (own_bit (own_bit (crc ^^^ (x &&& (255 : Int32)))))))).toUInt32 >>> ((1 : Int32) &&& 31).toUInt32).toInt32))])) _
      refine X0.ldcInt hx hown (mvT hZ (hw _ (List.mem_of_getElem? (i := 12) rfl))) (g := (mkF m 50 #[.val (.ref ar), .val (.int (own_bit (own_bit (own_bit (own_bit (own_bit (crc ^^^ (x &&& (255 : Int32))))))))), .val (.ref ar), .val (.int len), .val (.int i), .val (.int x), .val (.int (5 : Int32))] [(.int (((own_bit (own_bit (own_bit (own_bit (own_bit (crc ^^^ (x &&& (255 : Int32)))))))).toUInt32 >>> ((1 : Int32) &&& 31).toUInt32).toInt32))])) rfl (hb hby own_d_prog_22_method_2_code_50) _ ?_
      show Steps p.tables e below (T0.setTop (mkF m 52 #[.val (.ref ar), .val (.int (own_bit (own_bit (own_bit (own_bit (own_bit (crc ^^^ (x &&& (255 : Int32))))))))), .val (.ref ar), .val (.int len), .val (.int i), .val (.int x), .val (.int (5 : Int32))] [(.int (40961 : Int32)), (.int (((own_bit (own_bit (own_bit (own_bit (own_bit (crc ^^^ (x &&& (255 : Int32)))))))).toUInt32 >>> ((1 : Int32) &&& 31).toUInt32).toInt32))])) _
      refine XS.ixor X0.here hx rfl (hb hby own_d_prog_22_method_2_code_52) rfl ?_
      show Steps p.tables e below (T0.setTop (mkF m 53 #[.val (.ref ar), .val (.int (own_bit (own_bit (own_bit (own_bit (own_bit (crc ^^^ (x &&& (255 : Int32))))))))), .val (.ref ar), .val (.int len), .val (.int i), .val (.int x), .val (.int (5 : Int32))] [(.int ((((own_bit (own_bit (own_bit (own_bit (own_bit (crc ^^^ (x &&& (255 : Int32)))))))).toUInt32 >>> ((1 : Int32) &&& 31).toUInt32).toInt32) ^^^ (40961 : Int32)))])) _
      refine XS.istoreN X0.here hx rfl (hb hby own_d_prog_22_method_2_code_53) rfl (l' := #[.val (.ref ar), .val (.int ((((own_bit (own_bit (own_bit (own_bit (own_bit (crc ^^^ (x &&& (255 : Int32)))))))).toUInt32 >>> ((1 : Int32) &&& 31).toUInt32).toInt32) ^^^ (40961 : Int32))), .val (.ref ar), .val (.int len), .val (.int i), .val (.int x), .val (.int (5 : Int32))]) rfl ?_
      show Steps p.tables e below (T0.setTop (mkF m 54 #[.val (.ref ar), .val (.int ((((own_bit (own_bit (own_bit (own_bit (own_bit (crc ^^^ (x &&& (255 : Int32)))))))).toUInt32 >>> ((1 : Int32) &&& 31).toUInt32).toInt32) ^^^ (40961 : Int32))), .val (.ref ar), .val (.int len), .val (.int i), .val (.int x), .val (.int (5 : Int32))] [])) _
      refine XS.goto X0.here hx rfl (pc0 := 54) (pc' := 61) rfl (hb hby own_d_prog_22_method_2_code_54) (by decide) (by decide) ?_
      exact k)
  have pre44 : ∀ t, Steps p.tables e below (T0.setTop (mkF m 44 #[.val (.ref ar), .val (.int (own_bit (own_bit (own_bit (own_bit (own_bit (own_bit (crc ^^^ (x &&& (255 : Int32)))))))))), .val (.ref ar), .val (.int len), .val (.int i), .val (.int x), .val (.int (6 : Int32))] [(.int ((own_bit (own_bit (own_bit (own_bit (own_bit (own_bit (crc ^^^ (x &&& (255 : Int32))))))))) &&& (1 : Int32)))])) t → Steps p.tables e below (T0.setTop (mkF m 10 #[.val (.ref ar), .val (.int crc), .val (.ref ar), .val (.int len), .val (.int i), .unset, .unset] [])) t := fun t k => pre43 t (by
    show Steps p.tables e below (T0.setTop (mkF m 61 #[.val (.ref ar), .val (.int (own_bit (own_bit (own_bit (own_bit (own_bit (own_bit (crc ^^^ (x &&& (255 : Int32)))))))))), .val (.ref ar), .val (.int len), .val (.int i), .val (.int x), .val (.int (5 : Int32))] [])) _
    refine XS.iinc X0.here hx rfl (hb hby own_d_prog_22_method_2_code_61) rfl (l' := #[.val (.ref ar), .val (.int (own_bit (own_bit (own_bit (own_bit (own_bit (own_bit (crc ^^^ (x &&& (255 : Int32)))))))))), .val (.ref ar), .val (.int len), .val (.int i), .val (.int x), .val (.int (6 : Int32))]) rfl ?_
    show Steps p.tables e below (T0.setTop (mkF m 64 #[.val (.ref ar), .val (.int (own_bit (own_bit (own_bit (own_bit (own_bit (own_bit (crc ^^^ (x &&& (255 : Int32)))))))))), .val (.ref ar), .val (.int len), .val (.int i), .val (.int x), .val (.int (6 : Int32))] [])) _
    refine XS.goto X0.here hx rfl (pc0 := 64) (pc' := 34) rfl (hb hby own_d_prog_22_method_2_code_64) (by decide) (by decide) ?_
    show Steps p.tables e below (T0.setTop (mkF m 34 #[.val (.ref ar), .val (.int (own_bit (own_bit (own_bit (own_bit (own_bit (own_bit (crc ^^^ (x &&& (255 : Int32)))))))))), .val (.ref ar), .val (.int len), .val (.int i), .val (.int x), .val (.int (6 : Int32))] [])) _
    refine XS.iload X0.here hx rfl (hb hby own_d_prog_22_method_2_code_34) rfl ?_
    show Steps p.tables e below (T0.setTop (mkF m 36 #[.val (.ref ar), .val (.int (own_bit (own_bit (own_bit (own_bit (own_bit (own_bit (crc ^^^ (x &&& (255 : Int32)))))))))), .val (.ref ar), .val (.int len), .val (.int i), .val (.int x), .val (.int (6 : Int32))] [(.int (6 : Int32))])) _
    refine XS.bipush X0.here hx rfl (hb hby own_d_prog_22_method_2_code_36) ?_
    show Steps p.tables e below (T0.setTop (mkF m 38 #[.val (.ref ar), .val (.int (own_bit (own_bit (own_bit (own_bit (own_bit (own_bit (crc ^^^ (x &&& (255 : Int32)))))))))), .val (.ref ar), .val (.int len), .val (.int i), .val (.int x), .val (.int (6 : Int32))] [(.int (8 : Int32)), (.int (6 : Int32))])) _
    refine XS.icmpNo X0.here hx rfl (hb hby own_d_prog_22_method_2_code_38) rfl (tlt (by decide : (6 : Int32) < (8 : Int32))).2.1 ?_
    show Steps p.tables e below (T0.setTop (mkF m 41 #[.val (.ref ar), .val (.int (own_bit (own_bit (own_bit (own_bit (own_bit (own_bit (crc ^^^ (x &&& (255 : Int32)))))))))), .val (.ref ar), .val (.int len), .val (.int i), .val (.int x), .val (.int (6 : Int32))] [])) _
    refine XS.iloadN X0.here hx rfl (hb hby own_d_prog_22_method_2_code_41) rfl ?_
    show Steps p.tables e below (T0.setTop (mkF m 42 #[.val (.ref ar), .val (.int (own_bit (own_bit (own_bit (own_bit (own_bit (own_bit (crc ^^^ (x &&& (255 : Int32)))))))))), .val (.ref ar), .val (.int len), .val (.int i), .val (.int x), .val (.int (6 : Int32))] [(.int (own_bit (own_bit (own_bit (own_bit (own_bit (own_bit (crc ^^^ (x &&& (255 : Int32))))))))))])) _
    refine XS.iconst X0.here hx rfl (hb hby own_d_prog_22_method_2_code_42) ?_
    show Steps p.tables e below (T0.setTop (mkF m 43 #[.val (.ref ar), .val (.int (own_bit (own_bit (own_bit (own_bit (own_bit (own_bit (crc ^^^ (x &&& (255 : Int32)))))))))), .val (.ref ar), .val (.int len), .val (.int i), .val (.int x), .val (.int (6 : Int32))] [(.int (1 : Int32)), (.int (own_bit (own_bit (own_bit (own_bit (own_bit (own_bit (crc ^^^ (x &&& (255 : Int32))))))))))])) _
    refine XS.iand X0.here hx rfl (hb hby own_d_prog_22_method_2_code_43) rfl ?_
    exact k)
  have pre46 : ∀ t, Steps p.tables e below (T0.setTop (mkF m 61 #[.val (.ref ar), .val (.int (own_bit (own_bit (own_bit (own_bit (own_bit (own_bit (own_bit (crc ^^^ (x &&& (255 : Int32))))))))))), .val (.ref ar), .val (.int len), .val (.int i), .val (.int x), .val (.int (6 : Int32))] [])) t → Steps p.tables e below (T0.setTop (mkF m 10 #[.val (.ref ar), .val (.int crc), .val (.ref ar), .val (.int len), .val (.int i), .unset, .unset] [])) t := fun t k => pre44 t (by
    by_cases hd45 : ((own_bit (own_bit (own_bit (own_bit (own_bit (own_bit (crc ^^^ (x &&& (255 : Int32))))))))) &&& (1 : Int32)) = (0 : Int32)
    · rw [(show own_bit (own_bit (own_bit (own_bit (own_bit (own_bit (own_bit (crc ^^^ (x &&& (255 : Int32))))))))) = _ from if_pos hd45)] at k
      show Steps p.tables e below (T0.setTop (mkF m 44 #[.val (.ref ar), .val (.int (own_bit (own_bit (own_bit (own_bit (own_bit (own_bit (crc ^^^ (x &&& (255 : Int32)))))))))), .val (.ref ar), .val (.int len), .val (.int i), .val (.int x), .val (.int (6 : Int32))] [(.int ((own_bit (own_bit (own_bit (own_bit (own_bit (own_bit (crc ^^^ (x &&& (255 : Int32))))))))) &&& (1 : Int32)))])) _
      refine XS.ifYes X0.here hx rfl (pc0 := 44) (pc' := 57) rfl (hb hby own_d_prog_22_method_2_code_44) rfl ((if0 _ _).trans (teq hd45).1) (by decide) (by decide) ?_
      show Steps p.tables e below (T0.setTop (mkF m 57 #[.val (.ref ar), .val (.int (own_bit (own_bit (own_bit (own_bit (own_bit (own_bit (crc ^^^ (x &&& (255 : Int32)))))))))), .val (.ref ar), .val (.int len), .val (.int i), .val (.int x), .val (.int (6 : Int32))] [])) _
      refine XS.iloadN X0.here hx rfl (hb hby own_d_prog_22_method_2_code_57) rfl ?_
      show Steps p.tables e below (T0.setTop (mkF m 58 #[.val (.ref ar), .val (.int (own_bit (own_bit (own_bit (own_bit (own_bit (own_bit (crc ^^^ (x &&& (255 : Int32)))))))))), .val (.ref ar), .val (.int len), .val (.int i), .val (.int x), .val (.int (6 : Int32))] [(.int (own_bit (own_bit (own_bit (own_bit (own_bit (own_bit (crc ^^^ (x &&& (255 : Int32))))))))))])) _
      refine XS.iconst X0.here hx rfl (hb hby own_d_prog_22_method_2_code_58) ?_
      show Steps p.tables e below (T0.setTop (mkF m 59 #[.val (.ref ar), .val (.int (own_bit (own_bit (own_bit (own_bit (own_bit (own_bit (crc ^^^ (x &&& (255 : Int32)))))))))), .val (.ref ar), .val (.int len), .val (.int i), .val (.int x), .val (.int (6 : Int32))] [(.int (1 : Int32)), (.int (own_bit (own_bit (own_bit (own_bit (own_bit (own_bit (crc ^^^ (x &&& (255 : Int32))))))))))])) _
      refine XS.iushr X0.here hx rfl (hb hby own_d_prog_22_method_2_code_59) rfl ?_
      show Steps p.tables e below (T0.setTop (mkF m 60 #[.val (.ref ar), .val (.int (own_bit (own_bit (own_bit (own_bit (own_bit (own_bit (crc ^^^ (x &&& (255 : Int32)))))))))), .val (.ref ar), .val (.int len), .val (.int i), .val (.int x), .val (.int (6 : Int32))] [(.int (((own_bit (own_bit (own_bit (own_bit (own_bit (own_bit (crc ^^^ (x &&& (255 : Int32))))))))).toUInt32 >>> ((1 : Int32) &&& 31).toUInt32).toInt32))])) _
      refine XS.istoreN X0.here hx rfl (hb hby own_d_prog_22_method_2_code_60) rfl (l' := #[.val (.ref ar), .val (.int (((own_bit (own_bit (own_bit (own_bit (own_bit (own_bit (crc ^^^ (x &&& (255 : Int32))))))))).toUInt32 >>> ((1 : Int32) &&& 31).toUInt32).toInt32)), .val (.ref ar), .val (.int len), .val (.int i), .val (.int x), .val (.int (6 : Int32))]) rfl ?_
      exact k
    · rw [(show own_bit (own_bit (own_bit (own_bit (own_bit (own_bit (own_bit (crc ^^^ (x &&& (255 : Int32))))))))) = _ from if_neg hd45)] at k
      show Steps p.tables e below (T0.setTop (mkF m 44 #[.val (.ref ar), .val (.int (own_bit (own_bit (own_bit (own_bit (own_bit (own_bit (crc ^^^ (x &&& (255 : Int32)))))))))), .val (.ref ar), .val (.int len), .val (.int i), .val (.int x), .val (.int (6 : Int32))] [(.int ((own_bit (own_bit (own_bit (own_bit (own_bit (own_bit (crc ^^^ (x &&& (255 : Int32))))))))) &&& (1 : Int32)))])) _
      refine XS.ifNo X0.here hx rfl (hb hby own_d_prog_22_method_2_code_44) rfl ((if0 _ _).trans (feq hd45).1) ?_
      show Steps p.tables e below (T0.setTop (mkF m 47 #[.val (.ref ar), .val (.int (own_bit (own_bit (own_bit (own_bit (own_bit (own_bit (crc ^^^ (x &&& (255 : Int32)))))))))), .val (.ref ar), .val (.int len), .val (.int i), .val (.int x), .val (.int (6 : Int32))] [])) _
      refine XS.iloadN X0.here hx rfl (hb hby own_d_prog_22_method_2_code_47) rfl ?_
      show Steps p.tables e below (T0.setTop (mkF m 48 #[.val (.ref ar), .val (.int (own_bit (own_bit (own_bit (own_bit (own_bit (own_bit (crc ^^^ (x &&& (255 : Int32)))))))))), .val (.ref ar), .val (.int len), .val (.int i), .val (.int x), .val (.int (6 : Int32))] [(.int (own_bit (own_bit (own_bit (own_bit (own_bit (own_bit (crc ^^^ (x &&& (255 : Int32))))))))))])) _
      refine XS.iconst X0.here hx rfl (hb hby own_d_prog_22_method_2_code_48) ?_
      show Steps p.tables e below (T0.setTop (mkF m 49 #[.val (.ref ar), .val (.int (own_bit (own_bit (own_bit (own_bit (own_bit (own_bit (crc ^^^ (x &&& (255 : Int32)))))))))), .val (.ref ar), .val (.int len), .val (.int i), .val (.int x), .val (.int (6 : Int32))] [(.int (1 : Int32)), (.int (own_bit (own_bit (own_bit (own_bit (own_bit (own_bit (crc ^^^ (x &&& (255 : Int32))))))))))])) _
      refine XS.iushr X0.here hx rfl (hb hby own_d_prog_22_method_2_code_49) rfl ?_
      show Steps p.tables e below (T0.setTop (mkF m 50 #[.val (.ref ar), .val (.int (own_bit (own_bit (own_bit (own_bit (own_bit (own_bit (crc ^^^ (x &&& (255 : Int32)))))))))), .val (.ref ar), .val (.int len), .val (.int i), .val (.int x), .val (.int (6 : Int32))] [(.int (((own_bit (own_bit (own_bit (own_bit (own_bit (own_bit (crc ^^^ (x &&& (255 : Int32))))))))).toUInt32 >>> ((1 : Int32) &&& 31).toUInt32).toInt32))])) _
      refine X0.ldcInt hx hown (mvT hZ (hw _ (List.mem_of_getElem? (i := 12) rfl))) (g := (mkF m 50 #[.val (.ref ar), .val (.int (own_bit (own_bit (own_bit (own_bit (own_bit (own_bit (crc ^^^ (x &&& (255 : Int32)))))))))), .val (.ref ar), .val (.int len), .val (.int i), .val (.int x), .val (.int (6 : Int32))] [(.int (((own_bit (own_bit (own_bit (own_bit (own_bit (own_bit (crc ^^^ (x &&& (255 : Int32))))))))).toUInt32 >>> ((1 : Int32) &&& 31).toUInt32).toInt32))])) rfl (hb hby own_d_prog_22_method_2_code_50) _ ?_
      show Steps p.tables e below (T0.setTop (mkF m 52 #[.val (.ref ar), .val (.int (own_bit (own_bit (own_bit (own_bit (own_bit (own_bit (crc ^^^ (x &&& (255 : Int32)))))))))), .val (.ref ar), .val (.int len), .val (.int i), .val (.int x), .val (.int (6 : Int32))] [(.int (40961 : Int32)), (.int (((own_bit (own_bit (own_bit (own_bit (own_bit (own_bit (crc ^^^ (x &&& (255 : Int32))))))))).toUInt32 >>> ((1 : Int32) &&& 31).toUInt32).toInt32))])) _
      refine XS.ixor X0.here hx rfl (hb hby own_d_prog_22_method_2_code_52) rfl ?_
      show Steps p.tables e below (T0.setTop (mkF m 53 #[.val (.ref ar), .val (.int (own_bit (own_bit (own_bit (own_bit (own_bit (own_bit (crc ^^^ (x &&& (255 : Int32)))))))))), .val (.ref ar), .val (.int len), .val (.int i), .val (.int x), .val (.int (6 : Int32))] [(.int ((((own_bit (own_bit (own_bit (own_bit (own_bit (own_bit (crc ^^^ (x &&& (255 : Int32))))))))).toUInt32 >>> ((1 : Int32) &&& 31).toUInt32).toInt32) ^^^ (40961 : Int32)))])) _
      refine XS.istoreN X0.here hx rfl (hb hby own_d_prog_22_method_2_code_53) rfl (l' := #[.val (.ref ar), .val (.int ((((own_bit (own_bit (own_bit (own_bit (own_bit (own_bit (crc ^^^ (x &&& (255 : Int32))))))))).toUInt32 >>> ((1 : Int32) &&& 31).toUInt32).toInt32) ^^^ (40961 : Int32))), .val (.ref ar), .val (.int len), .val (.int i), .val (.int x), .val (.int (6 : Int32))]) rfl ?_
      show Steps p.tables e below (T0.setTop (mkF m 54 #[.val (.ref ar), .val (.int ((((own_bit (own_bit (own_bit (own_bit (own_bit (own_bit (crc ^^^ (x &&& (255 : Int32))))))))).toUInt32 >>> ((1 : Int32) &&& 31).toUInt32).toInt32) ^^^ (40961 : Int32))), .val (.ref ar), .val (.int len), .val (.int i), .val (.int x), .val (.int (6 : Int32))] [])) _
      refine XS.goto X0.here hx rfl (pc0 := 54) (pc' := 61) rfl (hb hby own_d_prog_22_method_2_code_54) (by decide) (by decide) ?_
      exact k)
  have pre47 : ∀ t, Steps p.tables e below (T0.setTop (mkF m 44 #[.val (.ref ar), .val (.int (own_bit (own_bit (own_bit (own_bit (own_bit (own_bit (own_bit (crc ^^^ (x &&& (255 : Int32))))))))))), .val (.ref ar), .val (.int len), .val (.int i), .val (.int x), .val (.int (7 : Int32))] [(.int ((own_bit (own_bit (own_bit (own_bit (own_bit (own_bit (own_bit (crc ^^^ (x &&& (255 : Int32)))))))))) &&& (1 : Int32)))])) t → Steps p.tables e below (T0.setTop (mkF m 10 #[.val (.ref ar), .val (.int crc), .val (.ref ar), .val (.int len), .val (.int i), .unset, .unset] [])) t := fun t k => pre46 t (by
    show Steps p.tables e below (T0.setTop (mkF m 61 #[.val (.ref ar), .val (.int (own_bit (own_bit (own_bit (own_bit (own_bit (own_bit (own_bit (crc ^^^ (x &&& (255 : Int32))))))))))), .val (.ref ar), .val (.int len), .val (.int i), .val (.int x), .val (.int (6 : Int32))] [])) _
    refine XS.iinc X0.here hx rfl (hb hby own_d_prog_22_method_2_code_61) rfl (l' := #[.val (.ref ar), .val (.int (own_bit (own_bit (own_bit (own_bit (own_bit (own_bit (own_bit (crc ^^^ (x &&& (255 : Int32))))))))))), .val (.ref ar), .val (.int len), .val (.int i), .val (.int x), .val (.int (7 : Int32))]) rfl ?_
    show Steps p.tables e below (T0.setTop (mkF m 64 #[.val (.ref ar), .val (.int (own_bit (own_bit (own_bit (own_bit (own_bit (own_bit (own_bit (crc ^^^ (x &&& (255 : Int32))))))))))), .val (.ref ar), .val (.int len), .val (.int i), .val (.int x), .val (.int (7 : Int32))] [])) _
    refine XS.goto X0.here hx rfl (pc0 := 64) (pc' := 34) rfl (hb hby own_d_prog_22_method_2_code_64) (by decide) (by decide) ?_
    show Steps p.tables e below (T0.setTop (mkF m 34 #[.val (.ref ar), .val (.int (own_bit (own_bit (own_bit (own_bit (own_bit (own_bit (own_bit (crc ^^^ (x &&& (255 : Int32))))))))))), .val (.ref ar), .val (.int len), .val (.int i), .val (.int x), .val (.int (7 : Int32))] [])) _
    refine XS.iload X0.here hx rfl (hb hby own_d_prog_22_method_2_code_34) rfl ?_
    show Steps p.tables e below (T0.setTop (mkF m 36 #[.val (.ref ar), .val (.int (own_bit (own_bit (own_bit (own_bit (own_bit (own_bit (own_bit (crc ^^^ (x &&& (255 : Int32))))))))))), .val (.ref ar), .val (.int len), .val (.int i), .val (.int x), .val (.int (7 : Int32))] [(.int (7 : Int32))])) _
    refine XS.bipush X0.here hx rfl (hb hby own_d_prog_22_method_2_code_36) ?_
    show Steps p.tables e below (T0.setTop (mkF m 38 #[.val (.ref ar), .val (.int (own_bit (own_bit (own_bit (own_bit (own_bit (own_bit (own_bit (crc ^^^ (x &&& (255 : Int32))))))))))), .val (.ref ar), .val (.int len), .val (.int i), .val (.int x), .val (.int (7 : Int32))] [(.int (8 : Int32)), (.int (7 : Int32))])) _
    refine XS.icmpNo X0.here hx rfl (hb hby own_d_prog_22_method_2_code_38) rfl (tlt (by decide : (7 : Int32) < (8 : Int32))).2.1 ?_
    show Steps p.tables e below (T0.setTop (mkF m 41 #[.val (.ref ar), .val (.int (own_bit (own_bit (own_bit (own_bit (own_bit (own_bit (own_bit (crc ^^^ (x &&& (255 : Int32))))))))))), .val (.ref ar), .val (.int len), .val (.int i), .val (.int x), .val (.int (7 : Int32))] [])) _
    refine XS.iloadN X0.here hx rfl (hb hby own_d_prog_22_method_2_code_41) rfl ?_
    show Steps p.tables e below (T0.setTop (mkF m 42 #[.val (.ref ar), .val (.int (own_bit (own_bit (own_bit (own_bit (own_bit (own_bit (own_bit (crc ^^^ (x &&& (255 : Int32))))))))))), .val (.ref ar), .val (.int len), .val (.int i), .val (.int x), .val (.int (7 : Int32))] [(.int (own_bit (own_bit (own_bit (own_bit (own_bit (own_bit (own_bit (crc ^^^ (x &&& (255 : Int32)))))))))))])) _
    refine XS.iconst X0.here hx rfl (hb hby own_d_prog_22_method_2_code_42) ?_
    show Steps p.tables e below (T0.setTop (mkF m 43 #[.val (.ref ar), .val (.int (own_bit (own_bit (own_bit (own_bit (own_bit (own_bit (own_bit (crc ^^^ (x &&& (255 : Int32))))))))))), .val (.ref ar), .val (.int len), .val (.int i), .val (.int x), .val (.int (7 : Int32))] [(.int (1 : Int32)), (.int (own_bit (own_bit (own_bit (own_bit (own_bit (own_bit (own_bit (crc ^^^ (x &&& (255 : Int32)))))))))))])) _
    refine XS.iand X0.here hx rfl (hb hby own_d_prog_22_method_2_code_43) rfl ?_
    exact k)
  have pre49 : ∀ t, Steps p.tables e below (T0.setTop (mkF m 61 #[.val (.ref ar), .val (.int (own_bit (own_bit (own_bit (own_bit (own_bit (own_bit (own_bit (own_bit (crc ^^^ (x &&& (255 : Int32)))))))))))), .val (.ref ar), .val (.int len), .val (.int i), .val (.int x), .val (.int (7 : Int32))] [])) t → Steps p.tables e below (T0.setTop (mkF m 10 #[.val (.ref ar), .val (.int crc), .val (.ref ar), .val (.int len), .val (.int i), .unset, .unset] [])) t := fun t k => pre47 t (by
    by_cases hd48 : ((own_bit (own_bit (own_bit (own_bit (own_bit (own_bit (own_bit (crc ^^^ (x &&& (255 : Int32)))))))))) &&& (1 : Int32)) = (0 : Int32)
    · rw [(show own_bit (own_bit (own_bit (own_bit (own_bit (own_bit (own_bit (own_bit (crc ^^^ (x &&& (255 : Int32)))))))))) = _ from if_pos hd48)] at k
      show Steps p.tables e below (T0.setTop (mkF m 44 #[.val (.ref ar), .val (.int (own_bit (own_bit (own_bit (own_bit (own_bit (own_bit (own_bit (crc ^^^ (x &&& (255 : Int32))))))))))), .val (.ref ar), .val (.int len), .val (.int i), .val (.int x), .val (.int (7 : Int32))] [(.int ((own_bit (own_bit (own_bit (own_bit (own_bit (own_bit (own_bit (crc ^^^ (x &&& (255 : Int32)))))))))) &&& (1 : Int32)))])) _
      refine XS.ifYes X0.here hx rfl (pc0 := 44) (pc' := 57) rfl (hb hby own_d_prog_22_method_2_code_44) rfl ((if0 _ _).trans (teq hd48).1) (by decide) (by decide) ?_
      show Steps p.tables e below (T0.setTop (mkF m 57 #[.val (.ref ar), .val (.int (own_bit (own_bit (own_bit (own_bit (own_bit (own_bit (own_bit (crc ^^^ (x &&& (255 : Int32))))))))))), .val (.ref ar), .val (.int len), .val (.int i), .val (.int x), .val (.int (7 : Int32))] [])) _
      refine XS.iloadN X0.here hx rfl (hb hby own_d_prog_22_method_2_code_57) rfl ?_
      show Steps p.tables e below (T0.setTop (mkF m 58 #[.val (.ref ar), .val (.int (own_bit (own_bit (own_bit (own_bit (own_bit (own_bit (own_bit (crc ^^^ (x &&& (255 : Int32))))))))))), .val (.ref ar), .val (.int len), .val (.int i), .val (.int x), .val (.int (7 : Int32))] [(.int (own_bit (own_bit (own_bit (own_bit (own_bit (own_bit (own_bit (crc ^^^ (x &&& (255 : Int32)))))))))))])) _
      refine XS.iconst X0.here hx rfl (hb hby own_d_prog_22_method_2_code_58) ?_
      show Steps p.tables e below (T0.setTop (mkF m 59 #[.val (.ref ar), .val (.int (own_bit (own_bit (own_bit (own_bit (own_bit (own_bit (own_bit (crc ^^^ (x &&& (255 : Int32))))))))))), .val (.ref ar), .val (.int len), .val (.int i), .val (.int x), .val (.int (7 : Int32))] [(.int (1 : Int32)), (.int (own_bit (own_bit (own_bit (own_bit (own_bit (own_bit (own_bit (crc ^^^ (x &&& (255 : Int32)))))))))))])) _
      refine XS.iushr X0.here hx rfl (hb hby own_d_prog_22_method_2_code_59) rfl ?_
      show Steps p.tables e below (T0.setTop (mkF m 60 #[.val (.ref ar), .val (.int (own_bit (own_bit (own_bit (own_bit (own_bit (own_bit (own_bit (crc ^^^ (x &&& (255 : Int32))))))))))), .val (.ref ar), .val (.int len), .val (.int i), .val (.int x), .val (.int (7 : Int32))] [(.int (((own_bit (own_bit (own_bit (own_bit (own_bit (own_bit (own_bit (crc ^^^ (x &&& (255 : Int32)))))))))).toUInt32 >>> ((1 : Int32) &&& 31).toUInt32).toInt32))])) _
      refine XS.istoreN X0.here hx rfl (hb hby own_d_prog_22_method_2_code_60) rfl (l' := #[.val (.ref ar), .val (.int (((own_bit (own_bit (own_bit (own_bit (own_bit (own_bit (own_bit (crc ^^^ (x &&& (255 : Int32)))))))))).toUInt32 >>> ((1 : Int32) &&& 31).toUInt32).toInt32)), .val (.ref ar), .val (.int len), .val (.int i), .val (.int x), .val (.int (7 : Int32))]) rfl ?_
      exact k
    · rw [(show own_bit (own_bit (own_bit (own_bit (own_bit (own_bit (own_bit (own_bit (crc ^^^ (x &&& (255 : Int32)))))))))) = _ from if_neg hd48)] at k
      show Steps p.tables e below (T0.setTop (mkF m 44 #[.val (.ref ar), .val (.int (own_bit (own_bit (own_bit (own_bit (own_bit (own_bit (own_bit (crc ^^^ (x &&& (255 : Int32))))))))))), .val (.ref ar), .val (.int len), .val (.int i), .val (.int x), .val (.int (7 : Int32))] [(.int ((own_bit (own_bit (own_bit (own_bit (own_bit (own_bit (own_bit (crc ^^^ (x &&& (255 : Int32)))))))))) &&& (1 : Int32)))])) _
      refine XS.ifNo X0.here hx rfl (hb hby own_d_prog_22_method_2_code_44) rfl ((if0 _ _).trans (feq hd48).1) ?_
      show Steps p.tables e below (T0.setTop (mkF m 47 #[.val (.ref ar), .val (.int (own_bit (own_bit (own_bit (own_bit (own_bit (own_bit (own_bit (crc ^^^ (x &&& (255 : Int32))))))))))), .val (.ref ar), .val (.int len), .val (.int i), .val (.int x), .val (.int (7 : Int32))] [])) _
      refine XS.iloadN X0.here hx rfl (hb hby own_d_prog_22_method_2_code_47) rfl ?_
      show Steps p.tables e below (T0.setTop (mkF m 48 #[.val (.ref ar), .val (.int (own_bit (own_bit (own_bit (own_bit (own_bit (own_bit (own_bit (crc ^^^ (x &&& (255 : Int32))))))))))), .val (.ref ar), .val (.int len), .val (.int i), .val (.int x), .val (.int (7 : Int32))] [(.int (own_bit (own_bit (own_bit (own_bit (own_bit (own_bit (own_bit (crc ^^^ (x &&& (255 : Int32)))))))))))])) _
      refine XS.iconst X0.here hx rfl (hb hby own_d_prog_22_method_2_code_48) ?_
      show Steps p.tables e below (T0.setTop (mkF m 49 #[.val (.ref ar), .val (.int (own_bit (own_bit (own_bit (own_bit (own_bit (own_bit (own_bit (crc ^^^ (x &&& (255 : Int32))))))))))), .val (.ref ar), .val (.int len), .val (.int i), .val (.int x), .val (.int (7 : Int32))] [(.int (1 : Int32)), (.int (own_bit (own_bit (own_bit (own_bit (own_bit (own_bit (own_bit (crc ^^^ (x &&& (255 : Int32)))))))))))])) _
      refine XS.iushr X0.here hx rfl (hb hby own_d_prog_22_method_2_code_49) rfl ?_
      show Steps p.tables e below (T0.setTop (mkF m 50 #[.val (.ref ar), .val (.int (own_bit (own_bit (own_bit (own_bit (own_bit (own_bit (own_bit (crc ^^^ (x &&& (255 : Int32))))))))))), .val (.ref ar), .val (.int len), .val (.int i), .val (.int x), .val (.int (7 : Int32))] [(.int (((own_bit (own_bit (own_bit (own_bit (own_bit (own_bit (own_bit (crc ^^^ (x &&& (255 : Int32)))))))))).toUInt32 >>> ((1 : Int32) &&& 31).toUInt32).toInt32))])) _
      refine X0.ldcInt hx hown (mvT hZ (hw _ (List.mem_of_getElem? (i := 12) rfl))) (g := (mkF m 50 #[.val (.ref ar), .val (.int (own_bit (own_bit (own_bit (own_bit (own_bit (own_bit (own_bit (crc ^^^ (x &&& (255 : Int32))))))))))), .val (.ref ar), .val (.int len), .val (.int i), .val (.int x), .val (.int (7 : Int32))] [(.int (((own_bit (own_bit (own_bit (own_bit (own_bit (own_bit (own_bit (crc ^^^ (x &&& (255 : Int32)))))))))).toUInt32 >>> ((1 : Int32) &&& 31).toUInt32).toInt32))])) rfl (hb hby own_d_prog_22_method_2_code_50) _ ?_
      show Steps p.tables e below (T0.setTop (mkF m 52 #[.val (.ref ar), .val (.int (own_bit (own_bit (own_bit (own_bit (own_bit (own_bit (own_bit (crc ^^^ (x &&& (255 : Int32))))))))))), .val (.ref ar), .val (.int len), .val (.int i), .val (.int x), .val (.int (7 : Int32))] [(.int (40961 : Int32)), (.int (((own_bit (own_bit (own_bit (own_bit (own_bit (own_bit (own_bit (crc ^^^ (x &&& (255 : Int32)))))))))).toUInt32 >>> ((1 : Int32) &&& 31).toUInt32).toInt32))])) _
      refine XS.ixor X0.here hx rfl (hb hby own_d_prog_22_method_2_code_52) rfl ?_
      show Steps p.tables e below (T0.setTop (mkF m 53 #[.val (.ref ar), .val (.int (own_bit (own_bit (own_bit (own_bit (own_bit (own_bit (own_bit (crc ^^^ (x &&& (255 : Int32))))))))))), .val (.ref ar), .val (.int len), .val (.int i), .val (.int x), .val (.int (7 : Int32))] [(.int ((((own_bit (own_bit (own_bit (own_bit (own_bit (own_bit (own_bit (crc ^^^ (x &&& (255 : Int32)))))))))).toUInt32 >>> ((1 : Int32) &&& 31).toUInt32).toInt32) ^^^ (40961 : Int32)))])) _
      refine XS.istoreN X0.here hx rfl (hb hby own_d_prog_22_method_2_code_53) rfl (l' := #[.val (.ref ar), .val (.int ((((own_bit (own_bit (own_bit (own_bit (own_bit (own_bit (own_bit (crc ^^^ (x &&& (255 : Int32)))))))))).toUInt32 >>> ((1 : Int32) &&& 31).toUInt32).toInt32) ^^^ (40961 : Int32))), .val (.ref ar), .val (.int len), .val (.int i), .val (.int x), .val (.int (7 : Int32))]) rfl ?_
      show Steps p.tables e below (T0.setTop (mkF m 54 #[.val (.ref ar), .val (.int ((((own_bit (own_bit (own_bit (own_bit (own_bit (own_bit (own_bit (crc ^^^ (x &&& (255 : Int32)))))))))).toUInt32 >>> ((1 : Int32) &&& 31).toUInt32).toInt32) ^^^ (40961 : Int32))), .val (.ref ar), .val (.int len), .val (.int i), .val (.int x), .val (.int (7 : Int32))] [])) _
      refine XS.goto X0.here hx rfl (pc0 := 54) (pc' := 61) rfl (hb hby own_d_prog_22_method_2_code_54) (by decide) (by decide) ?_
      exact k)
  have pre50 : ∀ t, Steps p.tables e below (T0.setTop (mkF m 10 #[.val (.ref ar), .val (.int (own_bit (own_bit (own_bit (own_bit (own_bit (own_bit (own_bit (own_bit (crc ^^^ (x &&& (255 : Int32)))))))))))), .val (.ref ar), .val (.int len), .val (.int (i + (1 : Int32))), .val (.int x), .val (.int (8 : Int32))] [])) t → Steps p.tables e below (T0.setTop (mkF m 10 #[.val (.ref ar), .val (.int crc), .val (.ref ar), .val (.int len), .val (.int i), .unset, .unset] [])) t := fun t k => pre49 t (by
    show Steps p.tables e below (T0.setTop (mkF m 61 #[.val (.ref ar), .val (.int (own_bit (own_bit (own_bit (own_bit (own_bit (own_bit (own_bit (own_bit (crc ^^^ (x &&& (255 : Int32)))))))))))), .val (.ref ar), .val (.int len), .val (.int i), .val (.int x), .val (.int (7 : Int32))] [])) _
    refine XS.iinc X0.here hx rfl (hb hby own_d_prog_22_method_2_code_61) rfl (l' := #[.val (.ref ar), .val (.int (own_bit (own_bit (own_bit (own_bit (own_bit (own_bit (own_bit (own_bit (crc ^^^ (x &&& (255 : Int32)))))))))))), .val (.ref ar), .val (.int len), .val (.int i), .val (.int x), .val (.int (8 : Int32))]) rfl ?_
    show Steps p.tables e below (T0.setTop (mkF m 64 #[.val (.ref ar), .val (.int (own_bit (own_bit (own_bit (own_bit (own_bit (own_bit (own_bit (own_bit (crc ^^^ (x &&& (255 : Int32)))))))))))), .val (.ref ar), .val (.int len), .val (.int i), .val (.int x), .val (.int (8 : Int32))] [])) _
    refine XS.goto X0.here hx rfl (pc0 := 64) (pc' := 34) rfl (hb hby own_d_prog_22_method_2_code_64) (by decide) (by decide) ?_
    show Steps p.tables e below (T0.setTop (mkF m 34 #[.val (.ref ar), .val (.int (own_bit (own_bit (own_bit (own_bit (own_bit (own_bit (own_bit (own_bit (crc ^^^ (x &&& (255 : Int32)))))))))))), .val (.ref ar), .val (.int len), .val (.int i), .val (.int x), .val (.int (8 : Int32))] [])) _
    refine XS.iload X0.here hx rfl (hb hby own_d_prog_22_method_2_code_34) rfl ?_
    show Steps p.tables e below (T0.setTop (mkF m 36 #[.val (.ref ar), .val (.int (own_bit (own_bit (own_bit (own_bit (own_bit (own_bit (own_bit (own_bit (crc ^^^ (x &&& (255 : Int32)))))))))))), .val (.ref ar), .val (.int len), .val (.int i), .val (.int x), .val (.int (8 : Int32))] [(.int (8 : Int32))])) _
    refine XS.bipush X0.here hx rfl (hb hby own_d_prog_22_method_2_code_36) ?_
    show Steps p.tables e below (T0.setTop (mkF m 38 #[.val (.ref ar), .val (.int (own_bit (own_bit (own_bit (own_bit (own_bit (own_bit (own_bit (own_bit (crc ^^^ (x &&& (255 : Int32)))))))))))), .val (.ref ar), .val (.int len), .val (.int i), .val (.int x), .val (.int (8 : Int32))] [(.int (8 : Int32)), (.int (8 : Int32))])) _
    refine XS.icmpYes X0.here hx rfl (pc0 := 38) (pc' := 67) rfl (hb hby own_d_prog_22_method_2_code_38) rfl (flt (by decide : ¬ ((8 : Int32) < (8 : Int32)))).2.1 (by decide) (by decide) ?_
    show Steps p.tables e below (T0.setTop (mkF m 67 #[.val (.ref ar), .val (.int (own_bit (own_bit (own_bit (own_bit (own_bit (own_bit (own_bit (own_bit (crc ^^^ (x &&& (255 : Int32)))))))))))), .val (.ref ar), .val (.int len), .val (.int i), .val (.int x), .val (.int (8 : Int32))] [])) _
    refine XS.iinc X0.here hx rfl (hb hby own_d_prog_22_method_2_code_67) rfl (l' := #[.val (.ref ar), .val (.int (own_bit (own_bit (own_bit (own_bit (own_bit (own_bit (own_bit (own_bit (crc ^^^ (x &&& (255 : Int32)))))))))))), .val (.ref ar), .val (.int len), .val (.int (i + (1 : Int32))), .val (.int x), .val (.int (8 : Int32))]) rfl ?_
    show Steps p.tables e below (T0.setTop (mkF m 70 #[.val (.ref ar), .val (.int (own_bit (own_bit (own_bit (own_bit (own_bit (own_bit (own_bit (own_bit (crc ^^^ (x &&& (255 : Int32)))))))))))), .val (.ref ar), .val (.int len), .val (.int (i + (1 : Int32))), .val (.int x), .val (.int (8 : Int32))] [])) _
    refine XS.goto X0.here hx rfl (pc0 := 70) (pc' := 10) rfl (hb hby own_d_prog_22_method_2_code_70) (by decide) (by decide) ?_
    exact k)
  exact pre50
set_option maxRecDepth 65536 in
set_option maxHeartbeats 40000000 in
theorem own_seg2 {p : Program} {l : Launch} {e : Env} {R : Room} {s : State} {m : MethodId} {args : Array Value} {below : List Frame} {meth : Method} {c : Code} {T0 : State} {locs : List Loc} {cells slots : Nat} {Z : State} {a0 : Array Value} (ar : Addr) (cl : Cell) (crc : Int32) (len : Int32) (i : Int32) (x : Int32) (y5 : Int32) (y6 : Int32)
    (X0 : Stand p l e R s m args below meth c T0 locs cells slots) (hx : p.tables.exec = Jvm.exec) (hZ : Z.Warmed39 s.vm) (hw : ∀ d ∈ tables_1, d.before a0 Z = true) (hby : c.code = prog_22_method_2_code) (hml : c.maxLocals = 7) (hown : s.vm.findClass "com/example/dongl/dongl/crypto/Crc16" = some m.cls) (Ar : Arr Z T0.heap ar cl .byte) (hlt : i < len) (hin : ¬ (i < 0 ∨ cl.slots.size ≤ i.toNatClampNeg)) (hat : cl.slots[i.toNatClampNeg]? = some (.int x)) :
    ∀ t, Steps p.tables e below (T0.setTop (mkF m 10 #[.val (.ref ar), .val (.int (own_bit (own_bit (own_bit (own_bit (own_bit (own_bit (own_bit (own_bit (crc ^^^ (x &&& (255 : Int32)))))))))))), .val (.ref ar), .val (.int len), .val (.int (i + (1 : Int32))), .val (.int x), .val (.int (8 : Int32))] [])) t → Steps p.tables e below (T0.setTop (mkF m 10 #[.val (.ref ar), .val (.int crc), .val (.ref ar), .val (.int len), .val (.int i), .val (.int y5), .val (.int y6)] [])) t := by
  have pre0 : ∀ t, Steps p.tables e below (T0.setTop (mkF m 10 #[.val (.ref ar), .val (.int crc), .val (.ref ar), .val (.int len), .val (.int i), .val (.int y5), .val (.int y6)] [])) t → Steps p.tables e below (T0.setTop (mkF m 10 #[.val (.ref ar), .val (.int crc), .val (.ref ar), .val (.int len), .val (.int i), .val (.int y5), .val (.int y6)] [])) t := fun t k => k
  have pre51 : ∀ t, Steps p.tables e below (T0.setTop (mkF m 44 #[.val (.ref ar), .val (.int (crc ^^^ (x &&& (255 : Int32)))), .val (.ref ar), .val (.int len), .val (.int i), .val (.int x), .val (.int (0 : Int32))] [(.int ((crc ^^^ (x &&& (255 : Int32))) &&& (1 : Int32)))])) t → Steps p.tables e below (T0.setTop (mkF m 10 #[.val (.ref ar), .val (.int crc), .val (.ref ar), .val (.int len), .val (.int i), .val (.int y5), .val (.int y6)] [])) t := fun t k => pre0 t (by
    show Steps p.tables e below (T0.setTop (mkF m 10 #[.val (.ref ar), .val (.int crc), .val (.ref ar), .val (.int len), .val (.int i), .val (.int y5), .val (.int y6)] [])) _
    refine XS.iload X0.here hx rfl (hb hby own_d_prog_22_method_2_code_10) rfl ?_
    show Steps p.tables e below (T0.setTop (mkF m 12 #[.val (.ref ar), .val (.int crc), .val (.ref ar), .val (.int len), .val (.int i), .val (.int y5), .val (.int y6)] [(.int i)])) _
    refine XS.iloadN X0.here hx rfl (hb hby own_d_prog_22_method_2_code_12) rfl ?_
    show Steps p.tables e below (T0.setTop (mkF m 13 #[.val (.ref ar), .val (.int crc), .val (.ref ar), .val (.int len), .val (.int i), .val (.int y5), .val (.int y6)] [(.int len), (.int i)])) _
    refine XS.icmpNo X0.here hx rfl (hb hby own_d_prog_22_method_2_code_13) rfl (tlt hlt).2.1 ?_
    show Steps p.tables e below (T0.setTop (mkF m 16 #[.val (.ref ar), .val (.int crc), .val (.ref ar), .val (.int len), .val (.int i), .val (.int y5), .val (.int y6)] [])) _
    refine XS.aloadN X0.here hx rfl (hb hby own_d_prog_22_method_2_code_16) rfl rfl ?_
    show Steps p.tables e below (T0.setTop (mkF m 17 #[.val (.ref ar), .val (.int crc), .val (.ref ar), .val (.int len), .val (.int i), .val (.int y5), .val (.int y6)] [(.ref ar)])) _
    refine XS.iload X0.here hx rfl (hb hby own_d_prog_22_method_2_code_17) rfl ?_
    show Steps p.tables e below (T0.setTop (mkF m 19 #[.val (.ref ar), .val (.int crc), .val (.ref ar), .val (.int len), .val (.int i), .val (.int y5), .val (.int y6)] [(.int i), (.ref ar)])) _
    refine X0.baloadBytes hx (j := i) (v := (.int x)) (by exact Ar.1) (State.isArrayOf_alike hZ.alike Ar.2.1) Ar.2.2 hin hat (g := (mkF m 19 #[.val (.ref ar), .val (.int crc), .val (.ref ar), .val (.int len), .val (.int i), .val (.int y5), .val (.int y6)] [(.int i), (.ref ar)])) rfl rfl (hb hby own_d_prog_22_method_2_code_19) _ ?_
    show Steps p.tables e below (T0.setTop (mkF m 20 #[.val (.ref ar), .val (.int crc), .val (.ref ar), .val (.int len), .val (.int i), .val (.int y5), .val (.int y6)] [(.int x)])) _
    refine XS.istore X0.here hx rfl (hb hby own_d_prog_22_method_2_code_20) rfl (l' := #[.val (.ref ar), .val (.int crc), .val (.ref ar), .val (.int len), .val (.int i), .val (.int x), .val (.int y6)]) rfl ?_
    show Steps p.tables e below (T0.setTop (mkF m 22 #[.val (.ref ar), .val (.int crc), .val (.ref ar), .val (.int len), .val (.int i), .val (.int x), .val (.int y6)] [])) _
    refine XS.iloadN X0.here hx rfl (hb hby own_d_prog_22_method_2_code_22) rfl ?_
    show Steps p.tables e below (T0.setTop (mkF m 23 #[.val (.ref ar), .val (.int crc), .val (.ref ar), .val (.int len), .val (.int i), .val (.int x), .val (.int y6)] [(.int crc)])) _
    refine XS.iload X0.here hx rfl (hb hby own_d_prog_22_method_2_code_23) rfl ?_
    show Steps p.tables e below (T0.setTop (mkF m 25 #[.val (.ref ar), .val (.int crc), .val (.ref ar), .val (.int len), .val (.int i), .val (.int x), .val (.int y6)] [(.int x), (.int crc)])) _
    refine XS.sipush X0.here hx rfl (hb hby own_d_prog_22_method_2_code_25) ?_
    show Steps p.tables e below (T0.setTop (mkF m 28 #[.val (.ref ar), .val (.int crc), .val (.ref ar), .val (.int len), .val (.int i), .val (.int x), .val (.int y6)] [(.int (255 : Int32)), (.int x), (.int crc)])) _
    refine XS.iand X0.here hx rfl (hb hby own_d_prog_22_method_2_code_28) rfl ?_
    show Steps p.tables e below (T0.setTop (mkF m 29 #[.val (.ref ar), .val (.int crc), .val (.ref ar), .val (.int len), .val (.int i), .val (.int x), .val (.int y6)] [(.int (x &&& (255 : Int32))), (.int crc)])) _
    refine XS.ixor X0.here hx rfl (hb hby own_d_prog_22_method_2_code_29) rfl ?_
    show Steps p.tables e below (T0.setTop (mkF m 30 #[.val (.ref ar), .val (.int crc), .val (.ref ar), .val (.int len), .val (.int i), .val (.int x), .val (.int y6)] [(.int (crc ^^^ (x &&& (255 : Int32))))])) _
    refine XS.istoreN X0.here hx rfl (hb hby own_d_prog_22_method_2_code_30) rfl (l' := #[.val (.ref ar), .val (.int (crc ^^^ (x &&& (255 : Int32)))), .val (.ref ar), .val (.int len), .val (.int i), .val (.int x), .val (.int y6)]) rfl ?_
    show Steps p.tables e below (T0.setTop (mkF m 31 #[.val (.ref ar), .val (.int (crc ^^^ (x &&& (255 : Int32)))), .val (.ref ar), .val (.int len), .val (.int i), .val (.int x), .val (.int y6)] [])) _
    refine XS.iconst X0.here hx rfl (hb hby own_d_prog_22_method_2_code_31) ?_
    show Steps p.tables e below (T0.setTop (mkF m 32 #[.val (.ref ar), .val (.int (crc ^^^ (x &&& (255 : Int32)))), .val (.ref ar), .val (.int len), .val (.int i), .val (.int x), .val (.int y6)] [(.int (0 : Int32))])) _
    refine XS.istore X0.here hx rfl (hb hby own_d_prog_22_method_2_code_32) rfl (l' := #[.val (.ref ar), .val (.int (crc ^^^ (x &&& (255 : Int32)))), .val (.ref ar), .val (.int len), .val (.int i), .val (.int x), .val (.int (0 : Int32))]) rfl ?_
    show Steps p.tables e below (T0.setTop (mkF m 34 #[.val (.ref ar), .val (.int (crc ^^^ (x &&& (255 : Int32)))), .val (.ref ar), .val (.int len), .val (.int i), .val (.int x), .val (.int (0 : Int32))] [])) _
    refine XS.iload X0.here hx rfl (hb hby own_d_prog_22_method_2_code_34) rfl ?_
    show Steps p.tables e below (T0.setTop (mkF m 36 #[.val (.ref ar), .val (.int (crc ^^^ (x &&& (255 : Int32)))), .val (.ref ar), .val (.int len), .val (.int i), .val (.int x), .val (.int (0 : Int32))] [(.int (0 : Int32))])) _
    refine XS.bipush X0.here hx rfl (hb hby own_d_prog_22_method_2_code_36) ?_
    show Steps p.tables e below (T0.setTop (mkF m 38 #[.val (.ref ar), .val (.int (crc ^^^ (x &&& (255 : Int32)))), .val (.ref ar), .val (.int len), .val (.int i), .val (.int x), .val (.int (0 : Int32))] [(.int (8 : Int32)), (.int (0 : Int32))])) _
    refine XS.icmpNo X0.here hx rfl (hb hby own_d_prog_22_method_2_code_38) rfl (tlt (by decide : (0 : Int32) < (8 : Int32))).2.1 ?_
    show Steps p.tables e below (T0.setTop (mkF m 41 #[.val (.ref ar), .val (.int (crc ^^^ (x &&& (255 : Int32)))), .val (.ref ar), .val (.int len), .val (.int i), .val (.int x), .val (.int (0 : Int32))] [])) _
    refine XS.iloadN X0.here hx rfl (hb hby own_d_prog_22_method_2_code_41) rfl ?_
    show Steps p.tables e below (T0.setTop (mkF m 42 #[.val (.ref ar), .val (.int (crc ^^^ (x &&& (255 : Int32)))), .val (.ref ar), .val (.int len), .val (.int i), .val (.int x), .val (.int (0 : Int32))] [(.int (crc ^^^ (x &&& (255 : Int32))))])) _
    refine XS.iconst X0.here hx rfl (hb hby own_d_prog_22_method_2_code_42) ?_
    show Steps p.tables e below (T0.setTop (mkF m 43 #[.val (.ref ar), .val (.int (crc ^^^ (x &&& (255 : Int32)))), .val (.ref ar), .val (.int len), .val (.int i), .val (.int x), .val (.int (0 : Int32))] [(.int (1 : Int32)), (.int (crc ^^^ (x &&& (255 : Int32))))])) _
    refine XS.iand X0.here hx rfl (hb hby own_d_prog_22_method_2_code_43) rfl ?_
    exact k)
  have pre53 : ∀ t, Steps p.tables e below (T0.setTop (mkF m 61 #[.val (.ref ar), .val (.int (own_bit (crc ^^^ (x &&& (255 : Int32))))), .val (.ref ar), .val (.int len), .val (.int i), .val (.int x), .val (.int (0 : Int32))] [])) t → Steps p.tables e below (T0.setTop (mkF m 10 #[.val (.ref ar), .val (.int crc), .val (.ref ar), .val (.int len), .val (.int i), .val (.int y5), .val (.int y6)] [])) t := fun t k => pre51 t (by
    by_cases hd52 : ((crc ^^^ (x &&& (255 : Int32))) &&& (1 : Int32)) = (0 : Int32)
    · rw [(show own_bit (crc ^^^ (x &&& (255 : Int32))) = _ from if_pos hd52)] at k
      show Steps p.tables e below (T0.setTop (mkF m 44 #[.val (.ref ar), .val (.int (crc ^^^ (x &&& (255 : Int32)))), .val (.ref ar), .val (.int len), .val (.int i), .val (.int x), .val (.int (0 : Int32))] [(.int ((crc ^^^ (x &&& (255 : Int32))) &&& (1 : Int32)))])) _
      refine XS.ifYes X0.here hx rfl (pc0 := 44) (pc' := 57) rfl (hb hby own_d_prog_22_method_2_code_44) rfl ((if0 _ _).trans (teq hd52).1) (by decide) (by decide) ?_
      show Steps p.tables e below (T0.setTop (mkF m 57 #[.val (.ref ar), .val (.int (crc ^^^ (x &&& (255 : Int32)))), .val (.ref ar), .val (.int len), .val (.int i), .val (.int x), .val (.int (0 : Int32))] [])) _
      refine XS.iloadN X0.here hx rfl (hb hby own_d_prog_22_method_2_code_57) rfl ?_
      show Steps p.tables e below (T0.setTop (mkF m 58 #[.val (.ref ar), .val (.int (crc ^^^ (x &&& (255 : Int32)))), .val (.ref ar), .val (.int len), .val (.int i), .val (.int x), .val (.int (0 : Int32))] [(.int (crc ^^^ (x &&& (255 : Int32))))])) _
      refine XS.iconst X0.here hx rfl (hb hby own_d_prog_22_method_2_code_58) ?_
      show Steps p.tables e below (T0.setTop (mkF m 59 #[.val (.ref ar), .val (.int (crc ^^^ (x &&& (255 : Int32)))), .val (.ref ar), .val (.int len), .val (.int i), .val (.int x), .val (.int (0 : Int32))] [(.int (1 : Int32)), (.int (crc ^^^ (x &&& (255 : Int32))))])) _
      refine XS.iushr X0.here hx rfl (hb hby own_d_prog_22_method_2_code_59) rfl ?_
      show Steps p.tables e below (T0.setTop (mkF m 60 #[.val (.ref ar), .val (.int (crc ^^^ (x &&& (255 : Int32)))), .val (.ref ar), .val (.int len), .val (.int i), .val (.int x), .val (.int (0 : Int32))] [(.int (((crc ^^^ (x &&& (255 : Int32))).toUInt32 >>> ((1 : Int32) &&& 31).toUInt32).toInt32))])) _
      refine XS.istoreN X0.here hx rfl (hb hby own_d_prog_22_method_2_code_60) rfl (l' := #[.val (.ref ar), .val (.int (((crc ^^^ (x &&& (255 : Int32))).toUInt32 >>> ((1 : Int32) &&& 31).toUInt32).toInt32)), .val (.ref ar), .val (.int len), .val (.int i), .val (.int x), .val (.int (0 : Int32))]) rfl ?_
      exact k
    · rw [(show own_bit (crc ^^^ (x &&& (255 : Int32))) = _ from if_neg hd52)] at k
      show Steps p.tables e below (T0.setTop (mkF m 44 #[.val (.ref ar), .val (.int (crc ^^^ (x &&& (255 : Int32)))), .val (.ref ar), .val (.int len), .val (.int i), .val (.int x), .val (.int (0 : Int32))] [(.int ((crc ^^^ (x &&& (255 : Int32))) &&& (1 : Int32)))])) _
      refine XS.ifNo X0.here hx rfl (hb hby own_d_prog_22_method_2_code_44) rfl ((if0 _ _).trans (feq hd52).1) ?_
      show Steps p.tables e below (T0.setTop (mkF m 47 #[.val (.ref ar), .val (.int (crc ^^^ (x &&& (255 : Int32)))), .val (.ref ar), .val (.int len), .val (.int i), .val (.int x), .val (.int (0 : Int32))] [])) _
      refine XS.iloadN X0.here hx rfl (hb hby own_d_prog_22_method_2_code_47) rfl ?_
      show Steps p.tables e below (T0.setTop (mkF m 48 #[.val (.ref ar), .val (.int (crc ^^^ (x &&& (255 : Int32)))), .val (.ref ar), .val (.int len), .val (.int i), .val (.int x), .val (.int (0 : Int32))] [(.int (crc ^^^ (x &&& (255 : Int32))))])) _
      refine XS.iconst X0.here hx rfl (hb hby own_d_prog_22_method_2_code_48) ?_
      show Steps p.tables e below (T0.setTop (mkF m 49 #[.val (.ref ar), .val (.int (crc ^^^ (x &&& (255 : Int32)))), .val (.ref ar), .val (.int len), .val (.int i), .val (.int x), .val (.int (0 : Int32))] [(.int (1 : Int32)), (.int (crc ^^^ (x &&& (255 : Int32))))])) _
      refine XS.iushr X0.here hx rfl (hb hby own_d_prog_22_method_2_code_49) rfl ?_
      show Steps p.tables e below (T0.setTop (mkF m 50 #[.val (.ref ar), .val (.int (crc ^^^ (x &&& (255 : Int32)))), .val (.ref ar), .val (.int len), .val (.int i), .val (.int x), .val (.int (0 : Int32))] [(.int (((crc ^^^ (x &&& (255 : Int32))).toUInt32 >>> ((1 : Int32) &&& 31).toUInt32).toInt32))])) _
      refine X0.ldcInt hx hown (mvT hZ (hw _ (List.mem_of_getElem? (i := 12) rfl))) (g := (mkF m 50 #[.val (.ref ar), .val (.int (crc ^^^ (x &&& (255 : Int32)))), .val (.ref ar), .val (.int len), .val (.int i), .val (.int x), .val (.int (0 : Int32))] [(.int (((crc ^^^ (x &&& (255 : Int32))).toUInt32 >>> ((1 : Int32) &&& 31).toUInt32).toInt32))])) rfl (hb hby own_d_prog_22_method_2_code_50) _ ?_
      show Steps p.tables e below (T0.setTop (mkF m 52 #[.val (.ref ar), .val (.int (crc ^^^ (x &&& (255 : Int32)))), .val (.ref ar), .val (.int len), .val (.int i), .val (.int x), .val (.int (0 : Int32))] [(.int (40961 : Int32)), (.int (((crc ^^^ (x &&& (255 : Int32))).toUInt32 >>> ((1 : Int32) &&& 31).toUInt32).toInt32))])) _
      refine XS.ixor X0.here hx rfl (hb hby own_d_prog_22_method_2_code_52) rfl ?_
      show Steps p.tables e below (T0.setTop (mkF m 53 #[.val (.ref ar), .val (.int (crc ^^^ (x &&& (255 : Int32)))), .val (.ref ar), .val (.int len), .val (.int i), .val (.int x), .val (.int (0 : Int32))] [(.int ((((crc ^^^ (x &&& (255 : Int32))).toUInt32 >>> ((1 : Int32) &&& 31).toUInt32).toInt32) ^^^ (40961 : Int32)))])) _
      refine XS.istoreN X0.here hx rfl (hb hby own_d_prog_22_method_2_code_53) rfl (l' := #[.val (.ref ar), .val (.int ((((crc ^^^ (x &&& (255 : Int32))).toUInt32 >>> ((1 : Int32) &&& 31).toUInt32).toInt32) ^^^ (40961 : Int32))), .val (.ref ar), .val (.int len), .val (.int i), .val (.int x), .val (.int (0 : Int32))]) rfl ?_
      show Steps p.tables e below (T0.setTop (mkF m 54 #[.val (.ref ar), .val (.int ((((crc ^^^ (x &&& (255 : Int32))).toUInt32 >>> ((1 : Int32) &&& 31).toUInt32).toInt32) ^^^ (40961 : Int32))), .val (.ref ar), .val (.int len), .val (.int i), .val (.int x), .val (.int (0 : Int32))] [])) _
      refine XS.goto X0.here hx rfl (pc0 := 54) (pc' := 61) rfl (hb hby own_d_prog_22_method_2_code_54) (by decide) (by decide) ?_
      exact k)
  have pre54 : ∀ t, Steps p.tables e below (T0.setTop (mkF m 44 #[.val (.ref ar), .val (.int (own_bit (crc ^^^ (x &&& (255 : Int32))))), .val (.ref ar), .val (.int len), .val (.int i), .val (.int x), .val (.int (1 : Int32))] [(.int ((own_bit (crc ^^^ (x &&& (255 : Int32)))) &&& (1 : Int32)))])) t → Steps p.tables e below (T0.setTop (mkF m 10 #[.val (.ref ar), .val (.int crc), .val (.ref ar), .val (.int len), .val (.int i), .val (.int y5), .val (.int y6)] [])) t := fun t k => pre53 t (by
    show Steps p.tables e below (T0.setTop (mkF m 61 #[.val (.ref ar), .val (.int (own_bit (crc ^^^ (x &&& (255 : Int32))))), .val (.ref ar), .val (.int len), .val (.int i), .val (.int x), .val (.int (0 : Int32))] [])) _
    refine XS.iinc X0.here hx rfl (hb hby own_d_prog_22_method_2_code_61) rfl (l' := #[.val (.ref ar), .val (.int (own_bit (crc ^^^ (x &&& (255 : Int32))))), .val (.ref ar), .val (.int len), .val (.int i), .val (.int x), .val (.int (1 : Int32))]) rfl ?_
    show Steps p.tables e below (T0.setTop (mkF m 64 #[.val (.ref ar), .val (.int (own_bit (crc ^^^ (x &&& (255 : Int32))))), .val (.ref ar), .val (.int len), .val (.int i), .val (.int x), .val (.int (1 : Int32))] [])) _
    refine XS.goto X0.here hx rfl (pc0 := 64) (pc' := 34) rfl (hb hby own_d_prog_22_method_2_code_64) (by decide) (by decide) ?_
    show Steps p.tables e below (T0.setTop (mkF m 34 #[.val (.ref ar), .val (.int (own_bit (crc ^^^ (x &&& (255 : Int32))))), .val (.ref ar), .val (.int len), .val (.int i), .val (.int x), .val (.int (1 : Int32))] [])) _
    refine XS.iload X0.here hx rfl (hb hby own_d_prog_22_method_2_code_34) rfl ?_
    show Steps p.tables e below (T0.setTop (mkF m 36 #[.val (.ref ar), .val (.int (own_bit (crc ^^^ (x &&& (255 : Int32))))), .val (.ref ar), .val (.int len), .val (.int i), .val (.int x), .val (.int (1 : Int32))] [(.int (1 : Int32))])) _
    refine XS.bipush X0.here hx rfl (hb hby own_d_prog_22_method_2_code_36) ?_
    show Steps p.tables e below (T0.setTop (mkF m 38 #[.val (.ref ar), .val (.int (own_bit (crc ^^^ (x &&& (255 : Int32))))), .val (.ref ar), .val (.int len), .val (.int i), .val (.int x), .val (.int (1 : Int32))] [(.int (8 : Int32)), (.int (1 : Int32))])) _
    refine XS.icmpNo X0.here hx rfl (hb hby own_d_prog_22_method_2_code_38) rfl (tlt (by decide : (1 : Int32) < (8 : Int32))).2.1 ?_
    show Steps p.tables e below (T0.setTop (mkF m 41 #[.val (.ref ar), .val (.int (own_bit (crc ^^^ (x &&& (255 : Int32))))), .val (.ref ar), .val (.int len), .val (.int i), .val (.int x), .val (.int (1 : Int32))] [])) _
    refine XS.iloadN X0.here hx rfl (hb hby own_d_prog_22_method_2_code_41) rfl ?_
    show Steps p.tables e below (T0.setTop (mkF m 42 #[.val (.ref ar), .val (.int (own_bit (crc ^^^ (x &&& (255 : Int32))))), .val (.ref ar), .val (.int len), .val (.int i), .val (.int x), .val (.int (1 : Int32))] [(.int (own_bit (crc ^^^ (x &&& (255 : Int32)))))])) _
    refine XS.iconst X0.here hx rfl (hb hby own_d_prog_22_method_2_code_42) ?_
    show Steps p.tables e below (T0.setTop (mkF m 43 #[.val (.ref ar), .val (.int (own_bit (crc ^^^ (x &&& (255 : Int32))))), .val (.ref ar), .val (.int len), .val (.int i), .val (.int x), .val (.int (1 : Int32))] [(.int (1 : Int32)), (.int (own_bit (crc ^^^ (x &&& (255 : Int32)))))])) _
    refine XS.iand X0.here hx rfl (hb hby own_d_prog_22_method_2_code_43) rfl ?_
    exact k)
  have pre56 : ∀ t, Steps p.tables e below (T0.setTop (mkF m 61 #[.val (.ref ar), .val (.int (own_bit (own_bit (crc ^^^ (x &&& (255 : Int32)))))), .val (.ref ar), .val (.int len), .val (.int i), .val (.int x), .val (.int (1 : Int32))] [])) t → Steps p.tables e below (T0.setTop (mkF m 10 #[.val (.ref ar), .val (.int crc), .val (.ref ar), .val (.int len), .val (.int i), .val (.int y5), .val (.int y6)] [])) t := fun t k => pre54 t (by
    by_cases hd55 : ((own_bit (crc ^^^ (x &&& (255 : Int32)))) &&& (1 : Int32)) = (0 : Int32)
    · rw [(show own_bit (own_bit (crc ^^^ (x &&& (255 : Int32)))) = _ from if_pos hd55)] at k
      show Steps p.tables e below (T0.setTop (mkF m 44 #[.val (.ref ar), .val (.int (own_bit (crc ^^^ (x &&& (255 : Int32))))), .val (.ref ar), .val (.int len), .val (.int i), .val (.int x), .val (.int (1 : Int32))] [(.int ((own_bit (crc ^^^ (x &&& (255 : Int32)))) &&& (1 : Int32)))])) _
      refine XS.ifYes X0.here hx rfl (pc0 := 44) (pc' := 57) rfl (hb hby own_d_prog_22_method_2_code_44) rfl ((if0 _ _).trans (teq hd55).1) (by decide) (by decide) ?_
      show Steps p.tables e below (T0.setTop (mkF m 57 #[.val (.ref ar), .val (.int (own_bit (crc ^^^ (x &&& (255 : Int32))))), .val (.ref ar), .val (.int len), .val (.int i), .val (.int x), .val (.int (1 : Int32))] [])) _
      refine XS.iloadN X0.here hx rfl (hb hby own_d_prog_22_method_2_code_57) rfl ?_
      show Steps p.tables e below (T0.setTop (mkF m 58 #[.val (.ref ar), .val (.int (own_bit (crc ^^^ (x &&& (255 : Int32))))), .val (.ref ar), .val (.int len), .val (.int i), .val (.int x), .val (.int (1 : Int32))] [(.int (own_bit (crc ^^^ (x &&& (255 : Int32)))))])) _
      refine XS.iconst X0.here hx rfl (hb hby own_d_prog_22_method_2_code_58) ?_
      show Steps p.tables e below (T0.setTop (mkF m 59 #[.val (.ref ar), .val (.int (own_bit (crc ^^^ (x &&& (255 : Int32))))), .val (.ref ar), .val (.int len), .val (.int i), .val (.int x), .val (.int (1 : Int32))] [(.int (1 : Int32)), (.int (own_bit (crc ^^^ (x &&& (255 : Int32)))))])) _
      refine XS.iushr X0.here hx rfl (hb hby own_d_prog_22_method_2_code_59) rfl ?_
      show Steps p.tables e below (T0.setTop (mkF m 60 #[.val (.ref ar), .val (.int (own_bit (crc ^^^ (x &&& (255 : Int32))))), .val (.ref ar), .val (.int len), .val (.int i), .val (.int x), .val (.int (1 : Int32))] [(.int (((own_bit (crc ^^^ (x &&& (255 : Int32)))).toUInt32 >>> ((1 : Int32) &&& 31).toUInt32).toInt32))])) _
      refine XS.istoreN X0.here hx rfl (hb hby own_d_prog_22_method_2_code_60) rfl (l' := #[.val (.ref ar), .val (.int (((own_bit (crc ^^^ (x &&& (255 : Int32)))).toUInt32 >>> ((1 : Int32) &&& 31).toUInt32).toInt32)), .val (.ref ar), .val (.int len), .val (.int i), .val (.int x), .val (.int (1 : Int32))]) rfl ?_
      exact k
    · rw [(show own_bit (own_bit (crc ^^^ (x &&& (255 : Int32)))) = _ from if_neg hd55)] at k
      show Steps p.tables e below (T0.setTop (mkF m 44 #[.val (.ref ar), .val (.int (own_bit (crc ^^^ (x &&& (255 : Int32))))), .val (.ref ar), .val (.int len), .val (.int i), .val (.int x), .val (.int (1 : Int32))] [(.int ((own_bit (crc ^^^ (x &&& (255 : Int32)))) &&& (1 : Int32)))])) _
      refine XS.ifNo X0.here hx rfl (hb hby own_d_prog_22_method_2_code_44) rfl ((if0 _ _).trans (feq hd55).1) ?_
      show Steps p.tables e below (T0.setTop (mkF m 47 #[.val (.ref ar), .val (.int (own_bit (crc ^^^ (x &&& (255 : Int32))))), .val (.ref ar), .val (.int len), .val (.int i), .val (.int x), .val (.int (1 : Int32))] [])) _
      refine XS.iloadN X0.here hx rfl (hb hby own_d_prog_22_method_2_code_47) rfl ?_
      show Steps p.tables e below (T0.setTop (mkF m 48 #[.val (.ref ar), .val (.int (own_bit (crc ^^^ (x &&& (255 : Int32))))), .val (.ref ar), .val (.int len), .val (.int i), .val (.int x), .val (.int (1 : Int32))] [(.int (own_bit (crc ^^^ (x &&& (255 : Int32)))))])) _
      refine XS.iconst X0.here hx rfl (hb hby own_d_prog_22_method_2_code_48) ?_
      show Steps p.tables e below (T0.setTop (mkF m 49 #[.val (.ref ar), .val (.int (own_bit (crc ^^^ (x &&& (255 : Int32))))), .val (.ref ar), .val (.int len), .val (.int i), .val (.int x), .val (.int (1 : Int32))] [(.int (1 : Int32)), (.int (own_bit (crc ^^^ (x &&& (255 : Int32)))))])) _
      refine XS.iushr X0.here hx rfl (hb hby own_d_prog_22_method_2_code_49) rfl ?_
      show Steps p.tables e below (T0.setTop (mkF m 50 #[.val (.ref ar), .val (.int (own_bit (crc ^^^ (x &&& (255 : Int32))))), .val (.ref ar), .val (.int len), .val (.int i), .val (.int x), .val (.int (1 : Int32))] [(.int (((own_bit (crc ^^^ (x &&& (255 : Int32)))).toUInt32 >>> ((1 : Int32) &&& 31).toUInt32).toInt32))])) _
      refine X0.ldcInt hx hown (mvT hZ (hw _ (List.mem_of_getElem? (i := 12) rfl))) (g := (mkF m 50 #[.val (.ref ar), .val (.int (own_bit (crc ^^^ (x &&& (255 : Int32))))), .val (.ref ar), .val (.int len), .val (.int i), .val (.int x), .val (.int (1 : Int32))] [(.int (((own_bit (crc ^^^ (x &&& (255 : Int32)))).toUInt32 >>> ((1 : Int32) &&& 31).toUInt32).toInt32))])) rfl (hb hby own_d_prog_22_method_2_code_50) _ ?_
      show Steps p.tables e below (T0.setTop (mkF m 52 #[.val (.ref ar), .val (.int (own_bit (crc ^^^ (x &&& (255 : Int32))))), .val (.ref ar), .val (.int len), .val (.int i), .val (.int x), .val (.int (1 : Int32))] [(.int (40961 : Int32)), (.int (((own_bit (crc ^^^ (x &&& (255 : Int32)))).toUInt32 >>> ((1 : Int32) &&& 31).toUInt32).toInt32))])) _
      refine XS.ixor X0.here hx rfl (hb hby own_d_prog_22_method_2_code_52) rfl ?_
      show Steps p.tables e below (T0.setTop (mkF m 53 #[.val (.ref ar), .val (.int (own_bit (crc ^^^ (x &&& (255 : Int32))))), .val (.ref ar), .val (.int len), .val (.int i), .val (.int x), .val (.int (1 : Int32))] [(.int ((((own_bit (crc ^^^ (x &&& (255 : Int32)))).toUInt32 >>> ((1 : Int32) &&& 31).toUInt32).toInt32) ^^^ (40961 : Int32)))])) _
      refine XS.istoreN X0.here hx rfl (hb hby own_d_prog_22_method_2_code_53) rfl (l' := #[.val (.ref ar), .val (.int ((((own_bit (crc ^^^ (x &&& (255 : Int32)))).toUInt32 >>> ((1 : Int32) &&& 31).toUInt32).toInt32) ^^^ (40961 : Int32))), .val (.ref ar), .val (.int len), .val (.int i), .val (.int x), .val (.int (1 : Int32))]) rfl ?_
      show Steps p.tables e below (T0.setTop (mkF m 54 #[.val (.ref ar), .val (.int ((((own_bit (crc ^^^ (x &&& (255 : Int32)))).toUInt32 >>> ((1 : Int32) &&& 31).toUInt32).toInt32) ^^^ (40961 : Int32))), .val (.ref ar), .val (.int len), .val (.int i), .val (.int x), .val (.int (1 : Int32))] [])) _
      refine XS.goto X0.here hx rfl (pc0 := 54) (pc' := 61) rfl (hb hby own_d_prog_22_method_2_code_54) (by decide) (by decide) ?_
      exact k)
  have pre57 : ∀ t, Steps p.tables e below (T0.setTop (mkF m 44 #[.val (.ref ar), .val (.int (own_bit (own_bit (crc ^^^ (x &&& (255 : Int32)))))), .val (.ref ar), .val (.int len), .val (.int i), .val (.int x), .val (.int (2 : Int32))] [(.int ((own_bit (own_bit (crc ^^^ (x &&& (255 : Int32))))) &&& (1 : Int32)))])) t → Steps p.tables e below (T0.setTop (mkF m 10 #[.val (.ref ar), .val (.int crc), .val (.ref ar), .val (.int len), .val (.int i), .val (.int y5), .val (.int y6)] [])) t := fun t k => pre56 t (by
    show Steps p.tables e below (T0.setTop (mkF m 61 #[.val (.ref ar), .val (.int (own_bit (own_bit (crc ^^^ (x &&& (255 : Int32)))))), .val (.ref ar), .val (.int len), .val (.int i), .val (.int x), .val (.int (1 : Int32))] [])) _
    refine XS.iinc X0.here hx rfl (hb hby own_d_prog_22_method_2_code_61) rfl (l' := #[.val (.ref ar), .val (.int (own_bit (own_bit (crc ^^^ (x &&& (255 : Int32)))))), .val (.ref ar), .val (.int len), .val (.int i), .val (.int x), .val (.int (2 : Int32))]) rfl ?_
    show Steps p.tables e below (T0.setTop (mkF m 64 #[.val (.ref ar), .val (.int (own_bit (own_bit (crc ^^^ (x &&& (255 : Int32)))))), .val (.ref ar), .val (.int len), .val (.int i), .val (.int x), .val (.int (2 : Int32))] [])) _
    refine XS.goto X0.here hx rfl (pc0 := 64) (pc' := 34) rfl (hb hby own_d_prog_22_method_2_code_64) (by decide) (by decide) ?_
    show Steps p.tables e below (T0.setTop (mkF m 34 #[.val (.ref ar), .val (.int (own_bit (own_bit (crc ^^^ (x &&& (255 : Int32)))))), .val (.ref ar), .val (.int len), .val (.int i), .val (.int x), .val (.int (2 : Int32))] [])) _
    refine XS.iload X0.here hx rfl (hb hby own_d_prog_22_method_2_code_34) rfl ?_
    show Steps p.tables e below (T0.setTop (mkF m 36 #[.val (.ref ar), .val (.int (own_bit (own_bit (crc ^^^ (x &&& (255 : Int32)))))), .val (.ref ar), .val (.int len), .val (.int i), .val (.int x), .val (.int (2 : Int32))] [(.int (2 : Int32))])) _
    refine XS.bipush X0.here hx rfl (hb hby own_d_prog_22_method_2_code_36) ?_
    show Steps p.tables e below (T0.setTop (mkF m 38 #[.val (.ref ar), .val (.int (own_bit (own_bit (crc ^^^ (x &&& (255 : Int32)))))), .val (.ref ar), .val (.int len), .val (.int i), .val (.int x), .val (.int (2 : Int32))] [(.int (8 : Int32)), (.int (2 : Int32))])) _
    refine XS.icmpNo X0.here hx rfl (hb hby own_d_prog_22_method_2_code_38) rfl (tlt (by decide : (2 : Int32) < (8 : Int32))).2.1 ?_
    show Steps p.tables e below (T0.setTop (mkF m 41 #[.val (.ref ar), .val (.int (own_bit (own_bit (crc ^^^ (x &&& (255 : Int32)))))), .val (.ref ar), .val (.int len), .val (.int i), .val (.int x), .val (.int (2 : Int32))] [])) _
    refine XS.iloadN X0.here hx rfl (hb hby own_d_prog_22_method_2_code_41) rfl ?_
    show Steps p.tables e below (T0.setTop (mkF m 42 #[.val (.ref ar), .val (.int (own_bit (own_bit (crc ^^^ (x &&& (255 : Int32)))))), .val (.ref ar), .val (.int len), .val (.int i), .val (.int x), .val (.int (2 : Int32))] [(.int (own_bit (own_bit (crc ^^^ (x &&& (255 : Int32))))))])) _
    refine XS.iconst X0.here hx rfl (hb hby own_d_prog_22_method_2_code_42) ?_
    show Steps p.tables e below (T0.setTop (mkF m 43 #[.val (.ref ar), .val (.int (own_bit (own_bit (crc ^^^ (x &&& (255 : Int32)))))), .val (.ref ar), .val (.int len), .val (.int i), .val (.int x), .val (.int (2 : Int32))] [(.int (1 : Int32)), (.int (own_bit (own_bit (crc ^^^ (x &&& (255 : Int32))))))])) _
    refine XS.iand X0.here hx rfl (hb hby own_d_prog_22_method_2_code_43) rfl ?_
    exact k)
  have pre59 : ∀ t, Steps p.tables e below (T0.setTop (mkF m 61 #[.val (.ref ar), .val (.int (own_bit (own_bit (own_bit (crc ^^^ (x &&& (255 : Int32))))))), .val (.ref ar), .val (.int len), .val (.int i), .val (.int x), .val (.int (2 : Int32))] [])) t → Steps p.tables e below (T0.setTop (mkF m 10 #[.val (.ref ar), .val (.int crc), .val (.ref ar), .val (.int len), .val (.int i), .val (.int y5), .val (.int y6)] [])) t := fun t k => pre57 t (by
    by_cases hd58 : ((own_bit (own_bit (crc ^^^ (x &&& (255 : Int32))))) &&& (1 : Int32)) = (0 : Int32)
    · rw [(show own_bit (own_bit (own_bit (crc ^^^ (x &&& (255 : Int32))))) = _ from if_pos hd58)] at k
      show Steps p.tables e below (T0.setTop (mkF m 44 #[.val (.ref ar), .val (.int (own_bit (own_bit (crc ^^^ (x &&& (255 : Int32)))))), .val (.ref ar), .val (.int len), .val (.int i), .val (.int x), .val (.int (2 : Int32))] [(.int ((own_bit (own_bit (crc ^^^ (x &&& (255 : Int32))))) &&& (1 : Int32)))])) _
      refine XS.ifYes X0.here hx rfl (pc0 := 44) (pc' := 57) rfl (hb hby own_d_prog_22_method_2_code_44) rfl ((if0 _ _).trans (teq hd58).1) (by decide) (by decide) ?_
      show Steps p.tables e below (T0.setTop (mkF m 57 #[.val (.ref ar), .val (.int (own_bit (own_bit (crc ^^^ (x &&& (255 : Int32)))))), .val (.ref ar), .val (.int len), .val (.int i), .val (.int x), .val (.int (2 : Int32))] [])) _
      refine XS.iloadN X0.here hx rfl (hb hby own_d_prog_22_method_2_code_57) rfl ?_
      show Steps p.tables e below (T0.setTop (mkF m 58 #[.val (.ref ar), .val (.int (own_bit (own_bit (crc ^^^ (x &&& (255 : Int32)))))), .val (.ref ar), .val (.int len), .val (.int i), .val (.int x), .val (.int (2 : Int32))] [(.int (own_bit (own_bit (crc ^^^ (x &&& (255 : Int32))))))])) _
      refine XS.iconst X0.here hx rfl (hb hby own_d_prog_22_method_2_code_58) ?_
      show Steps p.tables e below (T0.setTop (mkF m 59 #[.val (.ref ar), .val (.int (own_bit (own_bit (crc ^^^ (x &&& (255 : Int32)))))), .val (.ref ar), .val (.int len), .val (.int i), .val (.int x), .val (.int (2 : Int32))] [(.int (1 : Int32)), (.int (own_bit (own_bit (crc ^^^ (x &&& (255 : Int32))))))])) _
      refine XS.iushr X0.here hx rfl (hb hby own_d_prog_22_method_2_code_59) rfl ?_
      show Steps p.tables e below (T0.setTop (mkF m 60 #[.val (.ref ar), .val (.int (own_bit (own_bit (crc ^^^ (x &&& (255 : Int32)))))), .val (.ref ar), .val (.int len), .val (.int i), .val (.int x), .val (.int (2 : Int32))] [(.int (((own_bit (own_bit (crc ^^^ (x &&& (255 : Int32))))).toUInt32 >>> ((1 : Int32) &&& 31).toUInt32).toInt32))])) _
      refine XS.istoreN X0.here hx rfl (hb hby own_d_prog_22_method_2_code_60) rfl (l' := #[.val (.ref ar), .val (.int (((own_bit (own_bit (crc ^^^ (x &&& (255 : Int32))))).toUInt32 >>> ((1 : Int32) &&& 31).toUInt32).toInt32)), .val (.ref ar), .val (.int len), .val (.int i), .val (.int x), .val (.int (2 : Int32))]) rfl ?_
      exact k
    · rw [(show own_bit (own_bit (own_bit (crc ^^^ (x &&& (255 : Int32))))) = _ from if_neg hd58)] at k
      show Steps p.tables e below (T0.setTop (mkF m 44 #[.val (.ref ar), .val (.int (own_bit (own_bit (crc ^^^ (x &&& (255 : Int32)))))), .val (.ref ar), .val (.int len), .val (.int i), .val (.int x), .val (.int (2 : Int32))] [(.int ((own_bit (own_bit (crc ^^^ (x &&& (255 : Int32))))) &&& (1 : Int32)))])) _
      refine XS.ifNo X0.here hx rfl (hb hby own_d_prog_22_method_2_code_44) rfl ((if0 _ _).trans (feq hd58).1) ?_
      show Steps p.tables e below (T0.setTop (mkF m 47 #[.val (.ref ar), .val (.int (own_bit (own_bit (crc ^^^ (x &&& (255 : Int32)))))), .val (.ref ar), .val (.int len), .val (.int i), .val (.int x), .val (.int (2 : Int32))] [])) _
      refine XS.iloadN X0.here hx rfl (hb hby own_d_prog_22_method_2_code_47) rfl ?_
      show Steps p.tables e below (T0.setTop (mkF m 48 #[.val (.ref ar), .val (.int (own_bit (own_bit (crc ^^^ (x &&& (255 : Int32)))))), .val (.ref ar), .val (.int len), .val (.int i), .val (.int x), .val (.int (2 : Int32))] [(.int (own_bit (own_bit (crc ^^^ (x &&& (255 : Int32))))))])) _
      refine XS.iconst X0.here hx rfl (hb hby own_d_prog_22_method_2_code_48) ?_
      show Steps p.tables e below (T0.setTop (mkF m 49 #[.val (.ref ar), .val (.int (own_bit (own_bit (crc ^^^ (x &&& (255 : Int32)))))), .val (.ref ar), .val (.int len), .val (.int i), .val (.int x), .val (.int (2 : Int32))] [(.int (1 : Int32)), (.int (own_bit (own_bit (crc ^^^ (x &&& (255 : Int32))))))])) _
      refine XS.iushr X0.here hx rfl (hb hby own_d_prog_22_method_2_code_49) rfl ?_
      show Steps p.tables e below (T0.setTop (mkF m 50 #[.val (.ref ar), .val (.int (own_bit (own_bit (crc ^^^ (x &&& (255 : Int32)))))), .val (.ref ar), .val (.int len), .val (.int i), .val (.int x), .val (.int (2 : Int32))] [(.int (((own_bit (own_bit (crc ^^^ (x &&& (255 : Int32))))).toUInt32 >>> ((1 : Int32) &&& 31).toUInt32).toInt32))])) _
      refine X0.ldcInt hx hown (mvT hZ (hw _ (List.mem_of_getElem? (i := 12) rfl))) (g := (mkF m 50 #[.val (.ref ar), .val (.int (own_bit (own_bit (crc ^^^ (x &&& (255 : Int32)))))), .val (.ref ar), .val (.int len), .val (.int i), .val (.int x), .val (.int (2 : Int32))] [(.int (((own_bit (own_bit (crc ^^^ (x &&& (255 : Int32))))).toUInt32 >>> ((1 : Int32) &&& 31).toUInt32).toInt32))])) rfl (hb hby own_d_prog_22_method_2_code_50) _ ?_
      show Steps p.tables e below (T0.setTop (mkF m 52 #[.val (.ref ar), .val (.int (own_bit (own_bit (crc ^^^ (x &&& (255 : Int32)))))), .val (.ref ar), .val (.int len), .val (.int i), .val (.int x), .val (.int (2 : Int32))] [(.int (40961 : Int32)), (.int (((own_bit (own_bit (crc ^^^ (x &&& (255 : Int32))))).toUInt32 >>> ((1 : Int32) &&& 31).toUInt32).toInt32))])) _
      refine XS.ixor X0.here hx rfl (hb hby own_d_prog_22_method_2_code_52) rfl ?_
      show Steps p.tables e below (T0.setTop (mkF m 53 #[.val (.ref ar), .val (.int (own_bit (own_bit (crc ^^^ (x &&& (255 : Int32)))))), .val (.ref ar), .val (.int len), .val (.int i), .val (.int x), .val (.int (2 : Int32))] [(.int ((((own_bit (own_bit (crc ^^^ (x &&& (255 : Int32))))).toUInt32 >>> ((1 : Int32) &&& 31).toUInt32).toInt32) ^^^ (40961 : Int32)))])) _
      refine XS.istoreN X0.here hx rfl (hb hby own_d_prog_22_method_2_code_53) rfl (l' := #[.val (.ref ar), .val (.int ((((own_bit (own_bit (crc ^^^ (x &&& (255 : Int32))))).toUInt32 >>> ((1 : Int32) &&& 31).toUInt32).toInt32) ^^^ (40961 : Int32))), .val (.ref ar), .val (.int len), .val (.int i), .val (.int x), .val (.int (2 : Int32))]) rfl ?_
      show Steps p.tables e below (T0.setTop (mkF m 54 #[.val (.ref ar), .val (.int ((((own_bit (own_bit (crc ^^^ (x &&& (255 : Int32))))).toUInt32 >>> ((1 : Int32) &&& 31).toUInt32).toInt32) ^^^ (40961 : Int32))), .val (.ref ar), .val (.int len), .val (.int i), .val (.int x), .val (.int (2 : Int32))] [])) _
      refine XS.goto X0.here hx rfl (pc0 := 54) (pc' := 61) rfl (hb hby own_d_prog_22_method_2_code_54) (by decide) (by decide) ?_
      exact k)
  have pre60 : ∀ t, Steps p.tables e below (T0.setTop (mkF m 44 #[.val (.ref ar), .val (.int (own_bit (own_bit (own_bit (crc ^^^ (x &&& (255 : Int32))))))), .val (.ref ar), .val (.int len), .val (.int i), .val (.int x), .val (.int (3 : Int32))] [(.int ((own_bit (own_bit (own_bit (crc ^^^ (x &&& (255 : Int32)))))) &&& (1 : Int32)))])) t → Steps p.tables e below (T0.setTop (mkF m 10 #[.val (.ref ar), .val (.int crc), .val (.ref ar), .val (.int len), .val (.int i), .val (.int y5), .val (.int y6)] [])) t := fun t k => pre59 t (by
    show Steps p.tables e below (T0.setTop (mkF m 61 #[.val (.ref ar), .val (.int (own_bit (own_bit (own_bit (crc ^^^ (x &&& (255 : Int32))))))), .val (.ref ar), .val (.int len), .val (.int i), .val (.int x), .val (.int (2 : Int32))] [])) _
    refine XS.iinc X0.here hx rfl (hb hby own_d_prog_22_method_2_code_61) rfl (l' := #[.val (.ref ar), .val (.int (own_bit (own_bit (own_bit (crc ^^^ (x &&& (255 : Int32))))))), .val (.ref ar), .val (.int len), .val (.int i), .val (.int x), .val (.int (3 : Int32))]) rfl ?_
    show Steps p.tables e below (T0.setTop (mkF m 64 #[.val (.ref ar), .val (.int (own_bit (own_bit (own_bit (crc ^^^ (x &&& (255 : Int32))))))), .val (.ref ar), .val (.int len), .val (.int i), .val (.int x), .val (.int (3 : Int32))] [])) _
    refine XS.goto X0.here hx rfl (pc0 := 64) (pc' := 34) rfl (hb hby own_d_prog_22_method_2_code_64) (by decide) (by decide) ?_
    show Steps p.tables e below (T0.setTop (mkF m 34 #[.val (.ref ar), .val (.int (own_bit (own_bit (own_bit (crc ^^^ (x &&& (255 : Int32))))))), .val (.ref ar), .val (.int len), .val (.int i), .val (.int x), .val (.int (3 : Int32))] [])) _
    refine XS.iload X0.here hx rfl (hb hby own_d_prog_22_method_2_code_34) rfl ?_
    show Steps p.tables e below (T0.setTop (mkF m 36 #[.val (.ref ar), .val (.int (own_bit (own_bit (own_bit (crc ^^^ (x &&& (255 : Int32))))))), .val (.ref ar), .val (.int len), .val (.int i), .val (.int x), .val (.int (3 : Int32))] [(.int (3 : Int32))])) _
    refine XS.bipush X0.here hx rfl (hb hby own_d_prog_22_method_2_code_36) ?_
    show Steps p.tables e below (T0.setTop (mkF m 38 #[.val (.ref ar), .val (.int (own_bit (own_bit (own_bit (crc ^^^ (x &&& (255 : Int32))))))), .val (.ref ar), .val (.int len), .val (.int i), .val (.int x), .val (.int (3 : Int32))] [(.int (8 : Int32)), (.int (3 : Int32))])) _
    refine XS.icmpNo X0.here hx rfl (hb hby own_d_prog_22_method_2_code_38) rfl (tlt (by decide : (3 : Int32) < (8 : Int32))).2.1 ?_
    show Steps p.tables e below (T0.setTop (mkF m 41 #[.val (.ref ar), .val (.int (own_bit (own_bit (own_bit (crc ^^^ (x &&& (255 : Int32))))))), .val (.ref ar), .val (.int len), .val (.int i), .val (.int x), .val (.int (3 : Int32))] [])) _
    refine XS.iloadN X0.here hx rfl (hb hby own_d_prog_22_method_2_code_41) rfl ?_
    show Steps p.tables e below (T0.setTop (mkF m 42 #[.val (.ref ar), .val (.int (own_bit (own_bit (own_bit (crc ^^^ (x &&& (255 : Int32))))))), .val (.ref ar), .val (.int len), .val (.int i), .val (.int x), .val (.int (3 : Int32))] [(.int (own_bit (own_bit (own_bit (crc ^^^ (x &&& (255 : Int32)))))))])) _
    refine XS.iconst X0.here hx rfl (hb hby own_d_prog_22_method_2_code_42) ?_
    show Steps p.tables e below (T0.setTop (mkF m 43 #[.val (.ref ar), .val (.int (own_bit (own_bit (own_bit (crc ^^^ (x &&& (255 : Int32))))))), .val (.ref ar), .val (.int len), .val (.int i), .val (.int x), .val (.int (3 : Int32))] [(.int (1 : Int32)), (.int (own_bit (own_bit (own_bit (crc ^^^ (x &&& (255 : Int32)))))))])) _
    refine XS.iand X0.here hx rfl (hb hby own_d_prog_22_method_2_code_43) rfl ?_
    exact k)
  have pre62 : ∀ t, Steps p.tables e below (T0.setTop (mkF m 61 #[.val (.ref ar), .val (.int (own_bit (own_bit (own_bit (own_bit (crc ^^^ (x &&& (255 : Int32)))))))), .val (.ref ar), .val (.int len), .val (.int i), .val (.int x), .val (.int (3 : Int32))] [])) t → Steps p.tables e below (T0.setTop (mkF m 10 #[.val (.ref ar), .val (.int crc), .val (.ref ar), .val (.int len), .val (.int i), .val (.int y5), .val (.int y6)] [])) t := fun t k => pre60 t (by
    by_cases hd61 : ((own_bit (own_bit (own_bit (crc ^^^ (x &&& (255 : Int32)))))) &&& (1 : Int32)) = (0 : Int32)
    · rw [(show own_bit (own_bit (own_bit (own_bit (crc ^^^ (x &&& (255 : Int32)))))) = _ from if_pos hd61)] at k
      show Steps p.tables e below (T0.setTop (mkF m 44 #[.val (.ref ar), .val (.int (own_bit (own_bit (own_bit (crc ^^^ (x &&& (255 : Int32))))))), .val (.ref ar), .val (.int len), .val (.int i), .val (.int x), .val (.int (3 : Int32))] [(.int ((own_bit (own_bit (own_bit (crc ^^^ (x &&& (255 : Int32)))))) &&& (1 : Int32)))])) _
      refine XS.ifYes X0.here hx rfl (pc0 := 44) (pc' := 57) rfl (hb hby own_d_prog_22_method_2_code_44) rfl ((if0 _ _).trans (teq hd61).1) (by decide) (by decide) ?_
      show Steps p.tables e below (T0.setTop (mkF m 57 #[.val (.ref ar), .val (.int (own_bit (own_bit (own_bit (crc ^^^ (x &&& (255 : Int32))))))), .val (.ref ar), .val (.int len), .val (.int i), .val (.int x), .val (.int (3 : Int32))] [])) _
      refine XS.iloadN X0.here hx rfl (hb hby own_d_prog_22_method_2_code_57) rfl ?_
      show Steps p.tables e below (T0.setTop (mkF m 58 #[.val (.ref ar), .val (.int (own_bit (own_bit (own_bit (crc ^^^ (x &&& (255 : Int32))))))), .val (.ref ar), .val (.int len), .val (.int i), .val (.int x), .val (.int (3 : Int32))] [(.int (own_bit (own_bit (own_bit (crc ^^^ (x &&& (255 : Int32)))))))])) _
      refine XS.iconst X0.here hx rfl (hb hby own_d_prog_22_method_2_code_58) ?_
      show Steps p.tables e below (T0.setTop (mkF m 59 #[.val (.ref ar), .val (.int (own_bit (own_bit (own_bit (crc ^^^ (x &&& (255 : Int32))))))), .val (.ref ar), .val (.int len), .val (.int i), .val (.int x), .val (.int (3 : Int32))] [(.int (1 : Int32)), (.int (own_bit (own_bit (own_bit (crc ^^^ (x &&& (255 : Int32)))))))])) _
      refine XS.iushr X0.here hx rfl (hb hby own_d_prog_22_method_2_code_59) rfl ?_
      show Steps p.tables e below (T0.setTop (mkF m 60 #[.val (.ref ar), .val (.int (own_bit (own_bit (own_bit (crc ^^^ (x &&& (255 : Int32))))))), .val (.ref ar), .val (.int len), .val (.int i), .val (.int x), .val (.int (3 : Int32))] [(.int (((own_bit (own_bit (own_bit (crc ^^^ (x &&& (255 : Int32)))))).toUInt32 >>> ((1 : Int32) &&& 31).toUInt32).toInt32))])) _
      refine XS.istoreN X0.here hx rfl (hb hby own_d_prog_22_method_2_code_60) rfl (l' := #[.val (.ref ar), .val (.int (((own_bit (own_bit (own_bit (crc ^^^ (x &&& (255 : Int32)))))).toUInt32 >>> ((1 : Int32) &&& 31).toUInt32).toInt32)), .val (.ref ar), .val (.int len), .val (.int i), .val (.int x), .val (.int (3 : Int32))]) rfl ?_
      exact k
    · rw [(show own_bit (own_bit (own_bit (own_bit (crc ^^^ (x &&& (255 : Int32)))))) = _ from if_neg hd61)] at k
      show Steps p.tables e below (T0.setTop (mkF m 44 #[.val (.ref ar), .val (.int (own_bit (own_bit (own_bit (crc ^^^ (x &&& (255 : Int32))))))), .val (.ref ar), .val (.int len), .val (.int i), .val (.int x), .val (.int (3 : Int32))] [(.int ((own_bit (own_bit (own_bit (crc ^^^ (x &&& (255 : Int32)))))) &&& (1 : Int32)))])) _
      refine XS.ifNo X0.here hx rfl (hb hby own_d_prog_22_method_2_code_44) rfl ((if0 _ _).trans (feq hd61).1) ?_
      show Steps p.tables e below (T0.setTop (mkF m 47 #[.val (.ref ar), .val (.int (own_bit (own_bit (own_bit (crc ^^^ (x &&& (255 : Int32))))))), .val (.ref ar), .val (.int len), .val (.int i), .val (.int x), .val (.int (3 : Int32))] [])) _
      refine XS.iloadN X0.here hx rfl (hb hby own_d_prog_22_method_2_code_47) rfl ?_
      show Steps p.tables e below (T0.setTop (mkF m 48 #[.val (.ref ar), .val (.int (own_bit (own_bit (own_bit (crc ^^^ (x &&& (255 : Int32))))))), .val (.ref ar), .val (.int len), .val (.int i), .val (.int x), .val (.int (3 : Int32))] [(.int (own_bit (own_bit (own_bit (crc ^^^ (x &&& (255 : Int32)))))))])) _
      refine XS.iconst X0.here hx rfl (hb hby own_d_prog_22_method_2_code_48) ?_
      show Steps p.tables e below (T0.setTop (mkF m 49 #[.val (.ref ar), .val (.int (own_bit (own_bit (own_bit (crc ^^^ (x &&& (255 : Int32))))))), .val (.ref ar), .val (.int len), .val (.int i), .val (.int x), .val (.int (3 : Int32))] [(.int (1 : Int32)), (.int (own_bit (own_bit (own_bit (crc ^^^ (x &&& (255 : Int32)))))))])) _
      refine XS.iushr X0.here hx rfl (hb hby own_d_prog_22_method_2_code_49) rfl ?_
      show Steps p.tables e below (T0.setTop (mkF m 50 #[.val (.ref ar), .val (.int (own_bit (own_bit (own_bit (crc ^^^ (x &&& (255 : Int32))))))), .val (.ref ar), .val (.int len), .val (.int i), .val (.int x), .val (.int (3 : Int32))] [(.int (((own_bit (own_bit (own_bit (crc ^^^ (x &&& (255 : Int32)))))).toUInt32 >>> ((1 : Int32) &&& 31).toUInt32).toInt32))])) _
      refine X0.ldcInt hx hown (mvT hZ (hw _ (List.mem_of_getElem? (i := 12) rfl))) (g := (mkF m 50 #[.val (.ref ar), .val (.int (own_bit (own_bit (own_bit (crc ^^^ (x &&& (255 : Int32))))))), .val (.ref ar), .val (.int len), .val (.int i), .val (.int x), .val (.int (3 : Int32))] [(.int (((own_bit (own_bit (own_bit (crc ^^^ (x &&& (255 : Int32)))))).toUInt32 >>> ((1 : Int32) &&& 31).toUInt32).toInt32))])) rfl (hb hby own_d_prog_22_method_2_code_50) _ ?_
      show Steps p.tables e below (T0.setTop (mkF m 52 #[.val (.ref ar), .val (.int (own_bit (own_bit (own_bit (crc ^^^ (x &&& (255 : Int32))))))), .val (.ref ar), .val (.int len), .val (.int i), .val (.int x), .val (.int (3 : Int32))] [(.int (40961 : Int32)), (.int (((own_bit (own_bit (own_bit (crc ^^^ (x &&& (255 : Int32)))))).toUInt32 >>> ((1 : Int32) &&& 31).toUInt32).toInt32))])) _
      refine XS.ixor X0.here hx rfl (hb hby own_d_prog_22_method_2_code_52) rfl ?_
      show Steps p.tables e below (T0.setTop (mkF m 53 #[.val (.ref ar), .val (.int (own_bit (own_bit (own_bit (crc ^^^ (x &&& (255 : Int32))))))), .val (.ref ar), .val (.int len), .val (.int i), .val (.int x), .val (.int (3 : Int32))] [(.int ((((own_bit (own_bit (own_bit (crc ^^^ (x &&& (255 : Int32)))))).toUInt32 >>> ((1 : Int32) &&& 31).toUInt32).toInt32) ^^^ (40961 : Int32)))])) _
      refine XS.istoreN X0.here hx rfl (hb hby own_d_prog_22_method_2_code_53) rfl (l' := #[.val (.ref ar), .val (.int ((((own_bit (own_bit (own_bit (crc ^^^ (x &&& (255 : Int32)))))).toUInt32 >>> ((1 : Int32) &&& 31).toUInt32).toInt32) ^^^ (40961 : Int32))), .val (.ref ar), .val (.int len), .val (.int i), .val (.int x), .val (.int (3 : Int32))]) rfl ?_
      show Steps p.tables e below (T0.setTop (mkF m 54 #[.val (.ref ar), .val (.int ((((own_bit (own_bit (own_bit (crc ^^^ (x &&& (255 : Int32)))))).toUInt32 >>> ((1 : Int32) &&& 31).toUInt32).toInt32) ^^^ (40961 : Int32))), .val (.ref ar), .val (.int len), .val (.int i), .val (.int x), .val (.int (3 : Int32))] [])) _
      refine XS.goto X0.here hx rfl (pc0 := 54) (pc' := 61) rfl (hb hby own_d_prog_22_method_2_code_54) (by decide) (by decide) ?_
      exact k)
  have pre63 : ∀ t, Steps p.tables e below (T0.setTop (mkF m 44 #[.val (.ref ar), .val (.int (own_bit (own_bit (own_bit (own_bit (crc ^^^ (x &&& (255 : Int32)))))))), .val (.ref ar), .val (.int len), .val (.int i), .val (.int x), .val (.int (4 : Int32))] [(.int ((own_bit (own_bit (own_bit (own_bit (crc ^^^ (x &&& (255 : Int32))))))) &&& (1 : Int32)))])) t → Steps p.tables e below (T0.setTop (mkF m 10 #[.val (.ref ar), .val (.int crc), .val (.ref ar), .val (.int len), .val (.int i), .val (.int y5), .val (.int y6)] [])) t := fun t k => pre62 t (by
    show Steps p.tables e below (T0.setTop (mkF m 61 #[.val (.ref ar), .val (.int (own_bit (own_bit (own_bit (own_bit (crc ^^^ (x &&& (255 : Int32)))))))), .val (.ref ar), .val (.int len), .val (.int i), .val (.int x), .val (.int (3 : Int32))] [])) _
    refine XS.iinc X0.here hx rfl (hb hby own_d_prog_22_method_2_code_61) rfl (l' := #[.val (.ref ar), .val (.int (own_bit (own_bit (own_bit (own_bit (crc ^^^ (x &&& (255 : Int32)))))))), .val (.ref ar), .val (.int len), .val (.int i), .val (.int x), .val (.int (4 : Int32))]) rfl ?_
    show Steps p.tables e below (T0.setTop (mkF m 64 #[.val (.ref ar), .val (.int (own_bit (own_bit (own_bit (own_bit (crc ^^^ (x &&& (255 : Int32)))))))), .val (.ref ar), .val (.int len), .val (.int i), .val (.int x), .val (.int (4 : Int32))] [])) _
    refine XS.goto X0.here hx rfl (pc0 := 64) (pc' := 34) rfl (hb hby own_d_prog_22_method_2_code_64) (by decide) (by decide) ?_
    show Steps p.tables e below (T0.setTop (mkF m 34 #[.val (.ref ar), .val (.int (own_bit (own_bit (own_bit (own_bit (crc ^^^ (x &&& (255 : Int32)))))))), .val (.ref ar), .val (.int len), .val (.int i), .val (.int x), .val (.int (4 : Int32))] [])) _
    refine XS.iload X0.here hx rfl (hb hby own_d_prog_22_method_2_code_34) rfl ?_
    show Steps p.tables e below (T0.setTop (mkF m 36 #[.val (.ref ar), .val (.int (own_bit (own_bit (own_bit (own_bit (crc ^^^ (x &&& (255 : Int32)))))))), .val (.ref ar), .val (.int len), .val (.int i), .val (.int x), .val (.int (4 : Int32))] [(.int (4 : Int32))])) _
    refine XS.bipush X0.here hx rfl (hb hby own_d_prog_22_method_2_code_36) ?_
    show Steps p.tables e below (T0.setTop (mkF m 38 #[.val (.ref ar), .val (.int (own_bit (own_bit (own_bit (own_bit (crc ^^^ (x &&& (255 : Int32)))))))), .val (.ref ar), .val (.int len), .val (.int i), .val (.int x), .val (.int (4 : Int32))] [(.int (8 : Int32)), (.int (4 : Int32))])) _
    refine XS.icmpNo X0.here hx rfl (hb hby own_d_prog_22_method_2_code_38) rfl (tlt (by decide : (4 : Int32) < (8 : Int32))).2.1 ?_
    show Steps p.tables e below (T0.setTop (mkF m 41 #[.val (.ref ar), .val (.int (own_bit (own_bit (own_bit (own_bit (crc ^^^ (x &&& (255 : Int32)))))))), .val (.ref ar), .val (.int len), .val (.int i), .val (.int x), .val (.int (4 : Int32))] [])) _
    refine XS.iloadN X0.here hx rfl (hb hby own_d_prog_22_method_2_code_41) rfl ?_
    show Steps p.tables e below (T0.setTop (mkF m 42 #[.val (.ref ar), .val (.int (own_bit (own_bit (own_bit (own_bit (crc ^^^ (x &&& (255 : Int32)))))))), .val (.ref ar), .val (.int len), .val (.int i), .val (.int x), .val (.int (4 : Int32))] [(.int (own_bit (own_bit (own_bit (own_bit (crc ^^^ (x &&& (255 : Int32))))))))])) _
    refine XS.iconst X0.here hx rfl (hb hby own_d_prog_22_method_2_code_42) ?_
    show Steps p.tables e below (T0.setTop (mkF m 43 #[.val (.ref ar), .val (.int (own_bit (own_bit (own_bit (own_bit (crc ^^^ (x &&& (255 : Int32)))))))), .val (.ref ar), .val (.int len), .val (.int i), .val (.int x), .val (.int (4 : Int32))] [(.int (1 : Int32)), (.int (own_bit (own_bit (own_bit (own_bit (crc ^^^ (x &&& (255 : Int32))))))))])) _
    refine XS.iand X0.here hx rfl (hb hby own_d_prog_22_method_2_code_43) rfl ?_
    exact k)
  have pre65 : ∀ t, Steps p.tables e below (T0.setTop (mkF m 61 #[.val (.ref ar), .val (.int (own_bit (own_bit (own_bit (own_bit (own_bit (crc ^^^ (x &&& (255 : Int32))))))))), .val (.ref ar), .val (.int len), .val (.int i), .val (.int x), .val (.int (4 : Int32))] [])) t → Steps p.tables e below (T0.setTop (mkF m 10 #[.val (.ref ar), .val (.int crc), .val (.ref ar), .val (.int len), .val (.int i), .val (.int y5), .val (.int y6)] [])) t := fun t k => pre63 t (by
    by_cases hd64 : ((own_bit (own_bit (own_bit (own_bit (crc ^^^ (x &&& (255 : Int32))))))) &&& (1 : Int32)) = (0 : Int32)
    · rw [(show own_bit (own_bit (own_bit (own_bit (own_bit (crc ^^^ (x &&& (255 : Int32))))))) = _ from if_pos hd64)] at k
      show Steps p.tables e below (T0.setTop (mkF m 44 #[.val (.ref ar), .val (.int (own_bit (own_bit (own_bit (own_bit (crc ^^^ (x &&& (255 : Int32)))))))), .val (.ref ar), .val (.int len), .val (.int i), .val (.int x), .val (.int (4 : Int32))] [(.int ((own_bit (own_bit (own_bit (own_bit (crc ^^^ (x &&& (255 : Int32))))))) &&& (1 : Int32)))])) _
      refine XS.ifYes X0.here hx rfl (pc0 := 44) (pc' := 57) rfl (hb hby own_d_prog_22_method_2_code_44) rfl ((if0 _ _).trans (teq hd64).1) (by decide) (by decide) ?_
      show Steps p.tables e below (T0.setTop (mkF m 57 #[.val (.ref ar), .val (.int (own_bit (own_bit (own_bit (own_bit (crc ^^^ (x &&& (255 : Int32)))))))), .val (.ref ar), .val (.int len), .val (.int i), .val (.int x), .val (.int (4 : Int32))] [])) _
      refine XS.iloadN X0.here hx rfl (hb hby own_d_prog_22_method_2_code_57) rfl ?_
      show Steps p.tables e below (T0.setTop (mkF m 58 #[.val (.ref ar), .val (.int (own_bit (own_bit (own_bit (own_bit (crc ^^^ (x &&& (255 : Int32)))))))), .val (.ref ar), .val (.int len), .val (.int i), .val (.int x), .val (.int (4 : Int32))] [(.int (own_bit (own_bit (own_bit (own_bit (crc ^^^ (x &&& (255 : Int32))))))))])) _
      refine XS.iconst X0.here hx rfl (hb hby own_d_prog_22_method_2_code_58) ?_
      show Steps p.tables e below (T0.setTop (mkF m 59 #[.val (.ref ar), .val (.int (own_bit (own_bit (own_bit (own_bit (crc ^^^ (x &&& (255 : Int32)))))))), .val (.ref ar), .val (.int len), .val (.int i), .val (.int x), .val (.int (4 : Int32))] [(.int (1 : Int32)), (.int (own_bit (own_bit (own_bit (own_bit (crc ^^^ (x &&& (255 : Int32))))))))])) _
      refine XS.iushr X0.here hx rfl (hb hby own_d_prog_22_method_2_code_59) rfl ?_
      show Steps p.tables e below (T0.setTop (mkF m 60 #[.val (.ref ar), .val (.int (own_bit (own_bit (own_bit (own_bit (crc ^^^ (x &&& (255 : Int32)))))))), .val (.ref ar), .val (.int len), .val (.int i), .val (.int x), .val (.int (4 : Int32))] [(.int (((own_bit (own_bit (own_bit (own_bit (crc ^^^ (x &&& (255 : Int32))))))).toUInt32 >>> ((1 : Int32) &&& 31).toUInt32).toInt32))])) _
      refine XS.istoreN X0.here hx rfl (hb hby own_d_prog_22_method_2_code_60) rfl (l' := #[.val (.ref ar), .val (.int (((own_bit (own_bit (own_bit (own_bit (crc ^^^ (x &&& (255 : Int32))))))).toUInt32 >>> ((1 : Int32) &&& 31).toUInt32).toInt32)), .val (.ref ar), .val (.int len), .val (.int i), .val (.int x), .val (.int (4 : Int32))]) rfl ?_
      exact k
    · rw [(show own_bit (own_bit (own_bit (own_bit (own_bit (crc ^^^ (x &&& (255 : Int32))))))) = _ from if_neg hd64)] at k
      show Steps p.tables e below (T0.setTop (mkF m 44 #[.val (.ref ar), .val (.int (own_bit (own_bit (own_bit (own_bit (crc ^^^ (x &&& (255 : Int32)))))))), .val (.ref ar), .val (.int len), .val (.int i), .val (.int x), .val (.int (4 : Int32))] [(.int ((own_bit (own_bit (own_bit (own_bit (crc ^^^ (x &&& (255 : Int32))))))) &&& (1 : Int32)))])) _
      refine XS.ifNo X0.here hx rfl (hb hby own_d_prog_22_method_2_code_44) rfl ((if0 _ _).trans (feq hd64).1) ?_
      show Steps p.tables e below (T0.setTop (mkF m 47 #[.val (.ref ar), .val (.int (own_bit (own_bit (own_bit (own_bit (crc ^^^ (x &&& (255 : Int32)))))))), .val (.ref ar), .val (.int len), .val (.int i), .val (.int x), .val (.int (4 : Int32))] [])) _
      refine XS.iloadN X0.here hx rfl (hb hby own_d_prog_22_method_2_code_47) rfl ?_
      show Steps p.tables e below (T0.setTop (mkF m 48 #[.val (.ref ar), .val (.int (own_bit (own_bit (own_bit (own_bit (crc ^^^ (x &&& (255 : Int32)))))))), .val (.ref ar), .val (.int len), .val (.int i), .val (.int x), .val (.int (4 : Int32))] [(.int (own_bit (own_bit (own_bit (own_bit (crc ^^^ (x &&& (255 : Int32))))))))])) _
      refine XS.iconst X0.here hx rfl (hb hby own_d_prog_22_method_2_code_48) ?_
      show Steps p.tables e below (T0.setTop (mkF m 49 #[.val (.ref ar), .val (.int (own_bit (own_bit (own_bit (own_bit (crc ^^^ (x &&& (255 : Int32)))))))), .val (.ref ar), .val (.int len), .val (.int i), .val (.int x), .val (.int (4 : Int32))] [(.int (1 : Int32)), (.int (own_bit (own_bit (own_bit (own_bit (crc ^^^ (x &&& (255 : Int32))))))))])) _
      refine XS.iushr X0.here hx rfl (hb hby own_d_prog_22_method_2_code_49) rfl ?_
      show Steps p.tables e below (T0.setTop (mkF m 50 #[.val (.ref ar), .val (.int (own_bit (own_bit (own_bit (own_bit (crc ^^^ (x &&& (255 : Int32)))))))), .val (.ref ar), .val (.int len), .val (.int i), .val (.int x), .val (.int (4 : Int32))] [(.int (((own_bit (own_bit (own_bit (own_bit (crc ^^^ (x &&& (255 : Int32))))))).toUInt32 >>> ((1 : Int32) &&& 31).toUInt32).toInt32))])) _
      refine X0.ldcInt hx hown (mvT hZ (hw _ (List.mem_of_getElem? (i := 12) rfl))) (g := (mkF m 50 #[.val (.ref ar), .val (.int (own_bit (own_bit (own_bit (own_bit (crc ^^^ (x &&& (255 : Int32)))))))), .val (.ref ar), .val (.int len), .val (.int i), .val (.int x), .val (.int (4 : Int32))] [(.int (((own_bit (own_bit (own_bit (own_bit (crc ^^^ (x &&& (255 : Int32))))))).toUInt32 >>> ((1 : Int32) &&& 31).toUInt32).toInt32))])) rfl (hb hby own_d_prog_22_method_2_code_50) _ ?_
      show Steps p.tables e below (T0.setTop (mkF m 52 #[.val (.ref ar), .val (.int (own_bit (own_bit (own_bit (own_bit (crc ^^^ (x &&& (255 : Int32)))))))), .val (.ref ar), .val (.int len), .val (.int i), .val (.int x), .val (.int (4 : Int32))] [(.int (40961 : Int32)), (.int (((own_bit (own_bit (own_bit (own_bit (crc ^^^ (x &&& (255 : Int32))))))).toUInt32 >>> ((1 : Int32) &&& 31).toUInt32).toInt32))])) _
      refine XS.ixor X0.here hx rfl (hb hby own_d_prog_22_method_2_code_52) rfl ?_
      show Steps p.tables e below (T0.setTop (mkF m 53 #[.val (.ref ar), .val (.int (own_bit (own_bit (own_bit (own_bit (crc ^^^ (x &&& (255 : Int32)))))))), .val (.ref ar), .val (.int len), .val (.int i), .val (.int x), .val (.int (4 : Int32))] [(.int ((((own_bit (own_bit (own_bit (own_bit (crc ^^^ (x &&& (255 : Int32))))))).toUInt32 >>> ((1 : Int32) &&& 31).toUInt32).toInt32) ^^^ (40961 : Int32)))])) _
      refine XS.istoreN X0.here hx rfl (hb hby own_d_prog_22_method_2_code_53) rfl (l' := #[.val (.ref ar), .val (.int ((((own_bit (own_bit (own_bit (own_bit (crc ^^^ (x &&& (255 : Int32))))))).toUInt32 >>> ((1 : Int32) &&& 31).toUInt32).toInt32) ^^^ (40961 : Int32))), .val (.ref ar), .val (.int len), .val (.int i), .val (.int x), .val (.int (4 : Int32))]) rfl ?_
      show Steps p.tables e below (T0.setTop (mkF m 54 #[.val (.ref ar), .val (.int ((((own_bit (own_bit (own_bit (own_bit (crc ^^^ (x &&& (255 : Int32))))))).toUInt32 >>> ((1 : Int32) &&& 31).toUInt32).toInt32) ^^^ (40961 : Int32))), .val (.ref ar), .val (.int len), .val (.int i), .val (.int x), .val (.int (4 : Int32))] [])) _
      refine XS.goto X0.here hx rfl (pc0 := 54) (pc' := 61) rfl (hb hby own_d_prog_22_method_2_code_54) (by decide) (by decide) ?_
      exact k)
  have pre66 : ∀ t, Steps p.tables e below (T0.setTop (mkF m 44 #[.val (.ref ar), .val (.int (own_bit (own_bit (own_bit (own_bit (own_bit (crc ^^^ (x &&& (255 : Int32))))))))), .val (.ref ar), .val (.int len), .val (.int i), .val (.int x), .val (.int (5 : Int32))] [(.int ((own_bit (own_bit (own_bit (own_bit (own_bit (crc ^^^ (x &&& (255 : Int32)))))))) &&& (1 : Int32)))])) t → Steps p.tables e below (T0.setTop (mkF m 10 #[.val (.ref ar), .val (.int crc), .val (.ref ar), .val (.int len), .val (.int i), .val (.int y5), .val (.int y6)] [])) t := fun t k => pre65 t (by
    show Steps p.tables e below (T0.setTop (mkF m 61 #[.val (.ref ar), .val (.int (own_bit (own_bit (own_bit (own_bit (own_bit (crc ^^^ (x &&& (255 : Int32))))))))), .val (.ref ar), .val (.int len), .val (.int i), .val (.int x), .val (.int (4 : Int32))] [])) _
    refine XS.iinc X0.here hx rfl (hb hby own_d_prog_22_method_2_code_61) rfl (l' := #[.val (.ref ar), .val (.int (own_bit (own_bit (own_bit (own_bit (own_bit (crc ^^^ (x &&& (255 : Int32))))))))), .val (.ref ar), .val (.int len), .val (.int i), .val (.int x), .val (.int (5 : Int32))]) rfl ?_
    show Steps p.tables e below (T0.setTop (mkF m 64 #[.val (.ref ar), .val (.int (own_bit (own_bit (own_bit (own_bit (own_bit (crc ^^^ (x &&& (255 : Int32))))))))), .val (.ref ar), .val (.int len), .val (.int i), .val (.int x), .val (.int (5 : Int32))] [])) _
    refine XS.goto X0.here hx rfl (pc0 := 64) (pc' := 34) rfl (hb hby own_d_prog_22_method_2_code_64) (by decide) (by decide) ?_
    show Steps p.tables e below (T0.setTop (mkF m 34 #[.val (.ref ar), .val (.int (own_bit (own_bit (own_bit (own_bit (own_bit (crc ^^^ (x &&& (255 : Int32))))))))), .val (.ref ar), .val (.int len), .val (.int i), .val (.int x), .val (.int (5 : Int32))] [])) _
    refine XS.iload X0.here hx rfl (hb hby own_d_prog_22_method_2_code_34) rfl ?_
    show Steps p.tables e below (T0.setTop (mkF m 36 #[.val (.ref ar), .val (.int (own_bit (own_bit (own_bit (own_bit (own_bit (crc ^^^ (x &&& (255 : Int32))))))))), .val (.ref ar), .val (.int len), .val (.int i), .val (.int x), .val (.int (5 : Int32))] [(.int (5 : Int32))])) _
    refine XS.bipush X0.here hx rfl (hb hby own_d_prog_22_method_2_code_36) ?_
    show Steps p.tables e below (T0.setTop (mkF m 38 #[.val (.ref ar), .val (.int (own_bit (own_bit (own_bit (own_bit (own_bit (crc ^^^ (x &&& (255 : Int32))))))))), .val (.ref ar), .val (.int len), .val (.int i), .val (.int x), .val (.int (5 : Int32))] [(.int (8 : Int32)), (.int (5 : Int32))])) _
    refine XS.icmpNo X0.here hx rfl (hb hby own_d_prog_22_method_2_code_38) rfl (tlt (by decide : (5 : Int32) < (8 : Int32))).2.1 ?_
    show Steps p.tables e below (T0.setTop (mkF m 41 #[.val (.ref ar), .val (.int (own_bit (own_bit (own_bit (own_bit (own_bit (crc ^^^ (x &&& (255 : Int32))))))))), .val (.ref ar), .val (.int len), .val (.int i), .val (.int x), .val (.int (5 : Int32))] [])) _
    refine XS.iloadN X0.here hx rfl (hb hby own_d_prog_22_method_2_code_41) rfl ?_
    show Steps p.tables e below (T0.setTop (mkF m 42 #[.val (.ref ar), .val (.int (own_bit (own_bit (own_bit (own_bit (own_bit (crc ^^^ (x &&& (255 : Int32))))))))), .val (.ref ar), .val (.int len), .val (.int i), .val (.int x), .val (.int (5 : Int32))] [(.int (own_bit (own_bit (own_bit (own_bit (own_bit (crc ^^^ (x &&& (255 : Int32)))))))))])) _
    refine XS.iconst X0.here hx rfl (hb hby own_d_prog_22_method_2_code_42) ?_
    show Steps p.tables e below (T0.setTop (mkF m 43 #[.val (.ref ar), .val (.int (own_bit (own_bit (own_bit (own_bit (own_bit (crc ^^^ (x &&& (255 : Int32))))))))), .val (.ref ar), .val (.int len), .val (.int i), .val (.int x), .val (.int (5 : Int32))] [(.int (1 : Int32)), (.int (own_bit (own_bit (own_bit (own_bit (own_bit (crc ^^^ (x &&& (255 : Int32)))))))))])) _
    refine XS.iand X0.here hx rfl (hb hby own_d_prog_22_method_2_code_43) rfl ?_
    exact k)
  have pre68 : ∀ t, Steps p.tables e below (T0.setTop (mkF m 61 #[.val (.ref ar), .val (.int (own_bit (own_bit (own_bit (own_bit (own_bit (own_bit (crc ^^^ (x &&& (255 : Int32)))))))))), .val (.ref ar), .val (.int len), .val (.int i), .val (.int x), .val (.int (5 : Int32))] [])) t → Steps p.tables e below (T0.setTop (mkF m 10 #[.val (.ref ar), .val (.int crc), .val (.ref ar), .val (.int len), .val (.int i), .val (.int y5), .val (.int y6)] [])) t := fun t k => pre66 t (by
    by_cases hd67 : ((own_bit (own_bit (own_bit (own_bit (own_bit (crc ^^^ (x &&& (255 : Int32)))))))) &&& (1 : Int32)) = (0 : Int32)
    · rw [(show own_bit (own_bit (own_bit (own_bit (own_bit (own_bit (crc ^^^ (x &&& (255 : Int32)))))))) = _ from if_pos hd67)] at k
      show Steps p.tables e below (T0.setTop (mkF m 44 #[.val (.ref ar), .val (.int (own_bit (own_bit (own_bit (own_bit (own_bit (crc ^^^ (x &&& (255 : Int32))))))))), .val (.ref ar), .val (.int len), .val (.int i), .val (.int x), .val (.int (5 : Int32))] [(.int ((own_bit (own_bit (own_bit (own_bit (own_bit (crc ^^^ (x &&& (255 : Int32)))))))) &&& (1 : Int32)))])) _
      refine XS.ifYes X0.here hx rfl (pc0 := 44) (pc' := 57) rfl (hb hby own_d_prog_22_method_2_code_44) rfl ((if0 _ _).trans (teq hd67).1) (by decide) (by decide) ?_
      show Steps p.tables e below (T0.setTop (mkF m 57 #[.val (.ref ar), .val (.int (own_bit (own_bit (own_bit (own_bit (own_bit (crc ^^^ (x &&& (255 : Int32))))))))), .val (.ref ar), .val (.int len), .val (.int i), .val (.int x), .val (.int (5 : Int32))] [])) _
      refine XS.iloadN X0.here hx rfl (hb hby own_d_prog_22_method_2_code_57) rfl ?_
      show Steps p.tables e below (T0.setTop (mkF m 58 #[.val (.ref ar), .val (.int (own_bit (own_bit (own_bit (own_bit (own_bit (crc ^^^ (x &&& (255 : Int32))))))))), .val (.ref ar), .val (.int len), .val (.int i), .val (.int x), .val (.int (5 : Int32))] [(.int (own_bit (own_bit (own_bit (own_bit (own_bit (crc ^^^ (x &&& (255 : Int32)))))))))])) _
      refine XS.iconst X0.here hx rfl (hb hby own_d_prog_22_method_2_code_58) ?_
      show Steps p.tables e below (T0.setTop (mkF m 59 #[.val (.ref ar), .val (.int (own_bit (own_bit (own_bit (own_bit (own_bit (crc ^^^ (x &&& (255 : Int32))))))))), .val (.ref ar), .val (.int len), .val (.int i), .val (.int x), .val (.int (5 : Int32))] [(.int (1 : Int32)), (.int (own_bit (own_bit (own_bit (own_bit (own_bit (crc ^^^ (x &&& (255 : Int32)))))))))])) _
      refine XS.iushr X0.here hx rfl (hb hby own_d_prog_22_method_2_code_59) rfl ?_
      show Steps p.tables e below (T0.setTop (mkF m 60 #[.val (.ref ar), .val (.int (own_bit (own_bit (own_bit (own_bit (own_bit (crc ^^^ (x &&& (255 : Int32))))))))), .val (.ref ar), .val (.int len), .val (.int i), .val (.int x), .val (.int (5 : Int32))] [(.int (((own_bit (own_bit (own_bit (own_bit (own_bit (crc ^^^ (x &&& (255 : Int32)))))))).toUInt32 >>> ((1 : Int32) &&& 31).toUInt32).toInt32))])) _
      refine XS.istoreN X0.here hx rfl (hb hby own_d_prog_22_method_2_code_60) rfl (l' := #[.val (.ref ar), .val (.int (((own_bit (own_bit (own_bit (own_bit (own_bit (crc ^^^ (x &&& (255 : Int32)))))))).toUInt32 >>> ((1 : Int32) &&& 31).toUInt32).toInt32)), .val (.ref ar), .val (.int len), .val (.int i), .val (.int x), .val (.int (5 : Int32))]) rfl ?_
      exact k
    · rw [(show own_bit (own_bit (own_bit (own_bit (own_bit (own_bit (crc ^^^ (x &&& (255 : Int32)))))))) = _ from if_neg hd67)] at k
      show Steps p.tables e below (T0.setTop (mkF m 44 #[.val (.ref ar), .val (.int (own_bit (own_bit (own_bit (own_bit (own_bit (crc ^^^ (x &&& (255 : Int32))))))))), .val (.ref ar), .val (.int len), .val (.int i), .val (.int x), .val (.int (5 : Int32))] [(.int ((own_bit (own_bit (own_bit (own_bit (own_bit (crc ^^^ (x &&& (255 : Int32)))))))) &&& (1 : Int32)))])) _
      refine XS.ifNo X0.here hx rfl (hb hby own_d_prog_22_method_2_code_44) rfl ((if0 _ _).trans (feq hd67).1) ?_
      show Steps p.tables e below (T0.setTop (mkF m 47 #[.val (.ref ar), .val (.int (own_bit (own_bit (own_bit (own_bit (own_bit (crc ^^^ (x &&& (255 : Int32))))))))), .val (.ref ar), .val (.int len), .val (.int i), .val (.int x), .val (.int (5 : Int32))] [])) _
      refine XS.iloadN X0.here hx rfl (hb hby own_d_prog_22_method_2_code_47) rfl ?_
      show Steps p.tables e below (T0.setTop (mkF m 48 #[.val (.ref ar), .val (.int (own_bit (own_bit (own_bit (own_bit (own_bit (crc ^^^ (x &&& (255 : Int32))))))))), .val (.ref ar), .val (.int len), .val (.int i), .val (.int x), .val (.int (5 : Int32))] [(.int (own_bit (own_bit (own_bit (own_bit (own_bit (crc ^^^ (x &&& (255 : Int32)))))))))])) _
      refine XS.iconst X0.here hx rfl (hb hby own_d_prog_22_method_2_code_48) ?_
      show Steps p.tables e below (T0.setTop (mkF m 49 #[.val (.ref ar), .val (.int (own_bit (own_bit (own_bit (own_bit (own_bit (crc ^^^ (x &&& (255 : Int32))))))))), .val (.ref ar), .val (.int len), .val (.int i), .val (.int x), .val (.int (5 : Int32))] [(.int (1 : Int32)), (.int (own_bit (own_bit (own_bit (own_bit (own_bit (crc ^^^ (x &&& (255 : Int32)))))))))])) _
      refine XS.iushr X0.here hx rfl (hb hby own_d_prog_22_method_2_code_49) rfl ?_
      show Steps p.tables e below (T0.setTop (mkF m 50 #[.val (.ref ar), .val (.int (own_bit (own_bit (own_bit (own_bit (own_bit (crc ^^^ (x &&& (255 : Int32))))))))), .val (.ref ar), .val (.int len), .val (.int i), .val (.int x), .val (.int (5 : Int32))] [(.int (((own_bit (own_bit (own_bit (own_bit (own_bit (crc ^^^ (x &&& (255 : Int32)))))))).toUInt32 >>> ((1 : Int32) &&& 31).toUInt32).toInt32))])) _
      refine X0.ldcInt hx hown (mvT hZ (hw _ (List.mem_of_getElem? (i := 12) rfl))) (g := (mkF m 50 #[.val (.ref ar), .val (.int (own_bit (own_bit (own_bit (own_bit (own_bit (crc ^^^ (x &&& (255 : Int32))))))))), .val (.ref ar), .val (.int len), .val (.int i), .val (.int x), .val (.int (5 : Int32))] [(.int (((own_bit (own_bit (own_bit (own_bit (own_bit (crc ^^^ (x &&& (255 : Int32)))))))).toUInt32 >>> ((1 : Int32) &&& 31).toUInt32).toInt32))])) rfl (hb hby own_d_prog_22_method_2_code_50) _ ?_
      show Steps p.tables e below (T0.setTop (mkF m 52 #[.val (.ref ar), .val (.int (own_bit (own_bit (own_bit (own_bit (own_bit (crc ^^^ (x &&& (255 : Int32))))))))), .val (.ref ar), .val (.int len), .val (.int i), .val (.int x), .val (.int (5 : Int32))] [(.int (40961 : Int32)), (.int (((own_bit (own_bit (own_bit (own_bit (own_bit (crc ^^^ (x &&& (255 : Int32)))))))).toUInt32 >>> ((1 : Int32) &&& 31).toUInt32).toInt32))])) _
      refine XS.ixor X0.here hx rfl (hb hby own_d_prog_22_method_2_code_52) rfl ?_
      show Steps p.tables e below (T0.setTop (mkF m 53 #[.val (.ref ar), .val (.int (own_bit (own_bit (own_bit (own_bit (own_bit (crc ^^^ (x &&& (255 : Int32))))))))), .val (.ref ar), .val (.int len), .val (.int i), .val (.int x), .val (.int (5 : Int32))] [(.int ((((own_bit (own_bit (own_bit (own_bit (own_bit (crc ^^^ (x &&& (255 : Int32)))))))).toUInt32 >>> ((1 : Int32) &&& 31).toUInt32).toInt32) ^^^ (40961 : Int32)))])) _
      refine XS.istoreN X0.here hx rfl (hb hby own_d_prog_22_method_2_code_53) rfl (l' := #[.val (.ref ar), .val (.int ((((own_bit (own_bit (own_bit (own_bit (own_bit (crc ^^^ (x &&& (255 : Int32)))))))).toUInt32 >>> ((1 : Int32) &&& 31).toUInt32).toInt32) ^^^ (40961 : Int32))), .val (.ref ar), .val (.int len), .val (.int i), .val (.int x), .val (.int (5 : Int32))]) rfl ?_
      show Steps p.tables e below (T0.setTop (mkF m 54 #[.val (.ref ar), .val (.int ((((own_bit (own_bit (own_bit (own_bit (own_bit (crc ^^^ (x &&& (255 : Int32)))))))).toUInt32 >>> ((1 : Int32) &&& 31).toUInt32).toInt32) ^^^ (40961 : Int32))), .val (.ref ar), .val (.int len), .val (.int i), .val (.int x), .val (.int (5 : Int32))] [])) _
      refine XS.goto X0.here hx rfl (pc0 := 54) (pc' := 61) rfl (hb hby own_d_prog_22_method_2_code_54) (by decide) (by decide) ?_
      exact k)
  have pre69 : ∀ t, Steps p.tables e below (T0.setTop (mkF m 44 #[.val (.ref ar), .val (.int (own_bit (own_bit (own_bit (own_bit (own_bit (own_bit (crc ^^^ (x &&& (255 : Int32)))))))))), .val (.ref ar), .val (.int len), .val (.int i), .val (.int x), .val (.int (6 : Int32))] [(.int ((own_bit (own_bit (own_bit (own_bit (own_bit (own_bit (crc ^^^ (x &&& (255 : Int32))))))))) &&& (1 : Int32)))])) t → Steps p.tables e below (T0.setTop (mkF m 10 #[.val (.ref ar), .val (.int crc), .val (.ref ar), .val (.int len), .val (.int i), .val (.int y5), .val (.int y6)] [])) t := fun t k => pre68 t (by
    show Steps p.tables e below (T0.setTop (mkF m 61 #[.val (.ref ar), .val (.int (own_bit (own_bit (own_bit (own_bit (own_bit (own_bit (crc ^^^ (x &&& (255 : Int32)))))))))), .val (.ref ar), .val (.int len), .val (.int i), .val (.int x), .val (.int (5 : Int32))] [])) _
    refine XS.iinc X0.here hx rfl (hb hby own_d_prog_22_method_2_code_61) rfl (l' := #[.val (.ref ar), .val (.int (own_bit (own_bit (own_bit (own_bit (own_bit (own_bit (crc ^^^ (x &&& (255 : Int32)))))))))), .val (.ref ar), .val (.int len), .val (.int i), .val (.int x), .val (.int (6 : Int32))]) rfl ?_
    show Steps p.tables e below (T0.setTop (mkF m 64 #[.val (.ref ar), .val (.int (own_bit (own_bit (own_bit (own_bit (own_bit (own_bit (crc ^^^ (x &&& (255 : Int32)))))))))), .val (.ref ar), .val (.int len), .val (.int i), .val (.int x), .val (.int (6 : Int32))] [])) _
    refine XS.goto X0.here hx rfl (pc0 := 64) (pc' := 34) rfl (hb hby own_d_prog_22_method_2_code_64) (by decide) (by decide) ?_
    show Steps p.tables e below (T0.setTop (mkF m 34 #[.val (.ref ar), .val (.int (own_bit (own_bit (own_bit (own_bit (own_bit (own_bit (crc ^^^ (x &&& (255 : Int32)))))))))), .val (.ref ar), .val (.int len), .val (.int i), .val (.int x), .val (.int (6 : Int32))] [])) _
    refine XS.iload X0.here hx rfl (hb hby own_d_prog_22_method_2_code_34) rfl ?_
    show Steps p.tables e below (T0.setTop (mkF m 36 #[.val (.ref ar), .val (.int (own_bit (own_bit (own_bit (own_bit (own_bit (own_bit (crc ^^^ (x &&& (255 : Int32)))))))))), .val (.ref ar), .val (.int len), .val (.int i), .val (.int x), .val (.int (6 : Int32))] [(.int (6 : Int32))])) _
    refine XS.bipush X0.here hx rfl (hb hby own_d_prog_22_method_2_code_36) ?_
    show Steps p.tables e below (T0.setTop (mkF m 38 #[.val (.ref ar), .val (.int (own_bit (own_bit (own_bit (own_bit (own_bit (own_bit (crc ^^^ (x &&& (255 : Int32)))))))))), .val (.ref ar), .val (.int len), .val (.int i), .val (.int x), .val (.int (6 : Int32))] [(.int (8 : Int32)), (.int (6 : Int32))])) _
    refine XS.icmpNo X0.here hx rfl (hb hby own_d_prog_22_method_2_code_38) rfl (tlt (by decide : (6 : Int32) < (8 : Int32))).2.1 ?_
    show Steps p.tables e below (T0.setTop (mkF m 41 #[.val (.ref ar), .val (.int (own_bit (own_bit (own_bit (own_bit (own_bit (own_bit (crc ^^^ (x &&& (255 : Int32)))))))))), .val (.ref ar), .val (.int len), .val (.int i), .val (.int x), .val (.int (6 : Int32))] [])) _
    refine XS.iloadN X0.here hx rfl (hb hby own_d_prog_22_method_2_code_41) rfl ?_
    show Steps p.tables e below (T0.setTop (mkF m 42 #[.val (.ref ar), .val (.int (own_bit (own_bit (own_bit (own_bit (own_bit (own_bit (crc ^^^ (x &&& (255 : Int32)))))))))), .val (.ref ar), .val (.int len), .val (.int i), .val (.int x), .val (.int (6 : Int32))] [(.int (own_bit (own_bit (own_bit (own_bit (own_bit (own_bit (crc ^^^ (x &&& (255 : Int32))))))))))])) _
    refine XS.iconst X0.here hx rfl (hb hby own_d_prog_22_method_2_code_42) ?_
    show Steps p.tables e below (T0.setTop (mkF m 43 #[.val (.ref ar), .val (.int (own_bit (own_bit (own_bit (own_bit (own_bit (own_bit (crc ^^^ (x &&& (255 : Int32)))))))))), .val (.ref ar), .val (.int len), .val (.int i), .val (.int x), .val (.int (6 : Int32))] [(.int (1 : Int32)), (.int (own_bit (own_bit (own_bit (own_bit (own_bit (own_bit (crc ^^^ (x &&& (255 : Int32))))))))))])) _
    refine XS.iand X0.here hx rfl (hb hby own_d_prog_22_method_2_code_43) rfl ?_
    exact k)
  have pre71 : ∀ t, Steps p.tables e below (T0.setTop (mkF m 61 #[.val (.ref ar), .val (.int (own_bit (own_bit (own_bit (own_bit (own_bit (own_bit (own_bit (crc ^^^ (x &&& (255 : Int32))))))))))), .val (.ref ar), .val (.int len), .val (.int i), .val (.int x), .val (.int (6 : Int32))] [])) t → Steps p.tables e below (T0.setTop (mkF m 10 #[.val (.ref ar), .val (.int crc), .val (.ref ar), .val (.int len), .val (.int i), .val (.int y5), .val (.int y6)] [])) t := fun t k => pre69 t (by
    by_cases hd70 : ((own_bit (own_bit (own_bit (own_bit (own_bit (own_bit (crc ^^^ (x &&& (255 : Int32))))))))) &&& (1 : Int32)) = (0 : Int32)
    · rw [(show own_bit (own_bit (own_bit (own_bit (own_bit (own_bit (own_bit (crc ^^^ (x &&& (255 : Int32))))))))) = _ from if_pos hd70)] at k
      show Steps p.tables e below (T0.setTop (mkF m 44 #[.val (.ref ar), .val (.int (own_bit (own_bit (own_bit (own_bit (own_bit (own_bit (crc ^^^ (x &&& (255 : Int32)))))))))), .val (.ref ar), .val (.int len), .val (.int i), .val (.int x), .val (.int (6 : Int32))] [(.int ((own_bit (own_bit (own_bit (own_bit (own_bit (own_bit (crc ^^^ (x &&& (255 : Int32))))))))) &&& (1 : Int32)))])) _
      refine XS.ifYes X0.here hx rfl (pc0 := 44) (pc' := 57) rfl (hb hby own_d_prog_22_method_2_code_44) rfl ((if0 _ _).trans (teq hd70).1) (by decide) (by decide) ?_
      show Steps p.tables e below (T0.setTop (mkF m 57 #[.val (.ref ar), .val (.int (own_bit (own_bit (own_bit (own_bit (own_bit (own_bit (crc ^^^ (x &&& (255 : Int32)))))))))), .val (.ref ar), .val (.int len), .val (.int i), .val (.int x), .val (.int (6 : Int32))] [])) _
      refine XS.iloadN X0.here hx rfl (hb hby own_d_prog_22_method_2_code_57) rfl ?_
      show Steps p.tables e below (T0.setTop (mkF m 58 #[.val (.ref ar), .val (.int (own_bit (own_bit (own_bit (own_bit (own_bit (own_bit (crc ^^^ (x &&& (255 : Int32)))))))))), .val (.ref ar), .val (.int len), .val (.int i), .val (.int x), .val (.int (6 : Int32))] [(.int (own_bit (own_bit (own_bit (own_bit (own_bit (own_bit (crc ^^^ (x &&& (255 : Int32))))))))))])) _
      refine XS.iconst X0.here hx rfl (hb hby own_d_prog_22_method_2_code_58) ?_
      show Steps p.tables e below (T0.setTop (mkF m 59 #[.val (.ref ar), .val (.int (own_bit (own_bit (own_bit (own_bit (own_bit (own_bit (crc ^^^ (x &&& (255 : Int32)))))))))), .val (.ref ar), .val (.int len), .val (.int i), .val (.int x), .val (.int (6 : Int32))] [(.int (1 : Int32)), (.int (own_bit (own_bit (own_bit (own_bit (own_bit (own_bit (crc ^^^ (x &&& (255 : Int32))))))))))])) _
      refine XS.iushr X0.here hx rfl (hb hby own_d_prog_22_method_2_code_59) rfl ?_
      show Steps p.tables e below (T0.setTop (mkF m 60 #[.val (.ref ar), .val (.int (own_bit (own_bit (own_bit (own_bit (own_bit (own_bit (crc ^^^ (x &&& (255 : Int32)))))))))), .val (.ref ar), .val (.int len), .val (.int i), .val (.int x), .val (.int (6 : Int32))] [(.int (((own_bit (own_bit (own_bit (own_bit (own_bit (own_bit (crc ^^^ (x &&& (255 : Int32))))))))).toUInt32 >>> ((1 : Int32) &&& 31).toUInt32).toInt32))])) _
      refine XS.istoreN X0.here hx rfl (hb hby own_d_prog_22_method_2_code_60) rfl (l' := #[.val (.ref ar), .val (.int (((own_bit (own_bit (own_bit (own_bit (own_bit (own_bit (crc ^^^ (x &&& (255 : Int32))))))))).toUInt32 >>> ((1 : Int32) &&& 31).toUInt32).toInt32)), .val (.ref ar), .val (.int len), .val (.int i), .val (.int x), .val (.int (6 : Int32))]) rfl ?_
      exact k
    · rw [(show own_bit (own_bit (own_bit (own_bit (own_bit (own_bit (own_bit (crc ^^^ (x &&& (255 : Int32))))))))) = _ from if_neg hd70)] at k
      show Steps p.tables e below (T0.setTop (mkF m 44 #[.val (.ref ar), .val (.int (own_bit (own_bit (own_bit (own_bit (own_bit (own_bit (crc ^^^ (x &&& (255 : Int32)))))))))), .val (.ref ar), .val (.int len), .val (.int i), .val (.int x), .val (.int (6 : Int32))] [(.int ((own_bit (own_bit (own_bit (own_bit (own_bit (own_bit (crc ^^^ (x &&& (255 : Int32))))))))) &&& (1 : Int32)))])) _
      refine XS.ifNo X0.here hx rfl (hb hby own_d_prog_22_method_2_code_44) rfl ((if0 _ _).trans (feq hd70).1) ?_
      show Steps p.tables e below (T0.setTop (mkF m 47 #[.val (.ref ar), .val (.int (own_bit (own_bit (own_bit (own_bit (own_bit (own_bit (crc ^^^ (x &&& (255 : Int32)))))))))), .val (.ref ar), .val (.int len), .val (.int i), .val (.int x), .val (.int (6 : Int32))] [])) _
      refine XS.iloadN X0.here hx rfl (hb hby own_d_prog_22_method_2_code_47) rfl ?_
      show Steps p.tables e below (T0.setTop (mkF m 48 #[.val (.ref ar), .val (.int (own_bit (own_bit (own_bit (own_bit (own_bit (own_bit (crc ^^^ (x &&& (255 : Int32)))))))))), .val (.ref ar), .val (.int len), .val (.int i), .val (.int x), .val (.int (6 : Int32))] [(.int (own_bit (own_bit (own_bit (own_bit (own_bit (own_bit (crc ^^^ (x &&& (255 : Int32))))))))))])) _
      refine XS.iconst X0.here hx rfl (hb hby own_d_prog_22_method_2_code_48) ?_
      show Steps p.tables e below (T0.setTop (mkF m 49 #[.val (.ref ar), .val (.int (own_bit (own_bit (own_bit (own_bit (own_bit (own_bit (crc ^^^ (x &&& (255 : Int32)))))))))), .val (.ref ar), .val (.int len), .val (.int i), .val (.int x), .val (.int (6 : Int32))] [(.int (1 : Int32)), (.int (own_bit (own_bit (own_bit (own_bit (own_bit (own_bit (crc ^^^ (x &&& (255 : Int32))))))))))])) _
      refine XS.iushr X0.here hx rfl (hb hby own_d_prog_22_method_2_code_49) rfl ?_
      show Steps p.tables e below (T0.setTop (mkF m 50 #[.val (.ref ar), .val (.int (own_bit (own_bit (own_bit (own_bit (own_bit (own_bit (crc ^^^ (x &&& (255 : Int32)))))))))), .val (.ref ar), .val (.int len), .val (.int i), .val (.int x), .val (.int (6 : Int32))] [(.int (((own_bit (own_bit (own_bit (own_bit (own_bit (own_bit (crc ^^^ (x &&& (255 : Int32))))))))).toUInt32 >>> ((1 : Int32) &&& 31).toUInt32).toInt32))])) _
      refine X0.ldcInt hx hown (mvT hZ (hw _ (List.mem_of_getElem? (i := 12) rfl))) (g := (mkF m 50 #[.val (.ref ar), .val (.int (own_bit (own_bit (own_bit (own_bit (own_bit (own_bit (crc ^^^ (x &&& (255 : Int32)))))))))), .val (.ref ar), .val (.int len), .val (.int i), .val (.int x), .val (.int (6 : Int32))] [(.int (((own_bit (own_bit (own_bit (own_bit (own_bit (own_bit (crc ^^^ (x &&& (255 : Int32))))))))).toUInt32 >>> ((1 : Int32) &&& 31).toUInt32).toInt32))])) rfl (hb hby own_d_prog_22_method_2_code_50) _ ?_
      show Steps p.tables e below (T0.setTop (mkF m 52 #[.val (.ref ar), .val (.int (own_bit (own_bit (own_bit (own_bit (own_bit (own_bit (crc ^^^ (x &&& (255 : Int32)))))))))), .val (.ref ar), .val (.int len), .val (.int i), .val (.int x), .val (.int (6 : Int32))] [(.int (40961 : Int32)), (.int (((own_bit (own_bit (own_bit (own_bit (own_bit (own_bit (crc ^^^ (x &&& (255 : Int32))))))))).toUInt32 >>> ((1 : Int32) &&& 31).toUInt32).toInt32))])) _
      refine XS.ixor X0.here hx rfl (hb hby own_d_prog_22_method_2_code_52) rfl ?_
      show Steps p.tables e below (T0.setTop (mkF m 53 #[.val (.ref ar), .val (.int (own_bit (own_bit (own_bit (own_bit (own_bit (own_bit (crc ^^^ (x &&& (255 : Int32)))))))))), .val (.ref ar), .val (.int len), .val (.int i), .val (.int x), .val (.int (6 : Int32))] [(.int ((((own_bit (own_bit (own_bit (own_bit (own_bit (own_bit (crc ^^^ (x &&& (255 : Int32))))))))).toUInt32 >>> ((1 : Int32) &&& 31).toUInt32).toInt32) ^^^ (40961 : Int32)))])) _
      refine XS.istoreN X0.here hx rfl (hb hby own_d_prog_22_method_2_code_53) rfl (l' := #[.val (.ref ar), .val (.int ((((own_bit (own_bit (own_bit (own_bit (own_bit (own_bit (crc ^^^ (x &&& (255 : Int32))))))))).toUInt32 >>> ((1 : Int32) &&& 31).toUInt32).toInt32) ^^^ (40961 : Int32))), .val (.ref ar), .val (.int len), .val (.int i), .val (.int x), .val (.int (6 : Int32))]) rfl ?_
      show Steps p.tables e below (T0.setTop (mkF m 54 #[.val (.ref ar), .val (.int ((((own_bit (own_bit (own_bit (own_bit (own_bit (own_bit (crc ^^^ (x &&& (255 : Int32))))))))).toUInt32 >>> ((1 : Int32) &&& 31).toUInt32).toInt32) ^^^ (40961 : Int32))), .val (.ref ar), .val (.int len), .val (.int i), .val (.int x), .val (.int (6 : Int32))] [])) _
      refine XS.goto X0.here hx rfl (pc0 := 54) (pc' := 61) rfl (hb hby own_d_prog_22_method_2_code_54) (by decide) (by decide) ?_
      exact k)
  have pre72 : ∀ t, Steps p.tables e below (T0.setTop (mkF m 44 #[.val (.ref ar), .val (.int (own_bit (own_bit (own_bit (own_bit (own_bit (own_bit (own_bit (crc ^^^ (x &&& (255 : Int32))))))))))), .val (.ref ar), .val (.int len), .val (.int i), .val (.int x), .val (.int (7 : Int32))] [(.int ((own_bit (own_bit (own_bit (own_bit (own_bit (own_bit (own_bit (crc ^^^ (x &&& (255 : Int32)))))))))) &&& (1 : Int32)))])) t → Steps p.tables e below (T0.setTop (mkF m 10 #[.val (.ref ar), .val (.int crc), .val (.ref ar), .val (.int len), .val (.int i), .val (.int y5), .val (.int y6)] [])) t := fun t k => pre71 t (by
    show Steps p.tables e below (T0.setTop (mkF m 61 #[.val (.ref ar), .val (.int (own_bit (own_bit (own_bit (own_bit (own_bit (own_bit (own_bit (crc ^^^ (x &&& (255 : Int32))))))))))), .val (.ref ar), .val (.int len), .val (.int i), .val (.int x), .val (.int (6 : Int32))] [])) _
    refine XS.iinc X0.here hx rfl (hb hby own_d_prog_22_method_2_code_61) rfl (l' := #[.val (.ref ar), .val (.int (own_bit (own_bit (own_bit (own_bit (own_bit (own_bit (own_bit (crc ^^^ (x &&& (255 : Int32))))))))))), .val (.ref ar), .val (.int len), .val (.int i), .val (.int x), .val (.int (7 : Int32))]) rfl ?_
    show Steps p.tables e below (T0.setTop (mkF m 64 #[.val (.ref ar), .val (.int (own_bit (own_bit (own_bit (own_bit (own_bit (own_bit (own_bit (crc ^^^ (x &&& (255 : Int32))))))))))), .val (.ref ar), .val (.int len), .val (.int i), .val (.int x), .val (.int (7 : Int32))] [])) _
    refine XS.goto X0.here hx rfl (pc0 := 64) (pc' := 34) rfl (hb hby own_d_prog_22_method_2_code_64) (by decide) (by decide) ?_
    show Steps p.tables e below (T0.setTop (mkF m 34 #[.val (.ref ar), .val (.int (own_bit (own_bit (own_bit (own_bit (own_bit (own_bit (own_bit (crc ^^^ (x &&& (255 : Int32))))))))))), .val (.ref ar), .val (.int len), .val (.int i), .val (.int x), .val (.int (7 : Int32))] [])) _
    refine XS.iload X0.here hx rfl (hb hby own_d_prog_22_method_2_code_34) rfl ?_
    show Steps p.tables e below (T0.setTop (mkF m 36 #[.val (.ref ar), .val (.int (own_bit (own_bit (own_bit (own_bit (own_bit (own_bit (own_bit (crc ^^^ (x &&& (255 : Int32))))))))))), .val (.ref ar), .val (.int len), .val (.int i), .val (.int x), .val (.int (7 : Int32))] [(.int (7 : Int32))])) _
    refine XS.bipush X0.here hx rfl (hb hby own_d_prog_22_method_2_code_36) ?_
    show Steps p.tables e below (T0.setTop (mkF m 38 #[.val (.ref ar), .val (.int (own_bit (own_bit (own_bit (own_bit (own_bit (own_bit (own_bit (crc ^^^ (x &&& (255 : Int32))))))))))), .val (.ref ar), .val (.int len), .val (.int i), .val (.int x), .val (.int (7 : Int32))] [(.int (8 : Int32)), (.int (7 : Int32))])) _
    refine XS.icmpNo X0.here hx rfl (hb hby own_d_prog_22_method_2_code_38) rfl (tlt (by decide : (7 : Int32) < (8 : Int32))).2.1 ?_
    show Steps p.tables e below (T0.setTop (mkF m 41 #[.val (.ref ar), .val (.int (own_bit (own_bit (own_bit (own_bit (own_bit (own_bit (own_bit (crc ^^^ (x &&& (255 : Int32))))))))))), .val (.ref ar), .val (.int len), .val (.int i), .val (.int x), .val (.int (7 : Int32))] [])) _
    refine XS.iloadN X0.here hx rfl (hb hby own_d_prog_22_method_2_code_41) rfl ?_
    show Steps p.tables e below (T0.setTop (mkF m 42 #[.val (.ref ar), .val (.int (own_bit (own_bit (own_bit (own_bit (own_bit (own_bit (own_bit (crc ^^^ (x &&& (255 : Int32))))))))))), .val (.ref ar), .val (.int len), .val (.int i), .val (.int x), .val (.int (7 : Int32))] [(.int (own_bit (own_bit (own_bit (own_bit (own_bit (own_bit (own_bit (crc ^^^ (x &&& (255 : Int32)))))))))))])) _
    refine XS.iconst X0.here hx rfl (hb hby own_d_prog_22_method_2_code_42) ?_
    show Steps p.tables e below (T0.setTop (mkF m 43 #[.val (.ref ar), .val (.int (own_bit (own_bit (own_bit (own_bit (own_bit (own_bit (own_bit (crc ^^^ (x &&& (255 : Int32))))))))))), .val (.ref ar), .val (.int len), .val (.int i), .val (.int x), .val (.int (7 : Int32))] [(.int (1 : Int32)), (.int (own_bit (own_bit (own_bit (own_bit (own_bit (own_bit (own_bit (crc ^^^ (x &&& (255 : Int32)))))))))))])) _
    refine XS.iand X0.here hx rfl (hb hby own_d_prog_22_method_2_code_43) rfl ?_
    exact k)
  have pre74 : ∀ t, Steps p.tables e below (T0.setTop (mkF m 61 #[.val (.ref ar), .val (.int (own_bit (own_bit (own_bit (own_bit (own_bit (own_bit (own_bit (own_bit (crc ^^^ (x &&& (255 : Int32)))))))))))), .val (.ref ar), .val (.int len), .val (.int i), .val (.int x), .val (.int (7 : Int32))] [])) t → Steps p.tables e below (T0.setTop (mkF m 10 #[.val (.ref ar), .val (.int crc), .val (.ref ar), .val (.int len), .val (.int i), .val (.int y5), .val (.int y6)] [])) t := fun t k => pre72 t (by
    by_cases hd73 : ((own_bit (own_bit (own_bit (own_bit (own_bit (own_bit (own_bit (crc ^^^ (x &&& (255 : Int32)))))))))) &&& (1 : Int32)) = (0 : Int32)
    · rw [(show own_bit (own_bit (own_bit (own_bit (own_bit (own_bit (own_bit (own_bit (crc ^^^ (x &&& (255 : Int32)))))))))) = _ from if_pos hd73)] at k
      show Steps p.tables e below (T0.setTop (mkF m 44 #[.val (.ref ar), .val (.int (own_bit (own_bit (own_bit (own_bit (own_bit (own_bit (own_bit (crc ^^^ (x &&& (255 : Int32))))))))))), .val (.ref ar), .val (.int len), .val (.int i), .val (.int x), .val (.int (7 : Int32))] [(.int ((own_bit (own_bit (own_bit (own_bit (own_bit (own_bit (own_bit (crc ^^^ (x &&& (255 : Int32)))))))))) &&& (1 : Int32)))])) _
      refine XS.ifYes X0.here hx rfl (pc0 := 44) (pc' := 57) rfl (hb hby own_d_prog_22_method_2_code_44) rfl ((if0 _ _).trans (teq hd73).1) (by decide) (by decide) ?_
      show Steps p.tables e below (T0.setTop (mkF m 57 #[.val (.ref ar), .val (.int (own_bit (own_bit (own_bit (own_bit (own_bit (own_bit (own_bit (crc ^^^ (x &&& (255 : Int32))))))))))), .val (.ref ar), .val (.int len), .val (.int i), .val (.int x), .val (.int (7 : Int32))] [])) _
      refine XS.iloadN X0.here hx rfl (hb hby own_d_prog_22_method_2_code_57) rfl ?_
      show Steps p.tables e below (T0.setTop (mkF m 58 #[.val (.ref ar), .val (.int (own_bit (own_bit (own_bit (own_bit (own_bit (own_bit (own_bit (crc ^^^ (x &&& (255 : Int32))))))))))), .val (.ref ar), .val (.int len), .val (.int i), .val (.int x), .val (.int (7 : Int32))] [(.int (own_bit (own_bit (own_bit (own_bit (own_bit (own_bit (own_bit (crc ^^^ (x &&& (255 : Int32)))))))))))])) _
      refine XS.iconst X0.here hx rfl (hb hby own_d_prog_22_method_2_code_58) ?_
      show Steps p.tables e below (T0.setTop (mkF m 59 #[.val (.ref ar), .val (.int (own_bit (own_bit (own_bit (own_bit (own_bit (own_bit (own_bit (crc ^^^ (x &&& (255 : Int32))))))))))), .val (.ref ar), .val (.int len), .val (.int i), .val (.int x), .val (.int (7 : Int32))] [(.int (1 : Int32)), (.int (own_bit (own_bit (own_bit (own_bit (own_bit (own_bit (own_bit (crc ^^^ (x &&& (255 : Int32)))))))))))])) _
      refine XS.iushr X0.here hx rfl (hb hby own_d_prog_22_method_2_code_59) rfl ?_
      show Steps p.tables e below (T0.setTop (mkF m 60 #[.val (.ref ar), .val (.int (own_bit (own_bit (own_bit (own_bit (own_bit (own_bit (own_bit (crc ^^^ (x &&& (255 : Int32))))))))))), .val (.ref ar), .val (.int len), .val (.int i), .val (.int x), .val (.int (7 : Int32))] [(.int (((own_bit (own_bit (own_bit (own_bit (own_bit (own_bit (own_bit (crc ^^^ (x &&& (255 : Int32)))))))))).toUInt32 >>> ((1 : Int32) &&& 31).toUInt32).toInt32))])) _
      refine XS.istoreN X0.here hx rfl (hb hby own_d_prog_22_method_2_code_60) rfl (l' := #[.val (.ref ar), .val (.int (((own_bit (own_bit (own_bit (own_bit (own_bit (own_bit (own_bit (crc ^^^ (x &&& (255 : Int32)))))))))).toUInt32 >>> ((1 : Int32) &&& 31).toUInt32).toInt32)), .val (.ref ar), .val (.int len), .val (.int i), .val (.int x), .val (.int (7 : Int32))]) rfl ?_
      exact k
    · rw [(show own_bit (own_bit (own_bit (own_bit (own_bit (own_bit (own_bit (own_bit (crc ^^^ (x &&& (255 : Int32)))))))))) = _ from if_neg hd73)] at k
      show Steps p.tables e below (T0.setTop (mkF m 44 #[.val (.ref ar), .val (.int (own_bit (own_bit (own_bit (own_bit (own_bit (own_bit (own_bit (crc ^^^ (x &&& (255 : Int32))))))))))), .val (.ref ar), .val (.int len), .val (.int i), .val (.int x), .val (.int (7 : Int32))] [(.int ((own_bit (own_bit (own_bit (own_bit (own_bit (own_bit (own_bit (crc ^^^ (x &&& (255 : Int32)))))))))) &&& (1 : Int32)))])) _
      refine XS.ifNo X0.here hx rfl (hb hby own_d_prog_22_method_2_code_44) rfl ((if0 _ _).trans (feq hd73).1) ?_
      show Steps p.tables e below (T0.setTop (mkF m 47 #[.val (.ref ar), .val (.int (own_bit (own_bit (own_bit (own_bit (own_bit (own_bit (own_bit (crc ^^^ (x &&& (255 : Int32))))))))))), .val (.ref ar), .val (.int len), .val (.int i), .val (.int x), .val (.int (7 : Int32))] [])) _
      refine XS.iloadN X0.here hx rfl (hb hby own_d_prog_22_method_2_code_47) rfl ?_
      show Steps p.tables e below (T0.setTop (mkF m 48 #[.val (.ref ar), .val (.int (own_bit (own_bit (own_bit (own_bit (own_bit (own_bit (own_bit (crc ^^^ (x &&& (255 : Int32))))))))))), .val (.ref ar), .val (.int len), .val (.int i), .val (.int x), .val (.int (7 : Int32))] [(.int (own_bit (own_bit (own_bit (own_bit (own_bit (own_bit (own_bit (crc ^^^ (x &&& (255 : Int32)))))))))))])) _
      refine XS.iconst X0.here hx rfl (hb hby own_d_prog_22_method_2_code_48) ?_
      show Steps p.tables e below (T0.setTop (mkF m 49 #[.val (.ref ar), .val (.int (own_bit (own_bit (own_bit (own_bit (own_bit (own_bit (own_bit (crc ^^^ (x &&& (255 : Int32))))))))))), .val (.ref ar), .val (.int len), .val (.int i), .val (.int x), .val (.int (7 : Int32))] [(.int (1 : Int32)), (.int (own_bit (own_bit (own_bit (own_bit (own_bit (own_bit (own_bit (crc ^^^ (x &&& (255 : Int32)))))))))))])) _
      refine XS.iushr X0.here hx rfl (hb hby own_d_prog_22_method_2_code_49) rfl ?_
      show Steps p.tables e below (T0.setTop (mkF m 50 #[.val (.ref ar), .val (.int (own_bit (own_bit (own_bit (own_bit (own_bit (own_bit (own_bit (crc ^^^ (x &&& (255 : Int32))))))))))), .val (.ref ar), .val (.int len), .val (.int i), .val (.int x), .val (.int (7 : Int32))] [(.int (((own_bit (own_bit (own_bit (own_bit (own_bit (own_bit (own_bit (crc ^^^ (x &&& (255 : Int32)))))))))).toUInt32 >>> ((1 : Int32) &&& 31).toUInt32).toInt32))])) _
      refine X0.ldcInt hx hown (mvT hZ (hw _ (List.mem_of_getElem? (i := 12) rfl))) (g := (mkF m 50 #[.val (.ref ar), .val (.int (own_bit (own_bit (own_bit (own_bit (own_bit (own_bit (own_bit (crc ^^^ (x &&& (255 : Int32))))))))))), .val (.ref ar), .val (.int len), .val (.int i), .val (.int x), .val (.int (7 : Int32))] [(.int (((own_bit (own_bit (own_bit (own_bit (own_bit (own_bit (own_bit (crc ^^^ (x &&& (255 : Int32)))))))))).toUInt32 >>> ((1 : Int32) &&& 31).toUInt32).toInt32))])) rfl (hb hby own_d_prog_22_method_2_code_50) _ ?_
      show Steps p.tables e below (T0.setTop (mkF m 52 #[.val (.ref ar), .val (.int (own_bit (own_bit (own_bit (own_bit (own_bit (own_bit (own_bit (crc ^^^ (x &&& (255 : Int32))))))))))), .val (.ref ar), .val (.int len), .val (.int i), .val (.int x), .val (.int (7 : Int32))] [(.int (40961 : Int32)), (.int (((own_bit (own_bit (own_bit (own_bit (own_bit (own_bit (own_bit (crc ^^^ (x &&& (255 : Int32)))))))))).toUInt32 >>> ((1 : Int32) &&& 31).toUInt32).toInt32))])) _
      refine XS.ixor X0.here hx rfl (hb hby own_d_prog_22_method_2_code_52) rfl ?_
      show Steps p.tables e below (T0.setTop (mkF m 53 #[.val (.ref ar), .val (.int (own_bit (own_bit (own_bit (own_bit (own_bit (own_bit (own_bit (crc ^^^ (x &&& (255 : Int32))))))))))), .val (.ref ar), .val (.int len), .val (.int i), .val (.int x), .val (.int (7 : Int32))] [(.int ((((own_bit (own_bit (own_bit (own_bit (own_bit (own_bit (own_bit (crc ^^^ (x &&& (255 : Int32)))))))))).toUInt32 >>> ((1 : Int32) &&& 31).toUInt32).toInt32) ^^^ (40961 : Int32)))])) _
      refine XS.istoreN X0.here hx rfl (hb hby own_d_prog_22_method_2_code_53) rfl (l' := #[.val (.ref ar), .val (.int ((((own_bit (own_bit (own_bit (own_bit (own_bit (own_bit (own_bit (crc ^^^ (x &&& (255 : Int32)))))))))).toUInt32 >>> ((1 : Int32) &&& 31).toUInt32).toInt32) ^^^ (40961 : Int32))), .val (.ref ar), .val (.int len), .val (.int i), .val (.int x), .val (.int (7 : Int32))]) rfl ?_
      show Steps p.tables e below (T0.setTop (mkF m 54 #[.val (.ref ar), .val (.int ((((own_bit (own_bit (own_bit (own_bit (own_bit (own_bit (own_bit (crc ^^^ (x &&& (255 : Int32)))))))))).toUInt32 >>> ((1 : Int32) &&& 31).toUInt32).toInt32) ^^^ (40961 : Int32))), .val (.ref ar), .val (.int len), .val (.int i), .val (.int x), .val (.int (7 : Int32))] [])) _
      refine XS.goto X0.here hx rfl (pc0 := 54) (pc' := 61) rfl (hb hby own_d_prog_22_method_2_code_54) (by decide) (by decide) ?_
      exact k)
  have pre75 : ∀ t, Steps p.tables e below (T0.setTop (mkF m 10 #[.val (.ref ar), .val (.int (own_bit (own_bit (own_bit (own_bit (own_bit (own_bit (own_bit (own_bit (crc ^^^ (x &&& (255 : Int32)))))))))))), .val (.ref ar), .val (.int len), .val (.int (i + (1 : Int32))), .val (.int x), .val (.int (8 : Int32))] [])) t → Steps p.tables e below (T0.setTop (mkF m 10 #[.val (.ref ar), .val (.int crc), .val (.ref ar), .val (.int len), .val (.int i), .val (.int y5), .val (.int y6)] [])) t := fun t k => pre74 t (by
    show Steps p.tables e below (T0.setTop (mkF m 61 #[.val (.ref ar), .val (.int (own_bit (own_bit (own_bit (own_bit (own_bit (own_bit (own_bit (own_bit (crc ^^^ (x &&& (255 : Int32)))))))))))), .val (.ref ar), .val (.int len), .val (.int i), .val (.int x), .val (.int (7 : Int32))] [])) _
    refine XS.iinc X0.here hx rfl (hb hby own_d_prog_22_method_2_code_61) rfl (l' := #[.val (.ref ar), .val (.int (own_bit (own_bit (own_bit (own_bit (own_bit (own_bit (own_bit (own_bit (crc ^^^ (x &&& (255 : Int32)))))))))))), .val (.ref ar), .val (.int len), .val (.int i), .val (.int x), .val (.int (8 : Int32))]) rfl ?_
    show Steps p.tables e below (T0.setTop (mkF m 64 #[.val (.ref ar), .val (.int (own_bit (own_bit (own_bit (own_bit (own_bit (own_bit (own_bit (own_bit (crc ^^^ (x &&& (255 : Int32)))))))))))), .val (.ref ar), .val (.int len), .val (.int i), .val (.int x), .val (.int (8 : Int32))] [])) _
    refine XS.goto X0.here hx rfl (pc0 := 64) (pc' := 34) rfl (hb hby own_d_prog_22_method_2_code_64) (by decide) (by decide) ?_
    show Steps p.tables e below (T0.setTop (mkF m 34 #[.val (.ref ar), .val (.int (own_bit (own_bit (own_bit (own_bit (own_bit (own_bit (own_bit (own_bit (crc ^^^ (x &&& (255 : Int32)))))))))))), .val (.ref ar), .val (.int len), .val (.int i), .val (.int x), .val (.int (8 : Int32))] [])) _
    refine XS.iload X0.here hx rfl (hb hby own_d_prog_22_method_2_code_34) rfl ?_
    show Steps p.tables e below (T0.setTop (mkF m 36 #[.val (.ref ar), .val (.int (own_bit (own_bit (own_bit (own_bit (own_bit (own_bit (own_bit (own_bit (crc ^^^ (x &&& (255 : Int32)))))))))))), .val (.ref ar), .val (.int len), .val (.int i), .val (.int x), .val (.int (8 : Int32))] [(.int (8 : Int32))])) _
    refine XS.bipush X0.here hx rfl (hb hby own_d_prog_22_method_2_code_36) ?_
    show Steps p.tables e below (T0.setTop (mkF m 38 #[.val (.ref ar), .val (.int (own_bit (own_bit (own_bit (own_bit (own_bit (own_bit (own_bit (own_bit (crc ^^^ (x &&& (255 : Int32)))))))))))), .val (.ref ar), .val (.int len), .val (.int i), .val (.int x), .val (.int (8 : Int32))] [(.int (8 : Int32)), (.int (8 : Int32))])) _
    refine XS.icmpYes X0.here hx rfl (pc0 := 38) (pc' := 67) rfl (hb hby own_d_prog_22_method_2_code_38) rfl (flt (by decide : ¬ ((8 : Int32) < (8 : Int32)))).2.1 (by decide) (by decide) ?_
    show Steps p.tables e below (T0.setTop (mkF m 67 #[.val (.ref ar), .val (.int (own_bit (own_bit (own_bit (own_bit (own_bit (own_bit (own_bit (own_bit (crc ^^^ (x &&& (255 : Int32)))))))))))), .val (.ref ar), .val (.int len), .val (.int i), .val (.int x), .val (.int (8 : Int32))] [])) _
    refine XS.iinc X0.here hx rfl (hb hby own_d_prog_22_method_2_code_67) rfl (l' := #[.val (.ref ar), .val (.int (own_bit (own_bit (own_bit (own_bit (own_bit (own_bit (own_bit (own_bit (crc ^^^ (x &&& (255 : Int32)))))))))))), .val (.ref ar), .val (.int len), .val (.int (i + (1 : Int32))), .val (.int x), .val (.int (8 : Int32))]) rfl ?_
    show Steps p.tables e below (T0.setTop (mkF m 70 #[.val (.ref ar), .val (.int (own_bit (own_bit (own_bit (own_bit (own_bit (own_bit (own_bit (own_bit (crc ^^^ (x &&& (255 : Int32)))))))))))), .val (.ref ar), .val (.int len), .val (.int (i + (1 : Int32))), .val (.int x), .val (.int (8 : Int32))] [])) _
    refine XS.goto X0.here hx rfl (pc0 := 70) (pc' := 10) rfl (hb hby own_d_prog_22_method_2_code_70) (by decide) (by decide) ?_
    exact k)
  exact pre75
theorem own_d_prog_22_method_2_code_0 : decode prog_22_method_2_code 0 = .ok (.iconst 0, 1) := by decide +kernel
theorem own_d_prog_22_method_2_code_1 : decode prog_22_method_2_code 1 = .ok (.istore_n 1, 1) := by decide +kernel
theorem own_d_prog_22_method_2_code_2 : decode prog_22_method_2_code 2 = .ok (.aload_n 0, 1) := by decide +kernel
theorem own_d_prog_22_method_2_code_3 : decode prog_22_method_2_code 3 = .ok (.astore_n 2, 1) := by decide +kernel
theorem own_d_prog_22_method_2_code_4 : decode prog_22_method_2_code 4 = .ok (.aload_n 2, 1) := by decide +kernel
theorem own_d_prog_22_method_2_code_5 : decode prog_22_method_2_code 5 = .ok (.arraylength, 1) := by decide +kernel
theorem own_d_prog_22_method_2_code_6 : decode prog_22_method_2_code 6 = .ok (.istore_n 3, 1) := by decide +kernel
theorem own_d_prog_22_method_2_code_7 : decode prog_22_method_2_code 7 = .ok (.iconst 0, 1) := by decide +kernel
theorem own_d_prog_22_method_2_code_8 : decode prog_22_method_2_code 8 = .ok (.istore 4, 2) := by decide +kernel
theorem own_d_prog_22_method_2_code_73 : decode prog_22_method_2_code 73 = .ok (.iload_n 1, 1) := by decide +kernel
theorem own_d_prog_22_method_2_code_74 : decode prog_22_method_2_code 74 = .ok (.ireturn, 1) := by decide +kernel
theorem own_pn1 : plainName "com/example/dongl/dongl/crypto/Crc16" = true := by first | (simp [plainName, overriddenIn]; done) | decide +kernel
theorem own_ef_rmA0 (m : MethodId)  (ar : Addr) (ka : ClassId) : entryFrame m #[(.ref ar)] 7 = mkF m 0 #[.val (.ref ar), .unset, .unset, .unset, .unset, .unset, .unset] [] := by first | (simp [entryFrame, mkF, argsToLocals, Value.category, maxLocals]; done) | rfl
set_option maxRecDepth 65536 in
set_option maxHeartbeats 40000000 in
theorem rmA0 (l : Launch) (Z : State) (a0 : Array Value) (hw : ∀ d ∈ tables_1, d.before a0 Z = true) (ws : List Jvm.Cond) (h0 : Heap) (n0 : Nat)  (ar : Addr) (ka : ClassId) (OL0 : Old Z n0 h0) (G_A_ar : Arv Z h0 ar ka .byte (0 : Int32) [] (.int (0 : Int32))) :
    MetFree l (⟨"com/example/dongl/dongl/crypto/Crc16", "arc", "([B)I"⟩ : MethodName) (head1 (Jvm.Cond.code (⟨"com/example/dongl/dongl/crypto/Crc16", "arc", "([B)I"⟩ : MethodName) prog_22_method_2_code 7 (some .int) :: ws) ({ frames := 0, cells := 0, slots := 0, locals := 0 } : Room)) (fun a U => a = #[(.ref ar)] ∧ Z.Warmed39 U.vm ∧ U.heap = h0) (fun _ _ _ _ _ => True) (fun _ U o U' => ∃ v L, o = .returned v ∧ (PQ (some (.int (0 : Int32))) h0 n0) v U'.heap L ∧ FrameEnd U o U' L ({ frames := 0, cells := 0, slots := 0, locals := 0 } : Room).cells ({ frames := 0, cells := 0, slots := 0, locals := 0 } : Room).slots) := by
  refine MetFree.of_bodySF (plainFor_of_name own_pn1) hisR ?_
  intro p e s m args below meth c s₁ Bd hml0 hP hK
  obtain ⟨rfl, hZ, hh⟩ := hP
  have hx := Bd.exec
  have hby := Bd.bytes
  have hml : c.maxLocals = 7 := hml0
  have hown : s.vm.findClass "com/example/dongl/dongl/crypto/Crc16" = some m.cls := findClass_of_methodNamed Bd.named
  have hnm := (name_of_methodNamed Bd.named Bd.method).1
  have X0 : Stand p l e ({ frames := 0, cells := 0, slots := 0, locals := 0 } : Room) s m #[(.ref ar)] below meth c s₁ [] 0 0 := Stand.of_body Bd
  have e0 : s₁.heap = h0 := by rw [← hh, Bd.state]; rfl
  have N0 := Fr.nil n0
  have pre0 : ∀ t, Steps p.tables e below (s₁.setTop (mkF m 0 #[.val (.ref ar), .unset, .unset, .unset, .unset, .unset, .unset] [])) t → Steps p.tables e below (s₁.setTop (entryFrame m #[(.ref ar)] 7)) t := fun t k => castTop (own_ef_rmA0 m ar ka) k
  have KK0 : Keep h0 h0 [] := Keep.refl _ _
  obtain ⟨cl76, Ar76, -, Sz76, Nn76, -, -⟩ := (id G_A_ar)
  obtain ⟨fs, hr, hrun, hended, hW, hsame⟩ := X0.leave (v := some (.int (0 : Int32))) (fun h => by rw [Bd.returns] at h; cases h)
  refine ⟨_, _, pre0 _ ?_, hrun, hended, _, _, rfl, ?_, ⟨_, rfl⟩, hW, hsame.mono (by decide) (by decide)⟩
  · show Steps p.tables e below (s₁.setTop (mkF m 0 #[.val (.ref ar), .unset, .unset, .unset, .unset, .unset, .unset] [])) _
    refine XS.iconst X0.here hx rfl (hb hby own_d_prog_22_method_2_code_0) ?_
    show Steps p.tables e below (s₁.setTop (mkF m 1 #[.val (.ref ar), .unset, .unset, .unset, .unset, .unset, .unset] [(.int (0 : Int32))])) _
    refine XS.istoreN X0.here hx rfl (hb hby own_d_prog_22_method_2_code_1) rfl (l' := #[.val (.ref ar), .val (.int (0 : Int32)), .unset, .unset, .unset, .unset, .unset]) rfl ?_
    show Steps p.tables e below (s₁.setTop (mkF m 2 #[.val (.ref ar), .val (.int (0 : Int32)), .unset, .unset, .unset, .unset, .unset] [])) _
    refine XS.aloadN X0.here hx rfl (hb hby own_d_prog_22_method_2_code_2) rfl rfl ?_
    show Steps p.tables e below (s₁.setTop (mkF m 3 #[.val (.ref ar), .val (.int (0 : Int32)), .unset, .unset, .unset, .unset, .unset] [(.ref ar)])) _
    refine XS.astoreN X0.here hx rfl (hb hby own_d_prog_22_method_2_code_3) rfl rfl (l' := #[.val (.ref ar), .val (.int (0 : Int32)), .val (.ref ar), .unset, .unset, .unset, .unset]) rfl ?_
    show Steps p.tables e below (s₁.setTop (mkF m 4 #[.val (.ref ar), .val (.int (0 : Int32)), .val (.ref ar), .unset, .unset, .unset, .unset] [])) _
    refine XS.aloadN X0.here hx rfl (hb hby own_d_prog_22_method_2_code_4) rfl rfl ?_
    show Steps p.tables e below (s₁.setTop (mkF m 5 #[.val (.ref ar), .val (.int (0 : Int32)), .val (.ref ar), .unset, .unset, .unset, .unset] [(.ref ar)])) _
    refine X0.arraylength hx (by rw [e0]; exact Ar76.1) (State.isArrayOf_alike hZ.alike Ar76.2.1) (g := (mkF m 5 #[.val (.ref ar), .val (.int (0 : Int32)), .val (.ref ar), .unset, .unset, .unset, .unset] [(.ref ar)])) rfl rfl (hb hby own_d_prog_22_method_2_code_5) _ ?_
    rw [len_of Sz76 Nn76]
    show Steps p.tables e below (s₁.setTop (mkF m 6 #[.val (.ref ar), .val (.int (0 : Int32)), .val (.ref ar), .unset, .unset, .unset, .unset] [(.int (0 : Int32))])) _
    refine XS.istoreN X0.here hx rfl (hb hby own_d_prog_22_method_2_code_6) rfl (l' := #[.val (.ref ar), .val (.int (0 : Int32)), .val (.ref ar), .val (.int (0 : Int32)), .unset, .unset, .unset]) rfl ?_
    show Steps p.tables e below (s₁.setTop (mkF m 7 #[.val (.ref ar), .val (.int (0 : Int32)), .val (.ref ar), .val (.int (0 : Int32)), .unset, .unset, .unset] [])) _
    refine XS.iconst X0.here hx rfl (hb hby own_d_prog_22_method_2_code_7) ?_
    show Steps p.tables e below (s₁.setTop (mkF m 8 #[.val (.ref ar), .val (.int (0 : Int32)), .val (.ref ar), .val (.int (0 : Int32)), .unset, .unset, .unset] [(.int (0 : Int32))])) _
    refine XS.istore X0.here hx rfl (hb hby own_d_prog_22_method_2_code_8) rfl (l' := #[.val (.ref ar), .val (.int (0 : Int32)), .val (.ref ar), .val (.int (0 : Int32)), .val (.int (0 : Int32)), .unset, .unset]) rfl ?_
    show Steps p.tables e below (s₁.setTop (mkF m 10 #[.val (.ref ar), .val (.int (0 : Int32)), .val (.ref ar), .val (.int (0 : Int32)), .val (.int (0 : Int32)), .unset, .unset] [])) _
    refine XS.iload X0.here hx rfl (hb hby own_d_prog_22_method_2_code_10) rfl ?_
    show Steps p.tables e below (s₁.setTop (mkF m 12 #[.val (.ref ar), .val (.int (0 : Int32)), .val (.ref ar), .val (.int (0 : Int32)), .val (.int (0 : Int32)), .unset, .unset] [(.int (0 : Int32))])) _
    refine XS.iloadN X0.here hx rfl (hb hby own_d_prog_22_method_2_code_12) rfl ?_
    show Steps p.tables e below (s₁.setTop (mkF m 13 #[.val (.ref ar), .val (.int (0 : Int32)), .val (.ref ar), .val (.int (0 : Int32)), .val (.int (0 : Int32)), .unset, .unset] [(.int (0 : Int32)), (.int (0 : Int32))])) _
    refine XS.icmpYes X0.here hx rfl (pc0 := 13) (pc' := 73) rfl (hb hby own_d_prog_22_method_2_code_13) rfl (flt (by decide : ¬ ((0 : Int32) < (0 : Int32)))).2.1 (by decide) (by decide) ?_
    show Steps p.tables e below (s₁.setTop (mkF m 73 #[.val (.ref ar), .val (.int (0 : Int32)), .val (.ref ar), .val (.int (0 : Int32)), .val (.int (0 : Int32)), .unset, .unset] [])) _
    refine XS.iloadN X0.here hx rfl (hb hby own_d_prog_22_method_2_code_73) rfl ?_
    show Steps p.tables e below (s₁.setTop (mkF m 74 #[.val (.ref ar), .val (.int (0 : Int32)), .val (.ref ar), .val (.int (0 : Int32)), .val (.int (0 : Int32)), .unset, .unset] [(.int (0 : Int32))])) _
    exact retI X0 hx Bd.returns (hb hby own_d_prog_22_method_2_code_74) hr
  · show PQ (some (.int (0 : Int32))) h0 n0 _ s₁.heap _
    rw [e0]
    exact ⟨rfl, N0, rfl⟩
theorem own_ef_rmA1 (m : MethodId) (x0 : Int32)  (ar : Addr) (ka : ClassId) : entryFrame m #[(.ref ar)] 7 = mkF m 0 #[.val (.ref ar), .unset, .unset, .unset, .unset, .unset, .unset] [] := by first | (simp [entryFrame, mkF, argsToLocals, Value.category, maxLocals]; done) | rfl
set_option maxRecDepth 65536 in
set_option maxHeartbeats 40000000 in
theorem rmA1 (l : Launch) (Z : State) (a0 : Array Value) (hw : ∀ d ∈ tables_1, d.before a0 Z = true) (ws : List Jvm.Cond) (h0 : Heap) (n0 : Nat) (x0 : Int32)  (ar : Addr) (ka : ClassId) (OL0 : Old Z n0 h0) (G_A_ar : Arv Z h0 ar ka .byte (1 : Int32) [(.int x0)] (.int (0 : Int32))) :
    MetFree l (⟨"com/example/dongl/dongl/crypto/Crc16", "arc", "([B)I"⟩ : MethodName) (head1 (Jvm.Cond.code (⟨"com/example/dongl/dongl/crypto/Crc16", "arc", "([B)I"⟩ : MethodName) prog_22_method_2_code 7 (some .int) :: ws) ({ frames := 0, cells := 0, slots := 0, locals := 0 } : Room)) (fun a U => a = #[(.ref ar)] ∧ Z.Warmed39 U.vm ∧ U.heap = h0) (fun _ _ _ _ _ => True) (fun _ U o U' => ∃ v L, o = .returned v ∧ (PQ (some (.int (own_byte (0 : Int32) x0))) h0 n0) v U'.heap L ∧ FrameEnd U o U' L ({ frames := 0, cells := 0, slots := 0, locals := 0 } : Room).cells ({ frames := 0, cells := 0, slots := 0, locals := 0 } : Room).slots) := by
  refine MetFree.of_bodySF (plainFor_of_name own_pn1) hisR ?_
  intro p e s m args below meth c s₁ Bd hml0 hP hK
  obtain ⟨rfl, hZ, hh⟩ := hP
  have hx := Bd.exec
  have hby := Bd.bytes
  have hml : c.maxLocals = 7 := hml0
  have hown : s.vm.findClass "com/example/dongl/dongl/crypto/Crc16" = some m.cls := findClass_of_methodNamed Bd.named
  have hnm := (name_of_methodNamed Bd.named Bd.method).1
  have X0 : Stand p l e ({ frames := 0, cells := 0, slots := 0, locals := 0 } : Room) s m #[(.ref ar)] below meth c s₁ [] 0 0 := Stand.of_body Bd
  have e0 : s₁.heap = h0 := by rw [← hh, Bd.state]; rfl
  have N0 := Fr.nil n0
  have pre0 : ∀ t, Steps p.tables e below (s₁.setTop (mkF m 0 #[.val (.ref ar), .unset, .unset, .unset, .unset, .unset, .unset] [])) t → Steps p.tables e below (s₁.setTop (entryFrame m #[(.ref ar)] 7)) t := fun t k => castTop (own_ef_rmA1 m x0 ar ka) k
  have KK0 : Keep h0 h0 [] := Keep.refl _ _
  obtain ⟨cl77, Ar77, -, Sz77, Nn77, -, -⟩ := (id G_A_ar)
  obtain ⟨cl78, Ar78, q78, Sz78, Nn78, Hh78, Gg78⟩ := (id G_A_ar)
  have hin78 : ¬ ((0 : Int32) < 0 ∨ cl78.slots.size ≤ ((0 : Int32)).toNatClampNeg) := inb_of Sz78 ⟨by decide, by decide⟩
  have hat78 : cl78.slots[((0 : Int32)).toNatClampNeg]? = some (.int x0) := Has.at Hh78 hin78 rfl
  obtain ⟨fs, hr, hrun, hended, hW, hsame⟩ := X0.leave (v := some (.int (own_byte (0 : Int32) x0))) (fun h => by rw [Bd.returns] at h; cases h)
  refine ⟨_, _, pre0 _ ?_, hrun, hended, _, _, rfl, ?_, ⟨_, rfl⟩, hW, hsame.mono (by decide) (by decide)⟩
  · show Steps p.tables e below (s₁.setTop (mkF m 0 #[.val (.ref ar), .unset, .unset, .unset, .unset, .unset, .unset] [])) _
    refine XS.iconst X0.here hx rfl (hb hby own_d_prog_22_method_2_code_0) ?_
    show Steps p.tables e below (s₁.setTop (mkF m 1 #[.val (.ref ar), .unset, .unset, .unset, .unset, .unset, .unset] [(.int (0 : Int32))])) _
    refine XS.istoreN X0.here hx rfl (hb hby own_d_prog_22_method_2_code_1) rfl (l' := #[.val (.ref ar), .val (.int (0 : Int32)), .unset, .unset, .unset, .unset, .unset]) rfl ?_
    show Steps p.tables e below (s₁.setTop (mkF m 2 #[.val (.ref ar), .val (.int (0 : Int32)), .unset, .unset, .unset, .unset, .unset] [])) _
    refine XS.aloadN X0.here hx rfl (hb hby own_d_prog_22_method_2_code_2) rfl rfl ?_
    show Steps p.tables e below (s₁.setTop (mkF m 3 #[.val (.ref ar), .val (.int (0 : Int32)), .unset, .unset, .unset, .unset, .unset] [(.ref ar)])) _
    refine XS.astoreN X0.here hx rfl (hb hby own_d_prog_22_method_2_code_3) rfl rfl (l' := #[.val (.ref ar), .val (.int (0 : Int32)), .val (.ref ar), .unset, .unset, .unset, .unset]) rfl ?_
    show Steps p.tables e below (s₁.setTop (mkF m 4 #[.val (.ref ar), .val (.int (0 : Int32)), .val (.ref ar), .unset, .unset, .unset, .unset] [])) _
    refine XS.aloadN X0.here hx rfl (hb hby own_d_prog_22_method_2_code_4) rfl rfl ?_
    show Steps p.tables e below (s₁.setTop (mkF m 5 #[.val (.ref ar), .val (.int (0 : Int32)), .val (.ref ar), .unset, .unset, .unset, .unset] [(.ref ar)])) _
    refine X0.arraylength hx (by rw [e0]; exact Ar77.1) (State.isArrayOf_alike hZ.alike Ar77.2.1) (g := (mkF m 5 #[.val (.ref ar), .val (.int (0 : Int32)), .val (.ref ar), .unset, .unset, .unset, .unset] [(.ref ar)])) rfl rfl (hb hby own_d_prog_22_method_2_code_5) _ ?_
    rw [len_of Sz77 Nn77]
    show Steps p.tables e below (s₁.setTop (mkF m 6 #[.val (.ref ar), .val (.int (0 : Int32)), .val (.ref ar), .unset, .unset, .unset, .unset] [(.int (1 : Int32))])) _
    refine XS.istoreN X0.here hx rfl (hb hby own_d_prog_22_method_2_code_6) rfl (l' := #[.val (.ref ar), .val (.int (0 : Int32)), .val (.ref ar), .val (.int (1 : Int32)), .unset, .unset, .unset]) rfl ?_
    show Steps p.tables e below (s₁.setTop (mkF m 7 #[.val (.ref ar), .val (.int (0 : Int32)), .val (.ref ar), .val (.int (1 : Int32)), .unset, .unset, .unset] [])) _
    refine XS.iconst X0.here hx rfl (hb hby own_d_prog_22_method_2_code_7) ?_
    show Steps p.tables e below (s₁.setTop (mkF m 8 #[.val (.ref ar), .val (.int (0 : Int32)), .val (.ref ar), .val (.int (1 : Int32)), .unset, .unset, .unset] [(.int (0 : Int32))])) _
    refine XS.istore X0.here hx rfl (hb hby own_d_prog_22_method_2_code_8) rfl (l' := #[.val (.ref ar), .val (.int (0 : Int32)), .val (.ref ar), .val (.int (1 : Int32)), .val (.int (0 : Int32)), .unset, .unset]) rfl ?_
    show Steps p.tables e below (s₁.setTop (mkF m 10 #[.val (.ref ar), .val (.int (0 : Int32)), .val (.ref ar), .val (.int (1 : Int32)), .val (.int (0 : Int32)), .unset, .unset] [])) _
    refine own_seg1 (Z := Z) (a0 := a0) ar cl78 (0 : Int32) (1 : Int32) (0 : Int32) x0 X0 hx hZ hw hby hml hown (by rw [e0]; exact Ar78) (by decide) hin78 hat78 _ ?_
    show Steps p.tables e below (s₁.setTop (mkF m 10 #[.val (.ref ar), .val (.int (own_byte (0 : Int32) x0)), .val (.ref ar), .val (.int (1 : Int32)), .val (.int (1 : Int32)), .val (.int x0), .val (.int (8 : Int32))] [])) _
    refine XS.iload X0.here hx rfl (hb hby own_d_prog_22_method_2_code_10) rfl ?_
    show Steps p.tables e below (s₁.setTop (mkF m 12 #[.val (.ref ar), .val (.int (own_byte (0 : Int32) x0)), .val (.ref ar), .val (.int (1 : Int32)), .val (.int (1 : Int32)), .val (.int x0), .val (.int (8 : Int32))] [(.int (1 : Int32))])) _
    refine XS.iloadN X0.here hx rfl (hb hby own_d_prog_22_method_2_code_12) rfl ?_
    show Steps p.tables e below (s₁.setTop (mkF m 13 #[.val (.ref ar), .val (.int (own_byte (0 : Int32) x0)), .val (.ref ar), .val (.int (1 : Int32)), .val (.int (1 : Int32)), .val (.int x0), .val (.int (8 : Int32))] [(.int (1 : Int32)), (.int (1 : Int32))])) _
    refine XS.icmpYes X0.here hx rfl (pc0 := 13) (pc' := 73) rfl (hb hby own_d_prog_22_method_2_code_13) rfl (flt (by decide : ¬ ((1 : Int32) < (1 : Int32)))).2.1 (by decide) (by decide) ?_
    show Steps p.tables e below (s₁.setTop (mkF m 73 #[.val (.ref ar), .val (.int (own_byte (0 : Int32) x0)), .val (.ref ar), .val (.int (1 : Int32)), .val (.int (1 : Int32)), .val (.int x0), .val (.int (8 : Int32))] [])) _
    refine XS.iloadN X0.here hx rfl (hb hby own_d_prog_22_method_2_code_73) rfl ?_
    show Steps p.tables e below (s₁.setTop (mkF m 74 #[.val (.ref ar), .val (.int (own_byte (0 : Int32) x0)), .val (.ref ar), .val (.int (1 : Int32)), .val (.int (1 : Int32)), .val (.int x0), .val (.int (8 : Int32))] [(.int (own_byte (0 : Int32) x0))])) _
    exact retI X0 hx Bd.returns (hb hby own_d_prog_22_method_2_code_74) hr
  · show PQ (some (.int (own_byte (0 : Int32) x0))) h0 n0 _ s₁.heap _
    rw [e0]
    exact ⟨rfl, N0, rfl⟩
theorem own_ef_rmA2 (m : MethodId) (x0 : Int32) (x1 : Int32)  (ar : Addr) (ka : ClassId) : entryFrame m #[(.ref ar)] 7 = mkF m 0 #[.val (.ref ar), .unset, .unset, .unset, .unset, .unset, .unset] [] := by first | (simp [entryFrame, mkF, argsToLocals, Value.category, maxLocals]; done) | rfl
set_option maxRecDepth 65536 in
set_option maxHeartbeats 40000000 in
theorem rmA2 (l : Launch) (Z : State) (a0 : Array Value) (hw : ∀ d ∈ tables_1, d.before a0 Z = true) (ws : List Jvm.Cond) (h0 : Heap) (n0 : Nat) (x0 : Int32) (x1 : Int32)  (ar : Addr) (ka : ClassId) (OL0 : Old Z n0 h0) (G_A_ar : Arv Z h0 ar ka .byte (2 : Int32) [(.int x0), (.int x1)] (.int (0 : Int32))) :
    MetFree l (⟨"com/example/dongl/dongl/crypto/Crc16", "arc", "([B)I"⟩ : MethodName) (head1 (Jvm.Cond.code (⟨"com/example/dongl/dongl/crypto/Crc16", "arc", "([B)I"⟩ : MethodName) prog_22_method_2_code 7 (some .int) :: ws) ({ frames := 0, cells := 0, slots := 0, locals := 0 } : Room)) (fun a U => a = #[(.ref ar)] ∧ Z.Warmed39 U.vm ∧ U.heap = h0) (fun _ _ _ _ _ => True) (fun _ U o U' => ∃ v L, o = .returned v ∧ (PQ (some (.int (own_byte (own_byte (0 : Int32) x0) x1))) h0 n0) v U'.heap L ∧ FrameEnd U o U' L ({ frames := 0, cells := 0, slots := 0, locals := 0 } : Room).cells ({ frames := 0, cells := 0, slots := 0, locals := 0 } : Room).slots) := by
  refine MetFree.of_bodySF (plainFor_of_name own_pn1) hisR ?_
  intro p e s m args below meth c s₁ Bd hml0 hP hK
  obtain ⟨rfl, hZ, hh⟩ := hP
  have hx := Bd.exec
  have hby := Bd.bytes
  have hml : c.maxLocals = 7 := hml0
  have hown : s.vm.findClass "com/example/dongl/dongl/crypto/Crc16" = some m.cls := findClass_of_methodNamed Bd.named
  have hnm := (name_of_methodNamed Bd.named Bd.method).1
  have X0 : Stand p l e ({ frames := 0, cells := 0, slots := 0, locals := 0 } : Room) s m #[(.ref ar)] below meth c s₁ [] 0 0 := Stand.of_body Bd
  have e0 : s₁.heap = h0 := by rw [← hh, Bd.state]; rfl
  have N0 := Fr.nil n0
  have pre0 : ∀ t, Steps p.tables e below (s₁.setTop (mkF m 0 #[.val (.ref ar), .unset, .unset, .unset, .unset, .unset, .unset] [])) t → Steps p.tables e below (s₁.setTop (entryFrame m #[(.ref ar)] 7)) t := fun t k => castTop (own_ef_rmA2 m x0 x1 ar ka) k
  have KK0 : Keep h0 h0 [] := Keep.refl _ _
  obtain ⟨cl79, Ar79, -, Sz79, Nn79, -, -⟩ := (id G_A_ar)
  obtain ⟨cl80, Ar80, q80, Sz80, Nn80, Hh80, Gg80⟩ := (id G_A_ar)
  have hin80 : ¬ ((0 : Int32) < 0 ∨ cl80.slots.size ≤ ((0 : Int32)).toNatClampNeg) := inb_of Sz80 ⟨by decide, by decide⟩
  have hat80 : cl80.slots[((0 : Int32)).toNatClampNeg]? = some (.int x0) := Has.at Hh80 hin80 rfl
  obtain ⟨cl81, Ar81, q81, Sz81, Nn81, Hh81, Gg81⟩ := (id G_A_ar)
  have hin81 : ¬ ((1 : Int32) < 0 ∨ cl81.slots.size ≤ ((1 : Int32)).toNatClampNeg) := inb_of Sz81 ⟨by decide, by decide⟩
  have hat81 : cl81.slots[((1 : Int32)).toNatClampNeg]? = some (.int x1) := Has.at Hh81 hin81 rfl
  obtain ⟨fs, hr, hrun, hended, hW, hsame⟩ := X0.leave (v := some (.int (own_byte (own_byte (0 : Int32) x0) x1))) (fun h => by rw [Bd.returns] at h; cases h)
  refine ⟨_, _, pre0 _ ?_, hrun, hended, _, _, rfl, ?_, ⟨_, rfl⟩, hW, hsame.mono (by decide) (by decide)⟩
  · show Steps p.tables e below (s₁.setTop (mkF m 0 #[.val (.ref ar), .unset, .unset, .unset, .unset, .unset, .unset] [])) _
    refine XS.iconst X0.here hx rfl (hb hby own_d_prog_22_method_2_code_0) ?_
    show Steps p.tables e below (s₁.setTop (mkF m 1 #[.val (.ref ar), .unset, .unset, .unset, .unset, .unset, .unset] [(.int (0 : Int32))])) _
    refine XS.istoreN X0.here hx rfl (hb hby own_d_prog_22_method_2_code_1) rfl (l' := #[.val (.ref ar), .val (.int (0 : Int32)), .unset, .unset, .unset, .unset, .unset]) rfl ?_
    show Steps p.tables e below (s₁.setTop (mkF m 2 #[.val (.ref ar), .val (.int (0 : Int32)), .unset, .unset, .unset, .unset, .unset] [])) _
    refine XS.aloadN X0.here hx rfl (hb hby own_d_prog_22_method_2_code_2) rfl rfl ?_
    show Steps p.tables e below (s₁.setTop (mkF m 3 #[.val (.ref ar), .val (.int (0 : Int32)), .unset, .unset, .unset, .unset, .unset] [(.ref ar)])) _
    refine XS.astoreN X0.here hx rfl (hb hby own_d_prog_22_method_2_code_3) rfl rfl (l' := #[.val (.ref ar), .val (.int (0 : Int32)), .val (.ref ar), .unset, .unset, .unset, .unset]) rfl ?_
    show Steps p.tables e below (s₁.setTop (mkF m 4 #[.val (.ref ar), .val (.int (0 : Int32)), .val (.ref ar), .unset, .unset, .unset, .unset] [])) _
    refine XS.aloadN X0.here hx rfl (hb hby own_d_prog_22_method_2_code_4) rfl rfl ?_
    show Steps p.tables e below (s₁.setTop (mkF m 5 #[.val (.ref ar), .val (.int (0 : Int32)), .val (.ref ar), .unset, .unset, .unset, .unset] [(.ref ar)])) _
    refine X0.arraylength hx (by rw [e0]; exact Ar79.1) (State.isArrayOf_alike hZ.alike Ar79.2.1) (g := (mkF m 5 #[.val (.ref ar), .val (.int (0 : Int32)), .val (.ref ar), .unset, .unset, .unset, .unset] [(.ref ar)])) rfl rfl (hb hby own_d_prog_22_method_2_code_5) _ ?_
    rw [len_of Sz79 Nn79]
    show Steps p.tables e below (s₁.setTop (mkF m 6 #[.val (.ref ar), .val (.int (0 : Int32)), .val (.ref ar), .unset, .unset, .unset, .unset] [(.int (2 : Int32))])) _
    refine XS.istoreN X0.here hx rfl (hb hby own_d_prog_22_method_2_code_6) rfl (l' := #[.val (.ref ar), .val (.int (0 : Int32)), .val (.ref ar), .val (.int (2 : Int32)), .unset, .unset, .unset]) rfl ?_
    show Steps p.tables e below (s₁.setTop (mkF m 7 #[.val (.ref ar), .val (.int (0 : Int32)), .val (.ref ar), .val (.int (2 : Int32)), .unset, .unset, .unset] [])) _
    refine XS.iconst X0.here hx rfl (hb hby own_d_prog_22_method_2_code_7) ?_
    show Steps p.tables e below (s₁.setTop (mkF m 8 #[.val (.ref ar), .val (.int (0 : Int32)), .val (.ref ar), .val (.int (2 : Int32)), .unset, .unset, .unset] [(.int (0 : Int32))])) _
    refine XS.istore X0.here hx rfl (hb hby own_d_prog_22_method_2_code_8) rfl (l' := #[.val (.ref ar), .val (.int (0 : Int32)), .val (.ref ar), .val (.int (2 : Int32)), .val (.int (0 : Int32)), .unset, .unset]) rfl ?_
    show Steps p.tables e below (s₁.setTop (mkF m 10 #[.val (.ref ar), .val (.int (0 : Int32)), .val (.ref ar), .val (.int (2 : Int32)), .val (.int (0 : Int32)), .unset, .unset] [])) _
    refine own_seg1 (Z := Z) (a0 := a0) ar cl80 (0 : Int32) (2 : Int32) (0 : Int32) x0 X0 hx hZ hw hby hml hown (by rw [e0]; exact Ar80) (by decide) hin80 hat80 _ ?_
    show Steps p.tables e below (s₁.setTop (mkF m 10 #[.val (.ref ar), .val (.int (own_byte (0 : Int32) x0)), .val (.ref ar), .val (.int (2 : Int32)), .val (.int (1 : Int32)), .val (.int x0), .val (.int (8 : Int32))] [])) _
    refine own_seg2 (Z := Z) (a0 := a0) ar cl81 (own_byte (0 : Int32) x0) (2 : Int32) (1 : Int32) x1 x0 (8 : Int32) X0 hx hZ hw hby hml hown (by rw [e0]; exact Ar81) (by decide) hin81 hat81 _ ?_
    show Steps p.tables e below (s₁.setTop (mkF m 10 #[.val (.ref ar), .val (.int (own_byte (own_byte (0 : Int32) x0) x1)), .val (.ref ar), .val (.int (2 : Int32)), .val (.int (2 : Int32)), .val (.int x1), .val (.int (8 : Int32))] [])) _
    refine XS.iload X0.here hx rfl (hb hby own_d_prog_22_method_2_code_10) rfl ?_
    show Steps p.tables e below (s₁.setTop (mkF m 12 #[.val (.ref ar), .val (.int (own_byte (own_byte (0 : Int32) x0) x1)), .val (.ref ar), .val (.int (2 : Int32)), .val (.int (2 : Int32)), .val (.int x1), .val (.int (8 : Int32))] [(.int (2 : Int32))])) _
    refine XS.iloadN X0.here hx rfl (hb hby own_d_prog_22_method_2_code_12) rfl ?_
    show Steps p.tables e below (s₁.setTop (mkF m 13 #[.val (.ref ar), .val (.int (own_byte (own_byte (0 : Int32) x0) x1)), .val (.ref ar), .val (.int (2 : Int32)), .val (.int (2 : Int32)), .val (.int x1), .val (.int (8 : Int32))] [(.int (2 : Int32)), (.int (2 : Int32))])) _
    refine XS.icmpYes X0.here hx rfl (pc0 := 13) (pc' := 73) rfl (hb hby own_d_prog_22_method_2_code_13) rfl (flt (by decide : ¬ ((2 : Int32) < (2 : Int32)))).2.1 (by decide) (by decide) ?_
    show Steps p.tables e below (s₁.setTop (mkF m 73 #[.val (.ref ar), .val (.int (own_byte (own_byte (0 : Int32) x0) x1)), .val (.ref ar), .val (.int (2 : Int32)), .val (.int (2 : Int32)), .val (.int x1), .val (.int (8 : Int32))] [])) _
    refine XS.iloadN X0.here hx rfl (hb hby own_d_prog_22_method_2_code_73) rfl ?_
    show Steps p.tables e below (s₁.setTop (mkF m 74 #[.val (.ref ar), .val (.int (own_byte (own_byte (0 : Int32) x0) x1)), .val (.ref ar), .val (.int (2 : Int32)), .val (.int (2 : Int32)), .val (.int x1), .val (.int (8 : Int32))] [(.int (own_byte (own_byte (0 : Int32) x0) x1))])) _
    exact retI X0 hx Bd.returns (hb hby own_d_prog_22_method_2_code_74) hr
  · show PQ (some (.int (own_byte (own_byte (0 : Int32) x0) x1))) h0 n0 _ s₁.heap _
    rw [e0]
    exact ⟨rfl, N0, rfl⟩
theorem own_ef_rmA3 (m : MethodId) (x0 : Int32) (x1 : Int32) (x2 : Int32)  (ar : Addr) (ka : ClassId) : entryFrame m #[(.ref ar)] 7 = mkF m 0 #[.val (.ref ar), .unset, .unset, .unset, .unset, .unset, .unset] [] := by first | (simp [entryFrame, mkF, argsToLocals, Value.category, maxLocals]; done) | rfl
set_option maxRecDepth 65536 in
set_option maxHeartbeats 40000000 in
theorem rmA3 (l : Launch) (Z : State) (a0 : Array Value) (hw : ∀ d ∈ tables_1, d.before a0 Z = true) (ws : List Jvm.Cond) (h0 : Heap) (n0 : Nat) (x0 : Int32) (x1 : Int32) (x2 : Int32)  (ar : Addr) (ka : ClassId) (OL0 : Old Z n0 h0) (G_A_ar : Arv Z h0 ar ka .byte (3 : Int32) [(.int x0), (.int x1), (.int x2)] (.int (0 : Int32))) :
    MetFree l (⟨"com/example/dongl/dongl/crypto/Crc16", "arc", "([B)I"⟩ : MethodName) (head1 (Jvm.Cond.code (⟨"com/example/dongl/dongl/crypto/Crc16", "arc", "([B)I"⟩ : MethodName) prog_22_method_2_code 7 (some .int) :: ws) ({ frames := 0, cells := 0, slots := 0, locals := 0 } : Room)) (fun a U => a = #[(.ref ar)] ∧ Z.Warmed39 U.vm ∧ U.heap = h0) (fun _ _ _ _ _ => True) (fun _ U o U' => ∃ v L, o = .returned v ∧ (PQ (some (.int (own_byte (own_byte (own_byte (0 : Int32) x0) x1) x2))) h0 n0) v U'.heap L ∧ FrameEnd U o U' L ({ frames := 0, cells := 0, slots := 0, locals := 0 } : Room).cells ({ frames := 0, cells := 0, slots := 0, locals := 0 } : Room).slots) := by
  refine MetFree.of_bodySF (plainFor_of_name own_pn1) hisR ?_
  intro p e s m args below meth c s₁ Bd hml0 hP hK
  obtain ⟨rfl, hZ, hh⟩ := hP
  have hx := Bd.exec
  have hby := Bd.bytes
  have hml : c.maxLocals = 7 := hml0
  have hown : s.vm.findClass "com/example/dongl/dongl/crypto/Crc16" = some m.cls := findClass_of_methodNamed Bd.named
  have hnm := (name_of_methodNamed Bd.named Bd.method).1
  have X0 : Stand p l e ({ frames := 0, cells := 0, slots := 0, locals := 0 } : Room) s m #[(.ref ar)] below meth c s₁ [] 0 0 := Stand.of_body Bd
  have e0 : s₁.heap = h0 := by rw [← hh, Bd.state]; rfl
  have N0 := Fr.nil n0
  have pre0 : ∀ t, Steps p.tables e below (s₁.setTop (mkF m 0 #[.val (.ref ar), .unset, .unset, .unset, .unset, .unset, .unset] [])) t → Steps p.tables e below (s₁.setTop (entryFrame m #[(.ref ar)] 7)) t := fun t k => castTop (own_ef_rmA3 m x0 x1 x2 ar ka) k
  have KK0 : Keep h0 h0 [] := Keep.refl _ _
  obtain ⟨cl82, Ar82, -, Sz82, Nn82, -, -⟩ := (id G_A_ar)
  obtain ⟨cl83, Ar83, q83, Sz83, Nn83, Hh83, Gg83⟩ := (id G_A_ar)
  have hin83 : ¬ ((0 : Int32) < 0 ∨ cl83.slots.size ≤ ((0 : Int32)).toNatClampNeg) := inb_of Sz83 ⟨by decide, by decide⟩
  have hat83 : cl83.slots[((0 : Int32)).toNatClampNeg]? = some (.int x0) := Has.at Hh83 hin83 rfl
  obtain ⟨cl84, Ar84, q84, Sz84, Nn84, Hh84, Gg84⟩ := (id G_A_ar)
  have hin84 : ¬ ((1 : Int32) < 0 ∨ cl84.slots.size ≤ ((1 : Int32)).toNatClampNeg) := inb_of Sz84 ⟨by decide, by decide⟩
  have hat84 : cl84.slots[((1 : Int32)).toNatClampNeg]? = some (.int x1) := Has.at Hh84 hin84 rfl
  obtain ⟨cl85, Ar85, q85, Sz85, Nn85, Hh85, Gg85⟩ := (id G_A_ar)
  have hin85 : ¬ ((2 : Int32) < 0 ∨ cl85.slots.size ≤ ((2 : Int32)).toNatClampNeg) := inb_of Sz85 ⟨by decide, by decide⟩
  have hat85 : cl85.slots[((2 : Int32)).toNatClampNeg]? = some (.int x2) := Has.at Hh85 hin85 rfl
  obtain ⟨fs, hr, hrun, hended, hW, hsame⟩ := X0.leave (v := some (.int (own_byte (own_byte (own_byte (0 : Int32) x0) x1) x2))) (fun h => by rw [Bd.returns] at h; cases h)
  refine ⟨_, _, pre0 _ ?_, hrun, hended, _, _, rfl, ?_, ⟨_, rfl⟩, hW, hsame.mono (by decide) (by decide)⟩
  · show Steps p.tables e below (s₁.setTop (mkF m 0 #[.val (.ref ar), .unset, .unset, .unset, .unset, .unset, .unset] [])) _
    refine XS.iconst X0.here hx rfl (hb hby own_d_prog_22_method_2_code_0) ?_
    show Steps p.tables e below (s₁.setTop (mkF m 1 #[.val (.ref ar), .unset, .unset, .unset, .unset, .unset, .unset] [(.int (0 : Int32))])) _
    refine XS.istoreN X0.here hx rfl (hb hby own_d_prog_22_method_2_code_1) rfl (l' := #[.val (.ref ar), .val (.int (0 : Int32)), .unset, .unset, .unset, .unset, .unset]) rfl ?_
    show Steps p.tables e below (s₁.setTop (mkF m 2 #[.val (.ref ar), .val (.int (0 : Int32)), .unset, .unset, .unset, .unset, .unset] [])) _
    refine XS.aloadN X0.here hx rfl (hb hby own_d_prog_22_method_2_code_2) rfl rfl ?_
    show Steps p.tables e below (s₁.setTop (mkF m 3 #[.val (.ref ar), .val (.int (0 : Int32)), .unset, .unset, .unset, .unset, .unset] [(.ref ar)])) _
    refine XS.astoreN X0.here hx rfl (hb hby own_d_prog_22_method_2_code_3) rfl rfl (l' := #[.val (.ref ar), .val (.int (0 : Int32)), .val (.ref ar), .unset, .unset, .unset, .unset]) rfl ?_
    show Steps p.tables e below (s₁.setTop (mkF m 4 #[.val (.ref ar), .val (.int (0 : Int32)), .val (.ref ar), .unset, .unset, .unset, .unset] [])) _
    refine XS.aloadN X0.here hx rfl (hb hby own_d_prog_22_method_2_code_4) rfl rfl ?_
    show Steps p.tables e below (s₁.setTop (mkF m 5 #[.val (.ref ar), .val (.int (0 : Int32)), .val (.ref ar), .unset, .unset, .unset, .unset] [(.ref ar)])) _
    refine X0.arraylength hx (by rw [e0]; exact Ar82.1) (State.isArrayOf_alike hZ.alike Ar82.2.1) (g := (mkF m 5 #[.val (.ref ar), .val (.int (0 : Int32)), .val (.ref ar), .unset, .unset, .unset, .unset] [(.ref ar)])) rfl rfl (hb hby own_d_prog_22_method_2_code_5) _ ?_
    rw [len_of Sz82 Nn82]
    show Steps p.tables e below (s₁.setTop (mkF m 6 #[.val (.ref ar), .val (.int (0 : Int32)), .val (.ref ar), .unset, .unset, .unset, .unset] [(.int (3 : Int32))])) _
    refine XS.istoreN X0.here hx rfl (hb hby own_d_prog_22_method_2_code_6) rfl (l' := #[.val (.ref ar), .val (.int (0 : Int32)), .val (.ref ar), .val (.int (3 : Int32)), .unset, .unset, .unset]) rfl ?_
    show Steps p.tables e below (s₁.setTop (mkF m 7 #[.val (.ref ar), .val (.int (0 : Int32)), .val (.ref ar), .val (.int (3 : Int32)), .unset, .unset, .unset] [])) _
    refine XS.iconst X0.here hx rfl (hb hby own_d_prog_22_method_2_code_7) ?_
    show Steps p.tables e below (s₁.setTop (mkF m 8 #[.val (.ref ar), .val (.int (0 : Int32)), .val (.ref ar), .val (.int (3 : Int32)), .unset, .unset, .unset] [(.int (0 : Int32))])) _
    refine XS.istore X0.here hx rfl (hb hby own_d_prog_22_method_2_code_8) rfl (l' := #[.val (.ref ar), .val (.int (0 : Int32)), .val (.ref ar), .val (.int (3 : Int32)), .val (.int (0 : Int32)), .unset, .unset]) rfl ?_
    show Steps p.tables e below (s₁.setTop (mkF m 10 #[.val (.ref ar), .val (.int (0 : Int32)), .val (.ref ar), .val (.int (3 : Int32)), .val (.int (0 : Int32)), .unset, .unset] [])) _
    refine own_seg1 (Z := Z) (a0 := a0) ar cl83 (0 : Int32) (3 : Int32) (0 : Int32) x0 X0 hx hZ hw hby hml hown (by rw [e0]; exact Ar83) (by decide) hin83 hat83 _ ?_
    show Steps p.tables e below (s₁.setTop (mkF m 10 #[.val (.ref ar), .val (.int (own_byte (0 : Int32) x0)), .val (.ref ar), .val (.int (3 : Int32)), .val (.int (1 : Int32)), .val (.int x0), .val (.int (8 : Int32))] [])) _
    refine own_seg2 (Z := Z) (a0 := a0) ar cl84 (own_byte (0 : Int32) x0) (3 : Int32) (1 : Int32) x1 x0 (8 : Int32) X0 hx hZ hw hby hml hown (by rw [e0]; exact Ar84) (by decide) hin84 hat84 _ ?_
    show Steps p.tables e below (s₁.setTop (mkF m 10 #[.val (.ref ar), .val (.int (own_byte (own_byte (0 : Int32) x0) x1)), .val (.ref ar), .val (.int (3 : Int32)), .val (.int (2 : Int32)), .val (.int x1), .val (.int (8 : Int32))] [])) _
    refine own_seg2 (Z := Z) (a0 := a0) ar cl85 (own_byte (own_byte (0 : Int32) x0) x1) (3 : Int32) (2 : Int32) x2 x1 (8 : Int32) X0 hx hZ hw hby hml hown (by rw [e0]; exact Ar85) (by decide) hin85 hat85 _ ?_
    show Steps p.tables e below (s₁.setTop (mkF m 10 #[.val (.ref ar), .val (.int (own_byte (own_byte (own_byte (0 : Int32) x0) x1) x2)), .val (.ref ar), .val (.int (3 : Int32)), .val (.int (3 : Int32)), .val (.int x2), .val (.int (8 : Int32))] [])) _
    refine XS.iload X0.here hx rfl (hb hby own_d_prog_22_method_2_code_10) rfl ?_
    show Steps p.tables e below (s₁.setTop (mkF m 12 #[.val (.ref ar), .val (.int (own_byte (own_byte (own_byte (0 : Int32) x0) x1) x2)), .val (.ref ar), .val (.int (3 : Int32)), .val (.int (3 : Int32)), .val (.int x2), .val (.int (8 : Int32))] [(.int (3 : Int32))])) _
    refine XS.iloadN X0.here hx rfl (hb hby own_d_prog_22_method_2_code_12) rfl ?_
    show Steps p.tables e below (s₁.setTop (mkF m 13 #[.val (.ref ar), .val (.int (own_byte (own_byte (own_byte (0 : Int32) x0) x1) x2)), .val (.ref ar), .val (.int (3 : Int32)), .val (.int (3 : Int32)), .val (.int x2), .val (.int (8 : Int32))] [(.int (3 : Int32)), (.int (3 : Int32))])) _
    refine XS.icmpYes X0.here hx rfl (pc0 := 13) (pc' := 73) rfl (hb hby own_d_prog_22_method_2_code_13) rfl (flt (by decide : ¬ ((3 : Int32) < (3 : Int32)))).2.1 (by decide) (by decide) ?_
    show Steps p.tables e below (s₁.setTop (mkF m 73 #[.val (.ref ar), .val (.int (own_byte (own_byte (own_byte (0 : Int32) x0) x1) x2)), .val (.ref ar), .val (.int (3 : Int32)), .val (.int (3 : Int32)), .val (.int x2), .val (.int (8 : Int32))] [])) _
    refine XS.iloadN X0.here hx rfl (hb hby own_d_prog_22_method_2_code_73) rfl ?_
    show Steps p.tables e below (s₁.setTop (mkF m 74 #[.val (.ref ar), .val (.int (own_byte (own_byte (own_byte (0 : Int32) x0) x1) x2)), .val (.ref ar), .val (.int (3 : Int32)), .val (.int (3 : Int32)), .val (.int x2), .val (.int (8 : Int32))] [(.int (own_byte (own_byte (own_byte (0 : Int32) x0) x1) x2))])) _
    exact retI X0 hx Bd.returns (hb hby own_d_prog_22_method_2_code_74) hr
  · show PQ (some (.int (own_byte (own_byte (own_byte (0 : Int32) x0) x1) x2))) h0 n0 _ s₁.heap _
    rw [e0]
    exact ⟨rfl, N0, rfl⟩
theorem own_ef_rmA4 (m : MethodId) (x0 : Int32) (x1 : Int32) (x2 : Int32) (x3 : Int32)  (ar : Addr) (ka : ClassId) : entryFrame m #[(.ref ar)] 7 = mkF m 0 #[.val (.ref ar), .unset, .unset, .unset, .unset, .unset, .unset] [] := by first | (simp [entryFrame, mkF, argsToLocals, Value.category, maxLocals]; done) | rfl
set_option maxRecDepth 65536 in
set_option maxHeartbeats 40000000 in
theorem rmA4 (l : Launch) (Z : State) (a0 : Array Value) (hw : ∀ d ∈ tables_1, d.before a0 Z = true) (ws : List Jvm.Cond) (h0 : Heap) (n0 : Nat) (x0 : Int32) (x1 : Int32) (x2 : Int32) (x3 : Int32)  (ar : Addr) (ka : ClassId) (OL0 : Old Z n0 h0) (G_A_ar : Arv Z h0 ar ka .byte (4 : Int32) [(.int x0), (.int x1), (.int x2), (.int x3)] (.int (0 : Int32))) :
    MetFree l (⟨"com/example/dongl/dongl/crypto/Crc16", "arc", "([B)I"⟩ : MethodName) (head1 (Jvm.Cond.code (⟨"com/example/dongl/dongl/crypto/Crc16", "arc", "([B)I"⟩ : MethodName) prog_22_method_2_code 7 (some .int) :: ws) ({ frames := 0, cells := 0, slots := 0, locals := 0 } : Room)) (fun a U => a = #[(.ref ar)] ∧ Z.Warmed39 U.vm ∧ U.heap = h0) (fun _ _ _ _ _ => True) (fun _ U o U' => ∃ v L, o = .returned v ∧ (PQ (some (.int (own_byte (own_byte (own_byte (own_byte (0 : Int32) x0) x1) x2) x3))) h0 n0) v U'.heap L ∧ FrameEnd U o U' L ({ frames := 0, cells := 0, slots := 0, locals := 0 } : Room).cells ({ frames := 0, cells := 0, slots := 0, locals := 0 } : Room).slots) := by
  refine MetFree.of_bodySF (plainFor_of_name own_pn1) hisR ?_
  intro p e s m args below meth c s₁ Bd hml0 hP hK
  obtain ⟨rfl, hZ, hh⟩ := hP
  have hx := Bd.exec
  have hby := Bd.bytes
  have hml : c.maxLocals = 7 := hml0
  have hown : s.vm.findClass "com/example/dongl/dongl/crypto/Crc16" = some m.cls := findClass_of_methodNamed Bd.named
  have hnm := (name_of_methodNamed Bd.named Bd.method).1
  have X0 : Stand p l e ({ frames := 0, cells := 0, slots := 0, locals := 0 } : Room) s m #[(.ref ar)] below meth c s₁ [] 0 0 := Stand.of_body Bd
  have e0 : s₁.heap = h0 := by rw [← hh, Bd.state]; rfl
  have N0 := Fr.nil n0
  have pre0 : ∀ t, Steps p.tables e below (s₁.setTop (mkF m 0 #[.val (.ref ar), .unset, .unset, .unset, .unset, .unset, .unset] [])) t → Steps p.tables e below (s₁.setTop (entryFrame m #[(.ref ar)] 7)) t := fun t k => castTop (own_ef_rmA4 m x0 x1 x2 x3 ar ka) k
  have KK0 : Keep h0 h0 [] := Keep.refl _ _
  obtain ⟨cl86, Ar86, -, Sz86, Nn86, -, -⟩ := (id G_A_ar)
  obtain ⟨cl87, Ar87, q87, Sz87, Nn87, Hh87, Gg87⟩ := (id G_A_ar)
  have hin87 : ¬ ((0 : Int32) < 0 ∨ cl87.slots.size ≤ ((0 : Int32)).toNatClampNeg) := inb_of Sz87 ⟨by decide, by decide⟩
  have hat87 : cl87.slots[((0 : Int32)).toNatClampNeg]? = some (.int x0) := Has.at Hh87 hin87 rfl
  obtain ⟨cl88, Ar88, q88, Sz88, Nn88, Hh88, Gg88⟩ := (id G_A_ar)
  have hin88 : ¬ ((1 : Int32) < 0 ∨ cl88.slots.size ≤ ((1 : Int32)).toNatClampNeg) := inb_of Sz88 ⟨by decide, by decide⟩
  have hat88 : cl88.slots[((1 : Int32)).toNatClampNeg]? = some (.int x1) := Has.at Hh88 hin88 rfl
  obtain ⟨cl89, Ar89, q89, Sz89, Nn89, Hh89, Gg89⟩ := (id G_A_ar)
  have hin89 : ¬ ((2 : Int32) < 0 ∨ cl89.slots.size ≤ ((2 : Int32)).toNatClampNeg) := inb_of Sz89 ⟨by decide, by decide⟩
  have hat89 : cl89.slots[((2 : Int32)).toNatClampNeg]? = some (.int x2) := Has.at Hh89 hin89 rfl
  obtain ⟨cl90, Ar90, q90, Sz90, Nn90, Hh90, Gg90⟩ := (id G_A_ar)
  have hin90 : ¬ ((3 : Int32) < 0 ∨ cl90.slots.size ≤ ((3 : Int32)).toNatClampNeg) := inb_of Sz90 ⟨by decide, by decide⟩
  have hat90 : cl90.slots[((3 : Int32)).toNatClampNeg]? = some (.int x3) := Has.at Hh90 hin90 rfl
  obtain ⟨fs, hr, hrun, hended, hW, hsame⟩ := X0.leave (v := some (.int (own_byte (own_byte (own_byte (own_byte (0 : Int32) x0) x1) x2) x3))) (fun h => by rw [Bd.returns] at h; cases h)
  refine ⟨_, _, pre0 _ ?_, hrun, hended, _, _, rfl, ?_, ⟨_, rfl⟩, hW, hsame.mono (by decide) (by decide)⟩
  · show Steps p.tables e below (s₁.setTop (mkF m 0 #[.val (.ref ar), .unset, .unset, .unset, .unset, .unset, .unset] [])) _
    refine XS.iconst X0.here hx rfl (hb hby own_d_prog_22_method_2_code_0) ?_
    show Steps p.tables e below (s₁.setTop (mkF m 1 #[.val (.ref ar), .unset, .unset, .unset, .unset, .unset, .unset] [(.int (0 : Int32))])) _
    refine XS.istoreN X0.here hx rfl (hb hby own_d_prog_22_method_2_code_1) rfl (l' := #[.val (.ref ar), .val (.int (0 : Int32)), .unset, .unset, .unset, .unset, .unset]) rfl ?_
    show Steps p.tables e below (s₁.setTop (mkF m 2 #[.val (.ref ar), .val (.int (0 : Int32)), .unset, .unset, .unset, .unset, .unset] [])) _
    refine XS.aloadN X0.here hx rfl (hb hby own_d_prog_22_method_2_code_2) rfl rfl ?_
    show Steps p.tables e below (s₁.setTop (mkF m 3 #[.val (.ref ar), .val (.int (0 : Int32)), .unset, .unset, .unset, .unset, .unset] [(.ref ar)])) _
    refine XS.astoreN X0.here hx rfl (hb hby own_d_prog_22_method_2_code_3) rfl rfl (l' := #[.val (.ref ar), .val (.int (0 : Int32)), .val (.ref ar), .unset, .unset, .unset, .unset]) rfl ?_
    show Steps p.tables e below (s₁.setTop (mkF m 4 #[.val (.ref ar), .val (.int (0 : Int32)), .val (.ref ar), .unset, .unset, .unset, .unset] [])) _
    refine XS.aloadN X0.here hx rfl (hb hby own_d_prog_22_method_2_code_4) rfl rfl ?_
    show Steps p.tables e below (s₁.setTop (mkF m 5 #[.val (.ref ar), .val (.int (0 : Int32)), .val (.ref ar), .unset, .unset, .unset, .unset] [(.ref ar)])) _
    refine X0.arraylength hx (by rw [e0]; exact Ar86.1) (State.isArrayOf_alike hZ.alike Ar86.2.1) (g := (mkF m 5 #[.val (.ref ar), .val (.int (0 : Int32)), .val (.ref ar), .unset, .unset, .unset, .unset] [(.ref ar)])) rfl rfl (hb hby own_d_prog_22_method_2_code_5) _ ?_
    rw [len_of Sz86 Nn86]
    show Steps p.tables e below (s₁.setTop (mkF m 6 #[.val (.ref ar), .val (.int (0 : Int32)), .val (.ref ar), .unset, .unset, .unset, .unset] [(.int (4 : Int32))])) _
    refine XS.istoreN X0.here hx rfl (hb hby own_d_prog_22_method_2_code_6) rfl (l' := #[.val (.ref ar), .val (.int (0 : Int32)), .val (.ref ar), .val (.int (4 : Int32)), .unset, .unset, .unset]) rfl ?_
    show Steps p.tables e below (s₁.setTop (mkF m 7 #[.val (.ref ar), .val (.int (0 : Int32)), .val (.ref ar), .val (.int (4 : Int32)), .unset, .unset, .unset] [])) _
    refine XS.iconst X0.here hx rfl (hb hby own_d_prog_22_method_2_code_7) ?_
    show Steps p.tables e below (s₁.setTop (mkF m 8 #[.val (.ref ar), .val (.int (0 : Int32)), .val (.ref ar), .val (.int (4 : Int32)), .unset, .unset, .unset] [(.int (0 : Int32))])) _
    refine XS.istore X0.here hx rfl (hb hby own_d_prog_22_method_2_code_8) rfl (l' := #[.val (.ref ar), .val (.int (0 : Int32)), .val (.ref ar), .val (.int (4 : Int32)), .val (.int (0 : Int32)), .unset, .unset]) rfl ?_
    show Steps p.tables e below (s₁.setTop (mkF m 10 #[.val (.ref ar), .val (.int (0 : Int32)), .val (.ref ar), .val (.int (4 : Int32)), .val (.int (0 : Int32)), .unset, .unset] [])) _
    refine own_seg1 (Z := Z) (a0 := a0) ar cl87 (0 : Int32) (4 : Int32) (0 : Int32) x0 X0 hx hZ hw hby hml hown (by rw [e0]; exact Ar87) (by decide) hin87 hat87 _ ?_
    show Steps p.tables e below (s₁.setTop (mkF m 10 #[.val (.ref ar), .val (.int (own_byte (0 : Int32) x0)), .val (.ref ar), .val (.int (4 : Int32)), .val (.int (1 : Int32)), .val (.int x0), .val (.int (8 : Int32))] [])) _
    refine own_seg2 (Z := Z) (a0 := a0) ar cl88 (own_byte (0 : Int32) x0) (4 : Int32) (1 : Int32) x1 x0 (8 : Int32) X0 hx hZ hw hby hml hown (by rw [e0]; exact Ar88) (by decide) hin88 hat88 _ ?_
    show Steps p.tables e below (s₁.setTop (mkF m 10 #[.val (.ref ar), .val (.int (own_byte (own_byte (0 : Int32) x0) x1)), .val (.ref ar), .val (.int (4 : Int32)), .val (.int (2 : Int32)), .val (.int x1), .val (.int (8 : Int32))] [])) _
    refine own_seg2 (Z := Z) (a0 := a0) ar cl89 (own_byte (own_byte (0 : Int32) x0) x1) (4 : Int32) (2 : Int32) x2 x1 (8 : Int32) X0 hx hZ hw hby hml hown (by rw [e0]; exact Ar89) (by decide) hin89 hat89 _ ?_
    show Steps p.tables e below (s₁.setTop (mkF m 10 #[.val (.ref ar), .val (.int (own_byte (own_byte (own_byte (0 : Int32) x0) x1) x2)), .val (.ref ar), .val (.int (4 : Int32)), .val (.int (3 : Int32)), .val (.int x2), .val (.int (8 : Int32))] [])) _
    refine own_seg2 (Z := Z) (a0 := a0) ar cl90 (own_byte (own_byte (own_byte (0 : Int32) x0) x1) x2) (4 : Int32) (3 : Int32) x3 x2 (8 : Int32) X0 hx hZ hw hby hml hown (by rw [e0]; exact Ar90) (by decide) hin90 hat90 _ ?_
    show Steps p.tables e below (s₁.setTop (mkF m 10 #[.val (.ref ar), .val (.int (own_byte (own_byte (own_byte (own_byte (0 : Int32) x0) x1) x2) x3)), .val (.ref ar), .val (.int (4 : Int32)), .val (.int (4 : Int32)), .val (.int x3), .val (.int (8 : Int32))] [])) _
    refine XS.iload X0.here hx rfl (hb hby own_d_prog_22_method_2_code_10) rfl ?_
    show Steps p.tables e below (s₁.setTop (mkF m 12 #[.val (.ref ar), .val (.int (own_byte (own_byte (own_byte (own_byte (0 : Int32) x0) x1) x2) x3)), .val (.ref ar), .val (.int (4 : Int32)), .val (.int (4 : Int32)), .val (.int x3), .val (.int (8 : Int32))] [(.int (4 : Int32))])) _
    refine XS.iloadN X0.here hx rfl (hb hby own_d_prog_22_method_2_code_12) rfl ?_
    show Steps p.tables e below (s₁.setTop (mkF m 13 #[.val (.ref ar), .val (.int (own_byte (own_byte (own_byte (own_byte (0 : Int32) x0) x1) x2) x3)), .val (.ref ar), .val (.int (4 : Int32)), .val (.int (4 : Int32)), .val (.int x3), .val (.int (8 : Int32))] [(.int (4 : Int32)), (.int (4 : Int32))])) _
    refine XS.icmpYes X0.here hx rfl (pc0 := 13) (pc' := 73) rfl (hb hby own_d_prog_22_method_2_code_13) rfl (flt (by decide : ¬ ((4 : Int32) < (4 : Int32)))).2.1 (by decide) (by decide) ?_
    show Steps p.tables e below (s₁.setTop (mkF m 73 #[.val (.ref ar), .val (.int (own_byte (own_byte (own_byte (own_byte (0 : Int32) x0) x1) x2) x3)), .val (.ref ar), .val (.int (4 : Int32)), .val (.int (4 : Int32)), .val (.int x3), .val (.int (8 : Int32))] [])) _
    refine XS.iloadN X0.here hx rfl (hb hby own_d_prog_22_method_2_code_73) rfl ?_
    show Steps p.tables e below (s₁.setTop (mkF m 74 #[.val (.ref ar), .val (.int (own_byte (own_byte (own_byte (own_byte (0 : Int32) x0) x1) x2) x3)), .val (.ref ar), .val (.int (4 : Int32)), .val (.int (4 : Int32)), .val (.int x3), .val (.int (8 : Int32))] [(.int (own_byte (own_byte (own_byte (own_byte (0 : Int32) x0) x1) x2) x3))])) _
    exact retI X0 hx Bd.returns (hb hby own_d_prog_22_method_2_code_74) hr
  · show PQ (some (.int (own_byte (own_byte (own_byte (own_byte (0 : Int32) x0) x1) x2) x3))) h0 n0 _ s₁.heap _
    rw [e0]
    exact ⟨rfl, N0, rfl⟩
theorem own_ef_rmA6 (m : MethodId) (x0 : Int32) (x1 : Int32) (x2 : Int32) (x3 : Int32) (x4 : Int32) (x5 : Int32)  (ar : Addr) (ka : ClassId) : entryFrame m #[(.ref ar)] 7 = mkF m 0 #[.val (.ref ar), .unset, .unset, .unset, .unset, .unset, .unset] [] := by first | (simp [entryFrame, mkF, argsToLocals, Value.category, maxLocals]; done) | rfl
set_option maxRecDepth 65536 in
set_option maxHeartbeats 40000000 in
theorem rmA6 (l : Launch) (Z : State) (a0 : Array Value) (hw : ∀ d ∈ tables_1, d.before a0 Z = true) (ws : List Jvm.Cond) (h0 : Heap) (n0 : Nat) (x0 : Int32) (x1 : Int32) (x2 : Int32) (x3 : Int32) (x4 : Int32) (x5 : Int32)  (ar : Addr) (ka : ClassId) (OL0 : Old Z n0 h0) (G_A_ar : Arv Z h0 ar ka .byte (6 : Int32) [(.int x0), (.int x1), (.int x2), (.int x3), (.int x4), (.int x5)] (.int (0 : Int32))) :
    MetFree l (⟨"com/example/dongl/dongl/crypto/Crc16", "arc", "([B)I"⟩ : MethodName) (head1 (Jvm.Cond.code (⟨"com/example/dongl/dongl/crypto/Crc16", "arc", "([B)I"⟩ : MethodName) prog_22_method_2_code 7 (some .int) :: ws) ({ frames := 0, cells := 0, slots := 0, locals := 0 } : Room)) (fun a U => a = #[(.ref ar)] ∧ Z.Warmed39 U.vm ∧ U.heap = h0) (fun _ _ _ _ _ => True) (fun _ U o U' => ∃ v L, o = .returned v ∧ (PQ (some (.int (own_byte (own_byte (own_byte (own_byte (own_byte (own_byte (0 : Int32) x0) x1) x2) x3) x4) x5))) h0 n0) v U'.heap L ∧ FrameEnd U o U' L ({ frames := 0, cells := 0, slots := 0, locals := 0 } : Room).cells ({ frames := 0, cells := 0, slots := 0, locals := 0 } : Room).slots) := by
  refine MetFree.of_bodySF (plainFor_of_name own_pn1) hisR ?_
  intro p e s m args below meth c s₁ Bd hml0 hP hK
  obtain ⟨rfl, hZ, hh⟩ := hP
  have hx := Bd.exec
  have hby := Bd.bytes
  have hml : c.maxLocals = 7 := hml0
  have hown : s.vm.findClass "com/example/dongl/dongl/crypto/Crc16" = some m.cls := findClass_of_methodNamed Bd.named
  have hnm := (name_of_methodNamed Bd.named Bd.method).1
  have X0 : Stand p l e ({ frames := 0, cells := 0, slots := 0, locals := 0 } : Room) s m #[(.ref ar)] below meth c s₁ [] 0 0 := Stand.of_body Bd
  have e0 : s₁.heap = h0 := by rw [← hh, Bd.state]; rfl
  have N0 := Fr.nil n0
  have pre0 : ∀ t, Steps p.tables e below (s₁.setTop (mkF m 0 #[.val (.ref ar), .unset, .unset, .unset, .unset, .unset, .unset] [])) t → Steps p.tables e below (s₁.setTop (entryFrame m #[(.ref ar)] 7)) t := fun t k => castTop (own_ef_rmA6 m x0 x1 x2 x3 x4 x5 ar ka) k
  have KK0 : Keep h0 h0 [] := Keep.refl _ _
  obtain ⟨cl91, Ar91, -, Sz91, Nn91, -, -⟩ := (id G_A_ar)
  obtain ⟨cl92, Ar92, q92, Sz92, Nn92, Hh92, Gg92⟩ := (id G_A_ar)
  have hin92 : ¬ ((0 : Int32) < 0 ∨ cl92.slots.size ≤ ((0 : Int32)).toNatClampNeg) := inb_of Sz92 ⟨by decide, by decide⟩
  have hat92 : cl92.slots[((0 : Int32)).toNatClampNeg]? = some (.int x0) := Has.at Hh92 hin92 rfl
  obtain ⟨cl93, Ar93, q93, Sz93, Nn93, Hh93, Gg93⟩ := (id G_A_ar)
  have hin93 : ¬ ((1 : Int32) < 0 ∨ cl93.slots.size ≤ ((1 : Int32)).toNatClampNeg) := inb_of Sz93 ⟨by decide, by decide⟩
  have hat93 : cl93.slots[((1 : Int32)).toNatClampNeg]? = some (.int x1) := Has.at Hh93 hin93 rfl
  obtain ⟨cl94, Ar94, q94, Sz94, Nn94, Hh94, Gg94⟩ := (id G_A_ar)
  have hin94 : ¬ ((2 : Int32) < 0 ∨ cl94.slots.size ≤ ((2 : Int32)).toNatClampNeg) := inb_of Sz94 ⟨by decide, by decide⟩
  have hat94 : cl94.slots[((2 : Int32)).toNatClampNeg]? = some (.int x2) := Has.at Hh94 hin94 rfl
  obtain ⟨cl95, Ar95, q95, Sz95, Nn95, Hh95, Gg95⟩ := (id G_A_ar)
  have hin95 : ¬ ((3 : Int32) < 0 ∨ cl95.slots.size ≤ ((3 : Int32)).toNatClampNeg) := inb_of Sz95 ⟨by decide, by decide⟩
  have hat95 : cl95.slots[((3 : Int32)).toNatClampNeg]? = some (.int x3) := Has.at Hh95 hin95 rfl
  obtain ⟨cl96, Ar96, q96, Sz96, Nn96, Hh96, Gg96⟩ := (id G_A_ar)
  have hin96 : ¬ ((4 : Int32) < 0 ∨ cl96.slots.size ≤ ((4 : Int32)).toNatClampNeg) := inb_of Sz96 ⟨by decide, by decide⟩
  have hat96 : cl96.slots[((4 : Int32)).toNatClampNeg]? = some (.int x4) := Has.at Hh96 hin96 rfl
  obtain ⟨cl97, Ar97, q97, Sz97, Nn97, Hh97, Gg97⟩ := (id G_A_ar)
  have hin97 : ¬ ((5 : Int32) < 0 ∨ cl97.slots.size ≤ ((5 : Int32)).toNatClampNeg) := inb_of Sz97 ⟨by decide, by decide⟩
  have hat97 : cl97.slots[((5 : Int32)).toNatClampNeg]? = some (.int x5) := Has.at Hh97 hin97 rfl
  obtain ⟨fs, hr, hrun, hended, hW, hsame⟩ := X0.leave (v := some (.int (own_byte (own_byte (own_byte (own_byte (own_byte (own_byte (0 : Int32) x0) x1) x2) x3) x4) x5))) (fun h => by rw [Bd.returns] at h; cases h)
  refine ⟨_, _, pre0 _ ?_, hrun, hended, _, _, rfl, ?_, ⟨_, rfl⟩, hW, hsame.mono (by decide) (by decide)⟩
  · show Steps p.tables e below (s₁.setTop (mkF m 0 #[.val (.ref ar), .unset, .unset, .unset, .unset, .unset, .unset] [])) _
    refine XS.iconst X0.here hx rfl (hb hby own_d_prog_22_method_2_code_0) ?_
    show Steps p.tables e below (s₁.setTop (mkF m 1 #[.val (.ref ar), .unset, .unset, .unset, .unset, .unset, .unset] [(.int (0 : Int32))])) _
    refine XS.istoreN X0.here hx rfl (hb hby own_d_prog_22_method_2_code_1) rfl (l' := #[.val (.ref ar), .val (.int (0 : Int32)), .unset, .unset, .unset, .unset, .unset]) rfl ?_
    show Steps p.tables e below (s₁.setTop (mkF m 2 #[.val (.ref ar), .val (.int (0 : Int32)), .unset, .unset, .unset, .unset, .unset] [])) _
    refine XS.aloadN X0.here hx rfl (hb hby own_d_prog_22_method_2_code_2) rfl rfl ?_
    show Steps p.tables e below (s₁.setTop (mkF m 3 #[.val (.ref ar), .val (.int (0 : Int32)), .unset, .unset, .unset, .unset, .unset] [(.ref ar)])) _
    refine XS.astoreN X0.here hx rfl (hb hby own_d_prog_22_method_2_code_3) rfl rfl (l' := #[.val (.ref ar), .val (.int (0 : Int32)), .val (.ref ar), .unset, .unset, .unset, .unset]) rfl ?_
    show Steps p.tables e below (s₁.setTop (mkF m 4 #[.val (.ref ar), .val (.int (0 : Int32)), .val (.ref ar), .unset, .unset, .unset, .unset] [])) _
    refine XS.aloadN X0.here hx rfl (hb hby own_d_prog_22_method_2_code_4) rfl rfl ?_
    show Steps p.tables e below (s₁.setTop (mkF m 5 #[.val (.ref ar), .val (.int (0 : Int32)), .val (.ref ar), .unset, .unset, .unset, .unset] [(.ref ar)])) _
    refine X0.arraylength hx (by rw [e0]; exact Ar91.1) (State.isArrayOf_alike hZ.alike Ar91.2.1) (g := (mkF m 5 #[.val (.ref ar), .val (.int (0 : Int32)), .val (.ref ar), .unset, .unset, .unset, .unset] [(.ref ar)])) rfl rfl (hb hby own_d_prog_22_method_2_code_5) _ ?_
    rw [len_of Sz91 Nn91]
    show Steps p.tables e below (s₁.setTop (mkF m 6 #[.val (.ref ar), .val (.int (0 : Int32)), .val (.ref ar), .unset, .unset, .unset, .unset] [(.int (6 : Int32))])) _
    refine XS.istoreN X0.here hx rfl (hb hby own_d_prog_22_method_2_code_6) rfl (l' := #[.val (.ref ar), .val (.int (0 : Int32)), .val (.ref ar), .val (.int (6 : Int32)), .unset, .unset, .unset]) rfl ?_
    show Steps p.tables e below (s₁.setTop (mkF m 7 #[.val (.ref ar), .val (.int (0 : Int32)), .val (.ref ar), .val (.int (6 : Int32)), .unset, .unset, .unset] [])) _
    refine XS.iconst X0.here hx rfl (hb hby own_d_prog_22_method_2_code_7) ?_
    show Steps p.tables e below (s₁.setTop (mkF m 8 #[.val (.ref ar), .val (.int (0 : Int32)), .val (.ref ar), .val (.int (6 : Int32)), .unset, .unset, .unset] [(.int (0 : Int32))])) _
    refine XS.istore X0.here hx rfl (hb hby own_d_prog_22_method_2_code_8) rfl (l' := #[.val (.ref ar), .val (.int (0 : Int32)), .val (.ref ar), .val (.int (6 : Int32)), .val (.int (0 : Int32)), .unset, .unset]) rfl ?_
    show Steps p.tables e below (s₁.setTop (mkF m 10 #[.val (.ref ar), .val (.int (0 : Int32)), .val (.ref ar), .val (.int (6 : Int32)), .val (.int (0 : Int32)), .unset, .unset] [])) _
    refine own_seg1 (Z := Z) (a0 := a0) ar cl92 (0 : Int32) (6 : Int32) (0 : Int32) x0 X0 hx hZ hw hby hml hown (by rw [e0]; exact Ar92) (by decide) hin92 hat92 _ ?_
    show Steps p.tables e below (s₁.setTop (mkF m 10 #[.val (.ref ar), .val (.int (own_byte (0 : Int32) x0)), .val (.ref ar), .val (.int (6 : Int32)), .val (.int (1 : Int32)), .val (.int x0), .val (.int (8 : Int32))] [])) _
    refine own_seg2 (Z := Z) (a0 := a0) ar cl93 (own_byte (0 : Int32) x0) (6 : Int32) (1 : Int32) x1 x0 (8 : Int32) X0 hx hZ hw hby hml hown (by rw [e0]; exact Ar93) (by decide) hin93 hat93 _ ?_
    show Steps p.tables e below (s₁.setTop (mkF m 10 #[.val (.ref ar), .val (.int (own_byte (own_byte (0 : Int32) x0) x1)), .val (.ref ar), .val (.int (6 : Int32)), .val (.int (2 : Int32)), .val (.int x1), .val (.int (8 : Int32))] [])) _
    refine own_seg2 (Z := Z) (a0 := a0) ar cl94 (own_byte (own_byte (0 : Int32) x0) x1) (6 : Int32) (2 : Int32) x2 x1 (8 : Int32) X0 hx hZ hw hby hml hown (by rw [e0]; exact Ar94) (by decide) hin94 hat94 _ ?_
    show Steps p.tables e below (s₁.setTop (mkF m 10 #[.val (.ref ar), .val (.int (own_byte (own_byte (own_byte (0 : Int32) x0) x1) x2)), .val (.ref ar), .val (.int (6 : Int32)), .val (.int (3 : Int32)), .val (.int x2), .val (.int (8 : Int32))] [])) _
    refine own_seg2 (Z := Z) (a0 := a0) ar cl95 (own_byte (own_byte (own_byte (0 : Int32) x0) x1) x2) (6 : Int32) (3 : Int32) x3 x2 (8 : Int32) X0 hx hZ hw hby hml hown (by rw [e0]; exact Ar95) (by decide) hin95 hat95 _ ?_
    show Steps p.tables e below (s₁.setTop (mkF m 10 #[.val (.ref ar), .val (.int (own_byte (own_byte (own_byte (own_byte (0 : Int32) x0) x1) x2) x3)), .val (.ref ar), .val (.int (6 : Int32)), .val (.int (4 : Int32)), .val (.int x3), .val (.int (8 : Int32))] [])) _
    refine own_seg2 (Z := Z) (a0 := a0) ar cl96 (own_byte (own_byte (own_byte (own_byte (0 : Int32) x0) x1) x2) x3) (6 : Int32) (4 : Int32) x4 x3 (8 : Int32) X0 hx hZ hw hby hml hown (by rw [e0]; exact Ar96) (by decide) hin96 hat96 _ ?_
    show Steps p.tables e below (s₁.setTop (mkF m 10 #[.val (.ref ar), .val (.int (own_byte (own_byte (own_byte (own_byte (own_byte (0 : Int32) x0) x1) x2) x3) x4)), .val (.ref ar), .val (.int (6 : Int32)), .val (.int (5 : Int32)), .val (.int x4), .val (.int (8 : Int32))] [])) _
    refine own_seg2 (Z := Z) (a0 := a0) ar cl97 (own_byte (own_byte (own_byte (own_byte (own_byte (0 : Int32) x0) x1) x2) x3) x4) (6 : Int32) (5 : Int32) x5 x4 (8 : Int32) X0 hx hZ hw hby hml hown (by rw [e0]; exact Ar97) (by decide) hin97 hat97 _ ?_
    show Steps p.tables e below (s₁.setTop (mkF m 10 #[.val (.ref ar), .val (.int (own_byte (own_byte (own_byte (own_byte (own_byte (own_byte (0 : Int32) x0) x1) x2) x3) x4) x5)), .val (.ref ar), .val (.int (6 : Int32)), .val (.int (6 : Int32)), .val (.int x5), .val (.int (8 : Int32))] [])) _
    refine XS.iload X0.here hx rfl (hb hby own_d_prog_22_method_2_code_10) rfl ?_
    show Steps p.tables e below (s₁.setTop (mkF m 12 #[.val (.ref ar), .val (.int (own_byte (own_byte (own_byte (own_byte (own_byte (own_byte (0 : Int32) x0) x1) x2) x3) x4) x5)), .val (.ref ar), .val (.int (6 : Int32)), .val (.int (6 : Int32)), .val (.int x5), .val (.int (8 : Int32))] [(.int (6 : Int32))])) _
    refine XS.iloadN X0.here hx rfl (hb hby own_d_prog_22_method_2_code_12) rfl ?_
    show Steps p.tables e below (s₁.setTop (mkF m 13 #[.val (.ref ar), .val (.int (own_byte (own_byte (own_byte (own_byte (own_byte (own_byte (0 : Int32) x0) x1) x2) x3) x4) x5)), .val (.ref ar), .val (.int (6 : Int32)), .val (.int (6 : Int32)), .val (.int x5), .val (.int (8 : Int32))] [(.int (6 : Int32)), (.int (6 : Int32))])) _
    refine XS.icmpYes X0.here hx rfl (pc0 := 13) (pc' := 73) rfl (hb hby own_d_prog_22_method_2_code_13) rfl (flt (by decide : ¬ ((6 : Int32) < (6 : Int32)))).2.1 (by decide) (by decide) ?_
    show Steps p.tables e below (s₁.setTop (mkF m 73 #[.val (.ref ar), .val (.int (own_byte (own_byte (own_byte (own_byte (own_byte (own_byte (0 : Int32) x0) x1) x2) x3) x4) x5)), .val (.ref ar), .val (.int (6 : Int32)), .val (.int (6 : Int32)), .val (.int x5), .val (.int (8 : Int32))] [])) _
    refine XS.iloadN X0.here hx rfl (hb hby own_d_prog_22_method_2_code_73) rfl ?_
    show Steps p.tables e below (s₁.setTop (mkF m 74 #[.val (.ref ar), .val (.int (own_byte (own_byte (own_byte (own_byte (own_byte (own_byte (0 : Int32) x0) x1) x2) x3) x4) x5)), .val (.ref ar), .val (.int (6 : Int32)), .val (.int (6 : Int32)), .val (.int x5), .val (.int (8 : Int32))] [(.int (own_byte (own_byte (own_byte (own_byte (own_byte (own_byte (0 : Int32) x0) x1) x2) x3) x4) x5))])) _
    exact retI X0 hx Bd.returns (hb hby own_d_prog_22_method_2_code_74) hr
  · show PQ (some (.int (own_byte (own_byte (own_byte (own_byte (own_byte (own_byte (0 : Int32) x0) x1) x2) x3) x4) x5))) h0 n0 _ s₁.heap _
    rw [e0]
    exact ⟨rfl, N0, rfl⟩
theorem own_ef_rmA9 (m : MethodId) (x0 : Int32) (x1 : Int32) (x2 : Int32) (x3 : Int32) (x4 : Int32) (x5 : Int32) (x6 : Int32) (x7 : Int32) (x8 : Int32)  (ar : Addr) (ka : ClassId) : entryFrame m #[(.ref ar)] 7 = mkF m 0 #[.val (.ref ar), .unset, .unset, .unset, .unset, .unset, .unset] [] := by first | (simp [entryFrame, mkF, argsToLocals, Value.category, maxLocals]; done) | rfl
set_option maxRecDepth 65536 in
set_option maxHeartbeats 40000000 in
theorem rmA9 (l : Launch) (Z : State) (a0 : Array Value) (hw : ∀ d ∈ tables_1, d.before a0 Z = true) (ws : List Jvm.Cond) (h0 : Heap) (n0 : Nat) (x0 : Int32) (x1 : Int32) (x2 : Int32) (x3 : Int32) (x4 : Int32) (x5 : Int32) (x6 : Int32) (x7 : Int32) (x8 : Int32)  (ar : Addr) (ka : ClassId) (OL0 : Old Z n0 h0) (G_A_ar : Arv Z h0 ar ka .byte (9 : Int32) [(.int x0), (.int x1), (.int x2), (.int x3), (.int x4), (.int x5), (.int x6), (.int x7), (.int x8)] (.int (0 : Int32))) :
    MetFree l (⟨"com/example/dongl/dongl/crypto/Crc16", "arc", "([B)I"⟩ : MethodName) (head1 (Jvm.Cond.code (⟨"com/example/dongl/dongl/crypto/Crc16", "arc", "([B)I"⟩ : MethodName) prog_22_method_2_code 7 (some .int) :: ws) ({ frames := 0, cells := 0, slots := 0, locals := 0 } : Room)) (fun a U => a = #[(.ref ar)] ∧ Z.Warmed39 U.vm ∧ U.heap = h0) (fun _ _ _ _ _ => True) (fun _ U o U' => ∃ v L, o = .returned v ∧ (PQ (some (.int (own_byte (own_byte (own_byte (own_byte (own_byte (own_byte (own_byte (own_byte (own_byte (0 : Int32) x0) x1) x2) x3) x4) x5) x6) x7) x8))) h0 n0) v U'.heap L ∧ FrameEnd U o U' L ({ frames := 0, cells := 0, slots := 0, locals := 0 } : Room).cells ({ frames := 0, cells := 0, slots := 0, locals := 0 } : Room).slots) := by
  refine MetFree.of_bodySF (plainFor_of_name own_pn1) hisR ?_
  intro p e s m args below meth c s₁ Bd hml0 hP hK
  obtain ⟨rfl, hZ, hh⟩ := hP
  have hx := Bd.exec
  have hby := Bd.bytes
  have hml : c.maxLocals = 7 := hml0
  have hown : s.vm.findClass "com/example/dongl/dongl/crypto/Crc16" = some m.cls := findClass_of_methodNamed Bd.named
  have hnm := (name_of_methodNamed Bd.named Bd.method).1
  have X0 : Stand p l e ({ frames := 0, cells := 0, slots := 0, locals := 0 } : Room) s m #[(.ref ar)] below meth c s₁ [] 0 0 := Stand.of_body Bd
  have e0 : s₁.heap = h0 := by rw [← hh, Bd.state]; rfl
  have N0 := Fr.nil n0
  have pre0 : ∀ t, Steps p.tables e below (s₁.setTop (mkF m 0 #[.val (.ref ar), .unset, .unset, .unset, .unset, .unset, .unset] [])) t → Steps p.tables e below (s₁.setTop (entryFrame m #[(.ref ar)] 7)) t := fun t k => castTop (own_ef_rmA9 m x0 x1 x2 x3 x4 x5 x6 x7 x8 ar ka) k
  have KK0 : Keep h0 h0 [] := Keep.refl _ _
  obtain ⟨cl98, Ar98, -, Sz98, Nn98, -, -⟩ := (id G_A_ar)
  obtain ⟨cl99, Ar99, q99, Sz99, Nn99, Hh99, Gg99⟩ := (id G_A_ar)
  have hin99 : ¬ ((0 : Int32) < 0 ∨ cl99.slots.size ≤ ((0 : Int32)).toNatClampNeg) := inb_of Sz99 ⟨by decide, by decide⟩
  have hat99 : cl99.slots[((0 : Int32)).toNatClampNeg]? = some (.int x0) := Has.at Hh99 hin99 rfl
  obtain ⟨cl100, Ar100, q100, Sz100, Nn100, Hh100, Gg100⟩ := (id G_A_ar)
  have hin100 : ¬ ((1 : Int32) < 0 ∨ cl100.slots.size ≤ ((1 : Int32)).toNatClampNeg) := inb_of Sz100 ⟨by decide, by decide⟩
  have hat100 : cl100.slots[((1 : Int32)).toNatClampNeg]? = some (.int x1) := Has.at Hh100 hin100 rfl
  obtain ⟨cl101, Ar101, q101, Sz101, Nn101, Hh101, Gg101⟩ := (id G_A_ar)
  have hin101 : ¬ ((2 : Int32) < 0 ∨ cl101.slots.size ≤ ((2 : Int32)).toNatClampNeg) := inb_of Sz101 ⟨by decide, by decide⟩
  have hat101 : cl101.slots[((2 : Int32)).toNatClampNeg]? = some (.int x2) := Has.at Hh101 hin101 rfl
  obtain ⟨cl102, Ar102, q102, Sz102, Nn102, Hh102, Gg102⟩ := (id G_A_ar)
  have hin102 : ¬ ((3 : Int32) < 0 ∨ cl102.slots.size ≤ ((3 : Int32)).toNatClampNeg) := inb_of Sz102 ⟨by decide, by decide⟩
  have hat102 : cl102.slots[((3 : Int32)).toNatClampNeg]? = some (.int x3) := Has.at Hh102 hin102 rfl
  obtain ⟨cl103, Ar103, q103, Sz103, Nn103, Hh103, Gg103⟩ := (id G_A_ar)
  have hin103 : ¬ ((4 : Int32) < 0 ∨ cl103.slots.size ≤ ((4 : Int32)).toNatClampNeg) := inb_of Sz103 ⟨by decide, by decide⟩
  have hat103 : cl103.slots[((4 : Int32)).toNatClampNeg]? = some (.int x4) := Has.at Hh103 hin103 rfl
  obtain ⟨cl104, Ar104, q104, Sz104, Nn104, Hh104, Gg104⟩ := (id G_A_ar)
  have hin104 : ¬ ((5 : Int32) < 0 ∨ cl104.slots.size ≤ ((5 : Int32)).toNatClampNeg) := inb_of Sz104 ⟨by decide, by decide⟩
  have hat104 : cl104.slots[((5 : Int32)).toNatClampNeg]? = some (.int x5) := Has.at Hh104 hin104 rfl
  obtain ⟨cl105, Ar105, q105, Sz105, Nn105, Hh105, Gg105⟩ := (id G_A_ar)
  have hin105 : ¬ ((6 : Int32) < 0 ∨ cl105.slots.size ≤ ((6 : Int32)).toNatClampNeg) := inb_of Sz105 ⟨by decide, by decide⟩
  have hat105 : cl105.slots[((6 : Int32)).toNatClampNeg]? = some (.int x6) := Has.at Hh105 hin105 rfl
  obtain ⟨cl106, Ar106, q106, Sz106, Nn106, Hh106, Gg106⟩ := (id G_A_ar)
  have hin106 : ¬ ((7 : Int32) < 0 ∨ cl106.slots.size ≤ ((7 : Int32)).toNatClampNeg) := inb_of Sz106 ⟨by decide, by decide⟩
  have hat106 : cl106.slots[((7 : Int32)).toNatClampNeg]? = some (.int x7) := Has.at Hh106 hin106 rfl
  obtain ⟨cl107, Ar107, q107, Sz107, Nn107, Hh107, Gg107⟩ := (id G_A_ar)
  have hin107 : ¬ ((8 : Int32) < 0 ∨ cl107.slots.size ≤ ((8 : Int32)).toNatClampNeg) := inb_of Sz107 ⟨by decide, by decide⟩
  have hat107 : cl107.slots[((8 : Int32)).toNatClampNeg]? = some (.int x8) := Has.at Hh107 hin107 rfl
  obtain ⟨fs, hr, hrun, hended, hW, hsame⟩ := X0.leave (v := some (.int (own_byte (own_byte (own_byte (own_byte (own_byte (own_byte (own_byte (own_byte (own_byte (0 : Int32) x0) x1) x2) x3) x4) x5) x6) x7) x8))) (fun h => by rw [Bd.returns] at h; cases h)
  refine ⟨_, _, pre0 _ ?_, hrun, hended, _, _, rfl, ?_, ⟨_, rfl⟩, hW, hsame.mono (by decide) (by decide)⟩
  · show Steps p.tables e below (s₁.setTop (mkF m 0 #[.val (.ref ar), .unset, .unset, .unset, .unset, .unset, .unset] [])) _
    refine XS.iconst X0.here hx rfl (hb hby own_d_prog_22_method_2_code_0) ?_
    show Steps p.tables e below (s₁.setTop (mkF m 1 #[.val (.ref ar), .unset, .unset, .unset, .unset, .unset, .unset] [(.int (0 : Int32))])) _
    refine XS.istoreN X0.here hx rfl (hb hby own_d_prog_22_method_2_code_1) rfl (l' := #[.val (.ref ar), .val (.int (0 : Int32)), .unset, .unset, .unset, .unset, .unset]) rfl ?_
    show Steps p.tables e below (s₁.setTop (mkF m 2 #[.val (.ref ar), .val (.int (0 : Int32)), .unset, .unset, .unset, .unset, .unset] [])) _
    refine XS.aloadN X0.here hx rfl (hb hby own_d_prog_22_method_2_code_2) rfl rfl ?_
    show Steps p.tables e below (s₁.setTop (mkF m 3 #[.val (.ref ar), .val (.int (0 : Int32)), .unset, .unset, .unset, .unset, .unset] [(.ref ar)])) _
    refine XS.astoreN X0.here hx rfl (hb hby own_d_prog_22_method_2_code_3) rfl rfl (l' := #[.val (.ref ar), .val (.int (0 : Int32)), .val (.ref ar), .unset, .unset, .unset, .unset]) rfl ?_
    show Steps p.tables e below (s₁.setTop (mkF m 4 #[.val (.ref ar), .val (.int (0 : Int32)), .val (.ref ar), .unset, .unset, .unset, .unset] [])) _
    refine XS.aloadN X0.here hx rfl (hb hby own_d_prog_22_method_2_code_4) rfl rfl ?_
    show Steps p.tables e below (s₁.setTop (mkF m 5 #[.val (.ref ar), .val (.int (0 : Int32)), .val (.ref ar), .unset, .unset, .unset, .unset] [(.ref ar)])) _
    refine X0.arraylength hx (by rw [e0]; exact Ar98.1) (State.isArrayOf_alike hZ.alike Ar98.2.1) (g := (mkF m 5 #[.val (.ref ar), .val (.int (0 : Int32)), .val (.ref ar), .unset, .unset, .unset, .unset] [(.ref ar)])) rfl rfl (hb hby own_d_prog_22_method_2_code_5) _ ?_
    rw [len_of Sz98 Nn98]
    show Steps p.tables e below (s₁.setTop (mkF m 6 #[.val (.ref ar), .val (.int (0 : Int32)), .val (.ref ar), .unset, .unset, .unset, .unset] [(.int (9 : Int32))])) _
    refine XS.istoreN X0.here hx rfl (hb hby own_d_prog_22_method_2_code_6) rfl (l' := #[.val (.ref ar), .val (.int (0 : Int32)), .val (.ref ar), .val (.int (9 : Int32)), .unset, .unset, .unset]) rfl ?_
    show Steps p.tables e below (s₁.setTop (mkF m 7 #[.val (.ref ar), .val (.int (0 : Int32)), .val (.ref ar), .val (.int (9 : Int32)), .unset, .unset, .unset] [])) _
    refine XS.iconst X0.here hx rfl (hb hby own_d_prog_22_method_2_code_7) ?_
    show Steps p.tables e below (s₁.setTop (mkF m 8 #[.val (.ref ar), .val (.int (0 : Int32)), .val (.ref ar), .val (.int (9 : Int32)), .unset, .unset, .unset] [(.int (0 : Int32))])) _
    refine XS.istore X0.here hx rfl (hb hby own_d_prog_22_method_2_code_8) rfl (l' := #[.val (.ref ar), .val (.int (0 : Int32)), .val (.ref ar), .val (.int (9 : Int32)), .val (.int (0 : Int32)), .unset, .unset]) rfl ?_
    show Steps p.tables e below (s₁.setTop (mkF m 10 #[.val (.ref ar), .val (.int (0 : Int32)), .val (.ref ar), .val (.int (9 : Int32)), .val (.int (0 : Int32)), .unset, .unset] [])) _
    refine own_seg1 (Z := Z) (a0 := a0) ar cl99 (0 : Int32) (9 : Int32) (0 : Int32) x0 X0 hx hZ hw hby hml hown (by rw [e0]; exact Ar99) (by decide) hin99 hat99 _ ?_
    show Steps p.tables e below (s₁.setTop (mkF m 10 #[.val (.ref ar), .val (.int (own_byte (0 : Int32) x0)), .val (.ref ar), .val (.int (9 : Int32)), .val (.int (1 : Int32)), .val (.int x0), .val (.int (8 : Int32))] [])) _
    refine own_seg2 (Z := Z) (a0 := a0) ar cl100 (own_byte (0 : Int32) x0) (9 : Int32) (1 : Int32) x1 x0 (8 : Int32) X0 hx hZ hw hby hml hown (by rw [e0]; exact Ar100) (by decide) hin100 hat100 _ ?_
    show Steps p.tables e below (s₁.setTop (mkF m 10 #[.val (.ref ar), .val (.int (own_byte (own_byte (0 : Int32) x0) x1)), .val (.ref ar), .val (.int (9 : Int32)), .val (.int (2 : Int32)), .val (.int x1), .val (.int (8 : Int32))] [])) _
    refine own_seg2 (Z := Z) (a0 := a0) ar cl101 (own_byte (own_byte (0 : Int32) x0) x1) (9 : Int32) (2 : Int32) x2 x1 (8 : Int32) X0 hx hZ hw hby hml hown (by rw [e0]; exact Ar101) (by decide) hin101 hat101 _ ?_
    show Steps p.tables e below (s₁.setTop (mkF m 10 #[.val (.ref ar), .val (.int (own_byte (own_byte (own_byte (0 : Int32) x0) x1) x2)), .val (.ref ar), .val (.int (9 : Int32)), .val (.int (3 : Int32)), .val (.int x2), .val (.int (8 : Int32))] [])) _
    refine own_seg2 (Z := Z) (a0 := a0) ar cl102 (own_byte (own_byte (own_byte (0 : Int32) x0) x1) x2) (9 : Int32) (3 : Int32) x3 x2 (8 : Int32) X0 hx hZ hw hby hml hown (by rw [e0]; exact Ar102) (by decide) hin102 hat102 _ ?_
    show Steps p.tables e below (s₁.setTop (mkF m 10 #[.val (.ref ar), .val (.int (own_byte (own_byte (own_byte (own_byte (0 : Int32) x0) x1) x2) x3)), .val (.ref ar), .val (.int (9 : Int32)), .val (.int (4 : Int32)), .val (.int x3), .val (.int (8 : Int32))] [])) _
    refine own_seg2 (Z := Z) (a0 := a0) ar cl103 (own_byte (own_byte (own_byte (own_byte (0 : Int32) x0) x1) x2) x3) (9 : Int32) (4 : Int32) x4 x3 (8 : Int32) X0 hx hZ hw hby hml hown (by rw [e0]; exact Ar103) (by decide) hin103 hat103 _ ?_
    show Steps p.tables e below (s₁.setTop (mkF m 10 #[.val (.ref ar), .val (.int (own_byte (own_byte (own_byte (own_byte (own_byte (0 : Int32) x0) x1) x2) x3) x4)), .val (.ref ar), .val (.int (9 : Int32)), .val (.int (5 : Int32)), .val (.int x4), .val (.int (8 : Int32))] [])) _
    refine own_seg2 (Z := Z) (a0 := a0) ar cl104 (own_byte (own_byte (own_byte (own_byte (own_byte (0 : Int32) x0) x1) x2) x3) x4) (9 : Int32) (5 : Int32) x5 x4 (8 : Int32) X0 hx hZ hw hby hml hown (by rw [e0]; exact Ar104) (by decide) hin104 hat104 _ ?_
    show Steps p.tables e below (s₁.setTop (mkF m 10 #[.val (.ref ar), .val (.int (own_byte (own_byte (own_byte (own_byte (own_byte (own_byte (0 : Int32) x0) x1) x2) x3) x4) x5)), .val (.ref ar), .val (.int (9 : Int32)), .val (.int (6 : Int32)), .val (.int x5), .val (.int (8 : Int32))] [])) _
    refine own_seg2 (Z := Z) (a0 := a0) ar cl105 (own_byte (own_byte (own_byte (own_byte (own_byte (own_byte (0 : Int32) x0) x1) x2) x3) x4) x5) (9 : Int32) (6 : Int32) x6 x5 (8 : Int32) X0 hx hZ hw hby hml hown (by rw [e0]; exact Ar105) (by decide) hin105 hat105 _ ?_
    show Steps p.tables e below (s₁.setTop (mkF m 10 #[.val (.ref ar), .val (.int (own_byte (own_byte (own_byte (own_byte (own_byte (own_byte (own_byte (0 : Int32) x0) x1) x2) x3) x4) x5) x6)), .val (.ref ar), .val (.int (9 : Int32)), .val (.int (7 : Int32)), .val (.int x6), .val (.int (8 : Int32))] [])) _
    refine own_seg2 (Z := Z) (a0 := a0) ar cl106 (own_byte (own_byte (own_byte (own_byte (own_byte (own_byte (own_byte (0 : Int32) x0) x1) x2) x3) x4) x5) x6) (9 : Int32) (7 : Int32) x7 x6 (8 : Int32) X0 hx hZ hw hby hml hown (by rw [e0]; exact Ar106) (by decide) hin106 hat106 _ ?_
    show Steps p.tables e below (s₁.setTop (mkF m 10 #[.val (.ref ar), .val (.int (own_byte (own_byte (own_byte (own_byte (own_byte (own_byte (own_byte (own_byte (0 : Int32) x0) x1) x2) x3) x4) x5) x6) x7)), .val (.ref ar), .val (.int (9 : Int32)), .val (.int (8 : Int32)), .val (.int x7), .val (.int (8 : Int32))] [])) _
    refine own_seg2 (Z := Z) (a0 := a0) ar cl107 (own_byte (own_byte (own_byte (own_byte (own_byte (own_byte (own_byte (own_byte (0 : Int32) x0) x1) x2) x3) x4) x5) x6) x7) (9 : Int32) (8 : Int32) x8 x7 (8 : Int32) X0 hx hZ hw hby hml hown (by rw [e0]; exact Ar107) (by decide) hin107 hat107 _ ?_
    show Steps p.tables e below (s₁.setTop (mkF m 10 #[.val (.ref ar), .val (.int (own_byte (own_byte (own_byte (own_byte (own_byte (own_byte (own_byte (own_byte (own_byte (0 : Int32) x0) x1) x2) x3) x4) x5) x6) x7) x8)), .val (.ref ar), .val (.int (9 : Int32)), .val (.int (9 : Int32)), .val (.int x8), .val (.int (8 : Int32))] [])) _
    refine XS.iload X0.here hx rfl (hb hby own_d_prog_22_method_2_code_10) rfl ?_
    show Steps p.tables e below (s₁.setTop (mkF m 12 #[.val (.ref ar), .val (.int (own_byte (own_byte (own_byte (own_byte (own_byte (own_byte (own_byte (own_byte (own_byte (0 : Int32) x0) x1) x2) x3) x4) x5) x6) x7) x8)), .val (.ref ar), .val (.int (9 : Int32)), .val (.int (9 : Int32)), .val (.int x8), .val (.int (8 : Int32))] [(.int (9 : Int32))])) _
    refine XS.iloadN X0.here hx rfl (hb hby own_d_prog_22_method_2_code_12) rfl ?_
    show Steps p.tables e below (s₁.setTop (mkF m 13 #[.val (.ref ar), .val (.int (own_byte (own_byte (own_byte (own_byte (own_byte (own_byte (own_byte (own_byte (own_byte (0 : Int32) x0) x1) x2) x3) x4) x5) x6) x7) x8)), .val (.ref ar), .val (.int (9 : Int32)), .val (.int (9 : Int32)), .val (.int x8), .val (.int (8 : Int32))] [(.int (9 : Int32)), (.int (9 : Int32))])) _
    refine XS.icmpYes X0.here hx rfl (pc0 := 13) (pc' := 73) rfl (hb hby own_d_prog_22_method_2_code_13) rfl (flt (by decide : ¬ ((9 : Int32) < (9 : Int32)))).2.1 (by decide) (by decide) ?_
    show Steps p.tables e below (s₁.setTop (mkF m 73 #[.val (.ref ar), .val (.int (own_byte (own_byte (own_byte (own_byte (own_byte (own_byte (own_byte (own_byte (own_byte (0 : Int32) x0) x1) x2) x3) x4) x5) x6) x7) x8)), .val (.ref ar), .val (.int (9 : Int32)), .val (.int (9 : Int32)), .val (.int x8), .val (.int (8 : Int32))] [])) _
    refine XS.iloadN X0.here hx rfl (hb hby own_d_prog_22_method_2_code_73) rfl ?_
    show Steps p.tables e below (s₁.setTop (mkF m 74 #[.val (.ref ar), .val (.int (own_byte (own_byte (own_byte (own_byte (own_byte (own_byte (own_byte (own_byte (own_byte (0 : Int32) x0) x1) x2) x3) x4) x5) x6) x7) x8)), .val (.ref ar), .val (.int (9 : Int32)), .val (.int (9 : Int32)), .val (.int x8), .val (.int (8 : Int32))] [(.int (own_byte (own_byte (own_byte (own_byte (own_byte (own_byte (own_byte (own_byte (own_byte (0 : Int32) x0) x1) x2) x3) x4) x5) x6) x7) x8))])) _
    exact retI X0 hx Bd.returns (hb hby own_d_prog_22_method_2_code_74) hr
  · show PQ (some (.int (own_byte (own_byte (own_byte (own_byte (own_byte (own_byte (own_byte (own_byte (own_byte (0 : Int32) x0) x1) x2) x3) x4) x5) x6) x7) x8))) h0 n0 _ s₁.heap _
    rw [e0]
    exact ⟨rfl, N0, rfl⟩
theorem own_eqv {s : State} {args : Array Value} {t u : Term} {w : Value} (hu : u.eval args s none [] s = some w) (h : (Cond.eq t u).value args s none s [] = some true) (hk : (match w with | .retAddr _ => false | .float _ => false | .double _ => false | _ => true) = true := by rfl) : t.eval args s none [] s = some w := by
  obtain ⟨x, y, e1, e2, -, -⟩ := cmp_v (Or.inl h)
  cases hu.symm.trans e2
  rw [e1]
  simp only [Cond.value, e1, hu] at h
  cases x <;> cases w <;> simp at h hk ⊢ <;> exact h
theorem own_fld {s : State} {args : Array Value} {t : Term} {C n d : String} {a : Addr} {v : Value} (ht : t.eval args s none [] s = some (.ref a)) (h : (Term.field t C n d).eval args s none [] s = some v) : Fld s s.heap a C n d v := Fld.start ((fld_at ht).symm.trans h)
theorem own_len {s : State} {args : Array Value} {t : Term} {ty : FieldType} {a : Addr} {n : Int32} (ht : t.eval args s none [] s = some (.ref a)) (ha : (Cond.arrayOf t ty).value args s none s [] = some true) (hl : (Cond.eq (.length t) (.int n)).value args s none s [] = some true) (hn : ¬ n < 0) :
    ∃ c : Cell, Arr s s.heap a c ty ∧ c.slots.size < 2 ^ 31 ∧ c.slots.size.toInt32 = n := by
  obtain ⟨c, A⟩ := Arr.start ht ha
  have e := own_eqv (Term.int_eval n) hl
  have A2 := A.fin (Vm.Alike.refl _)
  obtain ⟨x, c2, e1, e2, e3⟩ := Term.length_spec e
  cases ht.symm.trans e1
  cases A2.symm.trans e2
  have h31 := SBG.length_lt ht A2 e
  refine ⟨c, A, h31, ?_⟩
  have := len_f ht A2 h31
  rw [e] at this
  simpa using (Option.some.inj this).symm
theorem own_elem {s : State} {args : Array Value} {t : Term} {ty : FieldType} {a : Addr} {c : Cell} {j : Int32} {v : Value} (ht : t.eval args s none [] s = some (.ref a)) (A : Arr s s.heap a c ty) (h : (Term.elem t (.int j)).eval args s none [] s = some v) : c.slots[j.toNatClampNeg]? = some v := (elem_in h ht (Term.int_eval j) A.1).2
theorem own_all0 {s : State} {args : Array Value} {t : Term} {ty : FieldType} {a : Addr} {c : Cell} {k n : Int32} (ht : ∀ idx, t.eval args s none idx s = some (.ref a)) (A : Arr s s.heap a c ty) (h31 : c.slots.size < 2 ^ 31) (hn : c.slots.size.toInt32 = n)
    (h : (Cond.all t (.or (.lt (.index 0) (.int k)) (.eq (.elem t (.index 0)) (.int 0)))).value args s none s [] = some true) (j : Nat) (hj : j < n.toNatClampNeg) (hk : ¬ j.toInt32 < k) : c.slots[j]? = some (.int 0) := by
  have A2 := A.fin (Vm.Alike.refl _)
  have hsz : n.toNatClampNeg = c.slots.size := by rw [← hn]; simp only [Int32.toNatClampNeg, len_toInt h31]; rfl
  have hj2 : j < c.slots.size := hsz ▸ hj
  have q := Cond.all_elim (ht []) A2 h j hj2
  have e1 : (Term.index 0).eval args s none [j] s = some (.int j.toInt32) := rfl
  have l1 : (Cond.lt (.index 0) (.int k)).value args s none s [j] = some false := by
    simp [Cond.value, e1, Term.int_eval, hk]
  have q2 : (Cond.eq (.elem t (.index 0)) (.int 0)).value args s none s [j] = some true := by
    have q3 : (match (Cond.lt (.index 0) (.int k)).value args s none s [j] with | some false => (Cond.eq (.elem t (.index 0)) (.int 0)).value args s none s [j] | x => x) = some true := q
    rw [l1] at q3
    exact q3
  obtain ⟨x, y, e2, e3, -, -⟩ := cmp_v (Or.inl q2)
  cases (Term.int_eval (args := args) (first := s) (o := none) (idx := [j]) (s := s) 0).symm.trans e3
  have e4 : (Term.elem t (.index 0)).eval args s none [j] s = some (.int 0) := by
    simp only [Cond.value, e2, e3] at q2
    rw [e2]; cases x <;> simp at q2 ⊢; exact q2
  have e5 := elem_in e4 (ht [j]) e1 A.1
  have e6 : (Nat.toInt32 j).toNatClampNeg = j := by simp only [Int32.toNatClampNeg, len_toInt (Nat.lt_trans hj2 h31)]; rfl
  rw [e6] at e5
  exact e5.2
theorem own_csne {s : State} {args : Array Value} {t : Term} {v : Int32} (e : t.eval args s none [] s = some (.int v)) (h : (Cond.not (.eq t (.int 0))).value args s none s [] = some true) : ¬ (v = (0 : Int32)) := by
  have q := not_v h
  intro hv
  subst hv
  have q2 := Cond.eq_ints e (Term.int_eval (args := args) (first := s) (o := none) (idx := []) (s := s) 0)
  rw [q2] at q
  simp at q
theorem own_orref {s : State} {args : Array Value} {C f d : String} (h : (Cond.isRef (.static C f d)).value args s none s [] = some true) (hi : (Cond.initializedFor C f d).before args s = true ∨ ((Cond.initialized C).before args s = true ∧ (Cond.laysStatic C f d).before args s = true)) : (Sta s s.heap C f d .null) ∨ (∃ a, Sta s s.heap C f d (.ref a)) := by
  obtain ⟨x, e, hr⟩ := isR_v h
  rcases ref_cases hr with rfl | ⟨a, rfl⟩
  · exact Or.inl (Sta.start e hi)
  · exact Or.inr ⟨a, Sta.start e hi⟩
def own_St (Z : State) (A : Nat → Addr) (K : Nat → ClassId) : Prop := True
theorem own_ef_rm0 (m : MethodId) (p1 : Int32) (A : Nat → Addr) (K : Nat → ClassId) : entryFrame m #[(.int p1)] maxLocals = mkF m 0 #[.val (.int p1), .unset, .unset, .unset, .unset, .unset, .unset, .unset, .unset, .unset, .unset, .unset, .unset, .unset, .unset, .unset] [] := by first | (simp [entryFrame, mkF, argsToLocals, Value.category, maxLocals]; done) | rfl
set_option maxRecDepth 65536 in
set_option maxHeartbeats 40000000 in
theorem rm0 (l : Launch) (Z : State) (a0 : Array Value) (hw : ∀ d ∈ tables_1, d.before a0 Z = true) (ws : List Jvm.Cond) (h0 : Heap) (n0 : Nat) (p1 : Int32) (A : Nat → Addr) (K : Nat → ClassId) (EN : own_St Z A K) (OL0 : Old Z n0 h0) :
    MetFree l x (head1 (Jvm.Cond.code x code maxLocals ret :: ws) room_1) (fun a U => a = #[(.int p1)] ∧ Z.Warmed39 U.vm ∧ U.heap = h0) (fun _ _ _ _ _ => True) (fun _ U o U' => ∃ v L, o = .returned v ∧ (LQ n0) v U'.heap L ∧ FrameEnd U o U' L room_1.cells room_1.slots) := by
  refine MetFree.of_bodySF (plainFor_of_name own_pn0) hisR ?_
  intro p e s m args below meth c s₁ Bd hml0 hP hK
  obtain ⟨rfl, hZ, hh⟩ := hP
  have hx := Bd.exec
  have hby := Bd.bytes
  have hml : c.maxLocals = 16 := hml0
  have hown : s.vm.findClass "com/example/dongl/dongl/crypto/Crc16ArcPinLaw" = some m.cls := findClass_of_methodNamed Bd.named
  have hnm := (name_of_methodNamed Bd.named Bd.method).1
  have X0 : Stand p l e room_1 s m #[(.int p1)] below meth c s₁ [] 0 0 := Stand.of_body Bd
  have e0 : s₁.heap = h0 := by rw [← hh, Bd.state]; rfl
  have N0 := Fr.nil n0
  have pre0 : ∀ t, Steps p.tables e below (s₁.setTop (mkF m 0 #[.val (.int p1), .unset, .unset, .unset, .unset, .unset, .unset, .unset, .unset, .unset, .unset, .unset, .unset, .unset, .unset, .unset] [])) t → Steps p.tables e below (s₁.setTop (entryFrame m #[(.int p1)] maxLocals)) t := fun t k => castTop (own_ef_rm0 m p1 A K) k
  have KK0 : Keep h0 h0 [] := Keep.refl _ _
  obtain ⟨_, _, ⟨T108, L108, k108, n108⟩, -, X108, ⟨Lc108, hQ108, l108, y108, z108⟩, st108⟩ := Jvm.LawKit.callS X0 hx (y := (⟨"com/example/dongl/dongl/crypto/Crc16ArcPinLaw", "step", "(II)I"⟩ : MethodName)) hown (mvT hZ (hw _ (List.mem_of_getElem? (i := 0) rfl))) (mvT hZ (hw _ (List.mem_of_getElem? (i := 1) rfl))) (mvT hZ (hw _ (List.mem_of_getElem? (i := 2) rfl))) (mvT hZ (hw _ (List.mem_of_getElem? (i := 3) rfl))) (by decide) (backOf (W := 0) (rmS l Z a0 hw [] h0 n0 (0 : Int32) (own_U0 p1)) hZ (hw _ (List.mem_of_getElem? (i := 3) rfl)) (hw _ (List.mem_of_getElem? (i := 2) rfl)) (by decide) (by decide)) (g := (mkF m 36 #[.val (.int p1), .val (.int (own_U0 p1)), .val (.int (own_U1 p1)), .val (.int (own_U2 p1)), .val (.int (own_U3 p1)), .unset, .unset, .unset, .unset, .unset, .unset, .unset, .unset, .unset, .unset, .unset] [(.int (own_U0 p1)), (.int (0 : Int32))])) rfl (by rw [hml]; rfl) (argsL := [(.int (0 : Int32)), (.int (own_U0 p1))]) (rest := []) (lenOf own_pd1 rfl) rfl (by show 2 * 0 + _ ≤ _; exact Nat.le_of_eq rfl) (hb hby at_36) (fun _ _ => ⟨rfl, e0, (by decide : 0 + 0 ≤ _), (by decide : 0 + 0 ≤ _)⟩)
  dsimp only [Pt.U, Pt.locs, Pt.cells, Pt.slots] at X108 l108 y108 z108 st108 hQ108
  replace X108 := own_sub X108 l108 y108 z108
  obtain ⟨rfl, N108q, e108⟩ := hQ108
  have N108 := Fr.app N0 N108q
  obtain ⟨_, _, ⟨T109, L109, k109, n109⟩, -, X109, ⟨Lc109, hQ109, l109, y109, z109⟩, st109⟩ := Jvm.LawKit.callS X108 hx (y := (⟨"com/example/dongl/dongl/crypto/Crc16ArcPinLaw", "step", "(II)I"⟩ : MethodName)) hown (mvT hZ (hw _ (List.mem_of_getElem? (i := 0) rfl))) (mvT hZ (hw _ (List.mem_of_getElem? (i := 1) rfl))) (mvT hZ (hw _ (List.mem_of_getElem? (i := 2) rfl))) (mvT hZ (hw _ (List.mem_of_getElem? (i := 3) rfl))) (by decide) (backOf (W := 0) (rmS l Z a0 hw [] h0 n0 (own_R1 p1) (own_U1 p1)) hZ (hw _ (List.mem_of_getElem? (i := 3) rfl)) (hw _ (List.mem_of_getElem? (i := 2) rfl)) (by decide) (by decide)) (g := (mkF m 44 #[.val (.int p1), .val (.int (own_U0 p1)), .val (.int (own_U1 p1)), .val (.int (own_U2 p1)), .val (.int (own_U3 p1)), .val (.int (own_R1 p1)), .unset, .unset, .unset, .unset, .unset, .unset, .unset, .unset, .unset, .unset] [(.int (own_U1 p1)), (.int (own_R1 p1))])) rfl (by rw [hml]; rfl) (argsL := [(.int (own_R1 p1)), (.int (own_U1 p1))]) (rest := []) (lenOf own_pd1 rfl) rfl (by show 2 * 0 + _ ≤ _; exact Nat.le_of_eq rfl) (hb hby at_44) (fun _ _ => ⟨rfl, e108, (by decide : 0 + 0 ≤ _), (by decide : 0 + 0 ≤ _)⟩)
  dsimp only [Pt.U, Pt.locs, Pt.cells, Pt.slots] at X109 l109 y109 z109 st109 hQ109
  replace X109 := own_sub X109 l109 y109 z109
  obtain ⟨rfl, N109q, e109⟩ := hQ109
  have N109 := Fr.app N108 N109q
  obtain ⟨_, _, ⟨T110, L110, k110, n110⟩, -, X110, ⟨Lc110, hQ110, l110, y110, z110⟩, st110⟩ := Jvm.LawKit.callS X109 hx (y := (⟨"com/example/dongl/dongl/crypto/Crc16ArcPinLaw", "step", "(II)I"⟩ : MethodName)) hown (mvT hZ (hw _ (List.mem_of_getElem? (i := 0) rfl))) (mvT hZ (hw _ (List.mem_of_getElem? (i := 1) rfl))) (mvT hZ (hw _ (List.mem_of_getElem? (i := 2) rfl))) (mvT hZ (hw _ (List.mem_of_getElem? (i := 3) rfl))) (by decide) (backOf (W := 0) (rmS l Z a0 hw [] h0 n0 (own_R2 p1) (own_U2 p1)) hZ (hw _ (List.mem_of_getElem? (i := 3) rfl)) (hw _ (List.mem_of_getElem? (i := 2) rfl)) (by decide) (by decide)) (g := (mkF m 52 #[.val (.int p1), .val (.int (own_U0 p1)), .val (.int (own_U1 p1)), .val (.int (own_U2 p1)), .val (.int (own_U3 p1)), .val (.int (own_R1 p1)), .val (.int (own_R2 p1)), .unset, .unset, .unset, .unset, .unset, .unset, .unset, .unset, .unset] [(.int (own_U2 p1)), (.int (own_R2 p1))])) rfl (by rw [hml]; rfl) (argsL := [(.int (own_R2 p1)), (.int (own_U2 p1))]) (rest := []) (lenOf own_pd1 rfl) rfl (by show 2 * 0 + _ ≤ _; exact Nat.le_of_eq rfl) (hb hby at_52) (fun _ _ => ⟨rfl, e109, (by decide : 0 + 0 ≤ _), (by decide : 0 + 0 ≤ _)⟩)
  dsimp only [Pt.U, Pt.locs, Pt.cells, Pt.slots] at X110 l110 y110 z110 st110 hQ110
  replace X110 := own_sub X110 l110 y110 z110
  obtain ⟨rfl, N110q, e110⟩ := hQ110
  have N110 := Fr.app N109 N110q
  obtain ⟨_, _, ⟨T111, L111, k111, n111⟩, -, X111, ⟨Lc111, hQ111, l111, y111, z111⟩, st111⟩ := Jvm.LawKit.callS X110 hx (y := (⟨"com/example/dongl/dongl/crypto/Crc16ArcPinLaw", "step", "(II)I"⟩ : MethodName)) hown (mvT hZ (hw _ (List.mem_of_getElem? (i := 0) rfl))) (mvT hZ (hw _ (List.mem_of_getElem? (i := 1) rfl))) (mvT hZ (hw _ (List.mem_of_getElem? (i := 2) rfl))) (mvT hZ (hw _ (List.mem_of_getElem? (i := 3) rfl))) (by decide) (backOf (W := 0) (rmS l Z a0 hw [] h0 n0 (own_R3 p1) (own_U3 p1)) hZ (hw _ (List.mem_of_getElem? (i := 3) rfl)) (hw _ (List.mem_of_getElem? (i := 2) rfl)) (by decide) (by decide)) (g := (mkF m 61 #[.val (.int p1), .val (.int (own_U0 p1)), .val (.int (own_U1 p1)), .val (.int (own_U2 p1)), .val (.int (own_U3 p1)), .val (.int (own_R1 p1)), .val (.int (own_R2 p1)), .val (.int (own_R3 p1)), .unset, .unset, .unset, .unset, .unset, .unset, .unset, .unset] [(.int (own_U3 p1)), (.int (own_R3 p1))])) rfl (by rw [hml]; rfl) (argsL := [(.int (own_R3 p1)), (.int (own_U3 p1))]) (rest := []) (lenOf own_pd1 rfl) rfl (by show 2 * 0 + _ ≤ _; exact Nat.le_of_eq rfl) (hb hby at_61) (fun _ _ => ⟨rfl, e110, (by decide : 0 + 0 ≤ _), (by decide : 0 + 0 ≤ _)⟩)
  dsimp only [Pt.U, Pt.locs, Pt.cells, Pt.slots] at X111 l111 y111 z111 st111 hQ111
  replace X111 := own_sub X111 l111 y111 z111
  obtain ⟨rfl, N111q, e111⟩ := hQ111
  have N111 := Fr.app N110 N111q
  obtain ⟨T112, h112, k112, X112, e112, E112, A112, st112⟩ := newP X111 hx hZ (hw _ (List.mem_of_getElem? (i := 7) rfl)) e111 (g := (mkF m 67 #[.val (.int p1), .val (.int (own_U0 p1)), .val (.int (own_U1 p1)), .val (.int (own_U2 p1)), .val (.int (own_U3 p1)), .val (.int (own_R1 p1)), .val (.int (own_R2 p1)), .val (.int (own_R3 p1)), .val (.int (own_R4 p1)), .unset, .unset, .unset, .unset, .unset, .unset, .unset] [(.int (0 : Int32))])) rfl (hb hby at_67) rfl (by decide) (cap := 0) (by decide) (by decide) (by decide) (by decide)
  obtain ⟨b112, g112⟩ : ∃ z, z = h0.size := ⟨_, rfl⟩
  rw [← g112] at A112 st112
  have gn_b112 : n0 ≤ b112 := Nat.le_trans (OL0.1 ▸ OL0.2.1) (Nat.le_of_eq g112.symm)
  have sz_b112 : h0.size ≤ b112 := Nat.le_trans KK0.1 (Nat.le_of_eq g112.symm)
  have OL112 : Old Z n0 h112 := OL0.ext E112
  have KK112 : Keep h0 h112 [] := KK0.ext E112
  have V112 : Arv Z h112 b112 k112 .byte (0 : Int32) [] (.int (0 : Int32)) := Arv.new A112 (by decide)
  obtain ⟨T113, h113, k113, X113, e113, E113, A113, st113⟩ := newP X112 hx hZ (hw _ (List.mem_of_getElem? (i := 7) rfl)) e112 (g := (mkF m 72 #[.val (.int p1), .val (.int (own_U0 p1)), .val (.int (own_U1 p1)), .val (.int (own_U2 p1)), .val (.int (own_U3 p1)), .val (.int (own_R1 p1)), .val (.int (own_R2 p1)), .val (.int (own_R3 p1)), .val (.int (own_R4 p1)), .val (.ref b112), .unset, .unset, .unset, .unset, .unset, .unset] [(.int (1 : Int32))])) rfl (hb hby at_72) rfl (by decide) (cap := 1) (by decide) (by decide) (by decide) (by decide)
  obtain ⟨b113, g113⟩ : ∃ z, z = h112.size := ⟨_, rfl⟩
  rw [← g113] at A113 st113
  have gn_b113 : n0 ≤ b113 := Nat.le_trans (OL112.1 ▸ OL112.2.1) (Nat.le_of_eq g113.symm)
  have sz_b113 : h0.size ≤ b113 := Nat.le_trans KK112.1 (Nat.le_of_eq g113.symm)
  have lt_b112_b113 : b112 < b113 := Nat.lt_of_lt_of_le V112.lt (Nat.le_of_eq g113.symm)
  have OL113 : Old Z n0 h113 := OL112.ext E113
  have KK113 : Keep h0 h113 [] := KK112.ext E113
  have V113 : Arv Z h113 b113 k113 .byte (1 : Int32) [] (.int (0 : Int32)) := Arv.new A113 (by decide)
  obtain ⟨cl114, Ar114, q114, Sz114, Nn114, Hh114, Gg114⟩ := (id (Arv.pad V113 (pad_rep [] (.int (0 : Int32)) 1)))
  have hin114 : ¬ ((0 : Int32) < 0 ∨ cl114.slots.size ≤ ((0 : Int32)).toNatClampNeg) := inb_of Sz114 ⟨by decide, by decide⟩
  obtain ⟨T115, h115, X115, e115, W115, st115⟩ := stB X113 hx hZ e113 Ar114 (j := (0 : Int32)) hin114 (g := (mkF m 78 #[.val (.int p1), .val (.int (own_U0 p1)), .val (.int (own_U1 p1)), .val (.int (own_U2 p1)), .val (.int (own_U3 p1)), .val (.int (own_R1 p1)), .val (.int (own_R2 p1)), .val (.int (own_R3 p1)), .val (.int (own_R4 p1)), .val (.ref b112), .unset, .unset, .unset, .unset, .unset, .unset] [(.int (own_B0 p1)), (.int (0 : Int32)), (.ref b113), (.ref b113)])) rfl rfl (hb hby at_78)
  have NF115 := Fr.snoc X115 N111 gn_b113
  have OL115 : Old Z n0 h115 := OL113.wr W115 gn_b113
  have KK115 : Keep h0 h115 [] := KK113.wr W115 (Or.inr sz_b113)
  have V115 : Arv Z h115 b113 k113 .byte (1 : Int32) [(.int (nar .byte (own_B0 p1)))] (.int (0 : Int32)) := Arv.set Ar114 q114 Sz114 Nn114 Hh114 Gg114 (fits_nar_byte _) W115 0 (by decide) (by decide : 0 < 1)
  obtain ⟨T116, h116, k116, X116, e116, E116, A116, st116⟩ := newP X115 hx hZ (hw _ (List.mem_of_getElem? (i := 7) rfl)) e115 (g := (mkF m 82 #[.val (.int p1), .val (.int (own_U0 p1)), .val (.int (own_U1 p1)), .val (.int (own_U2 p1)), .val (.int (own_U3 p1)), .val (.int (own_R1 p1)), .val (.int (own_R2 p1)), .val (.int (own_R3 p1)), .val (.int (own_R4 p1)), .val (.ref b112), .val (.ref b113), .unset, .unset, .unset, .unset, .unset] [(.int (2 : Int32))])) rfl (hb hby at_82) rfl (by decide) (cap := 2) (by decide) (by decide) (by decide) (by decide)
  obtain ⟨b116, g116⟩ : ∃ z, z = h115.size := ⟨_, rfl⟩
  rw [← g116] at A116 st116
  have gn_b116 : n0 ≤ b116 := Nat.le_trans (OL115.1 ▸ OL115.2.1) (Nat.le_of_eq g116.symm)
  have sz_b116 : h0.size ≤ b116 := Nat.le_trans KK115.1 (Nat.le_of_eq g116.symm)
  have fx117 : Arv Z h115 b112 k112 .byte (0 : Int32) [] (.int (0 : Int32)) := ((V112.ext E113).other W115 (Nat.ne_of_lt lt_b112_b113))
  have lt_b112_b116 : b112 < b116 := Nat.lt_of_lt_of_le fx117.lt (Nat.le_of_eq g116.symm)
  have lt_b113_b116 : b113 < b116 := Nat.lt_of_lt_of_le V115.lt (Nat.le_of_eq g116.symm)
  have OL116 : Old Z n0 h116 := OL115.ext E116
  have KK116 : Keep h0 h116 [] := KK115.ext E116
  have V116 : Arv Z h116 b116 k116 .byte (2 : Int32) [] (.int (0 : Int32)) := Arv.new A116 (by decide)
  obtain ⟨cl118, Ar118, q118, Sz118, Nn118, Hh118, Gg118⟩ := (id (Arv.pad V116 (pad_rep [] (.int (0 : Int32)) 1)))
  have hin118 : ¬ ((0 : Int32) < 0 ∨ cl118.slots.size ≤ ((0 : Int32)).toNatClampNeg) := inb_of Sz118 ⟨by decide, by decide⟩
  obtain ⟨T119, h119, X119, e119, W119, st119⟩ := stB X116 hx hZ e116 Ar118 (j := (0 : Int32)) hin118 (g := (mkF m 88 #[.val (.int p1), .val (.int (own_U0 p1)), .val (.int (own_U1 p1)), .val (.int (own_U2 p1)), .val (.int (own_U3 p1)), .val (.int (own_R1 p1)), .val (.int (own_R2 p1)), .val (.int (own_R3 p1)), .val (.int (own_R4 p1)), .val (.ref b112), .val (.ref b113), .unset, .unset, .unset, .unset, .unset] [(.int (own_B0 p1)), (.int (0 : Int32)), (.ref b116), (.ref b116)])) rfl rfl (hb hby at_88)
  have NF119 := Fr.snoc X119 NF115 gn_b116
  have OL119 : Old Z n0 h119 := OL116.wr W119 gn_b116
  have KK119 : Keep h0 h119 [] := KK116.wr W119 (Or.inr sz_b116)
  have V119 : Arv Z h119 b116 k116 .byte (2 : Int32) [(.int (nar .byte (own_B0 p1)))] (.int (0 : Int32)) := Arv.set Ar118 q118 Sz118 Nn118 Hh118 Gg118 (fits_nar_byte _) W119 0 (by decide) (by decide : 0 < 1)
  obtain ⟨cl120, Ar120, q120, Sz120, Nn120, Hh120, Gg120⟩ := (id (Arv.pad V119 (pad_rep [(.int (nar .byte (own_B0 p1)))] (.int (0 : Int32)) 1)))
  have hin120 : ¬ ((1 : Int32) < 0 ∨ cl120.slots.size ≤ ((1 : Int32)).toNatClampNeg) := inb_of Sz120 ⟨by decide, by decide⟩
  obtain ⟨T121, h121, X121, e121, W121, st121⟩ := stB X119 hx hZ e119 Ar120 (j := (1 : Int32)) hin120 (g := (mkF m 93 #[.val (.int p1), .val (.int (own_U0 p1)), .val (.int (own_U1 p1)), .val (.int (own_U2 p1)), .val (.int (own_U3 p1)), .val (.int (own_R1 p1)), .val (.int (own_R2 p1)), .val (.int (own_R3 p1)), .val (.int (own_R4 p1)), .val (.ref b112), .val (.ref b113), .unset, .unset, .unset, .unset, .unset] [(.int (own_B1 p1)), (.int (1 : Int32)), (.ref b116), (.ref b116)])) rfl rfl (hb hby at_93)
  have NF121 := Fr.snoc X121 NF119 gn_b116
  have OL121 : Old Z n0 h121 := OL119.wr W121 gn_b116
  have KK121 : Keep h0 h121 [] := KK119.wr W121 (Or.inr sz_b116)
  have V121 : Arv Z h121 b116 k116 .byte (2 : Int32) [(.int (nar .byte (own_B0 p1))), (.int (nar .byte (own_B1 p1)))] (.int (0 : Int32)) := Arv.set Ar120 q120 Sz120 Nn120 Hh120 Gg120 (fits_nar_byte _) W121 1 (by decide) (by decide : 1 < 2)
  obtain ⟨T122, h122, k122, X122, e122, E122, A122, st122⟩ := newP X121 hx hZ (hw _ (List.mem_of_getElem? (i := 7) rfl)) e121 (g := (mkF m 97 #[.val (.int p1), .val (.int (own_U0 p1)), .val (.int (own_U1 p1)), .val (.int (own_U2 p1)), .val (.int (own_U3 p1)), .val (.int (own_R1 p1)), .val (.int (own_R2 p1)), .val (.int (own_R3 p1)), .val (.int (own_R4 p1)), .val (.ref b112), .val (.ref b113), .val (.ref b116), .unset, .unset, .unset, .unset] [(.int (3 : Int32))])) rfl (hb hby at_97) rfl (by decide) (cap := 3) (by decide) (by decide) (by decide) (by decide)
  obtain ⟨b122, g122⟩ : ∃ z, z = h121.size := ⟨_, rfl⟩
  rw [← g122] at A122 st122
  have gn_b122 : n0 ≤ b122 := Nat.le_trans (OL121.1 ▸ OL121.2.1) (Nat.le_of_eq g122.symm)
  have sz_b122 : h0.size ≤ b122 := Nat.le_trans KK121.1 (Nat.le_of_eq g122.symm)
  have fx123 : Arv Z h121 b112 k112 .byte (0 : Int32) [] (.int (0 : Int32)) := (((fx117.ext E116).other W119 (Nat.ne_of_lt lt_b112_b116)).other W121 (Nat.ne_of_lt lt_b112_b116))
  have fx124 : Arv Z h121 b113 k113 .byte (1 : Int32) [(.int (nar .byte (own_B0 p1)))] (.int (0 : Int32)) := (((V115.ext E116).other W119 (Nat.ne_of_lt lt_b113_b116)).other W121 (Nat.ne_of_lt lt_b113_b116))
  have lt_b112_b122 : b112 < b122 := Nat.lt_of_lt_of_le fx123.lt (Nat.le_of_eq g122.symm)
  have lt_b113_b122 : b113 < b122 := Nat.lt_of_lt_of_le fx124.lt (Nat.le_of_eq g122.symm)
  have lt_b116_b122 : b116 < b122 := Nat.lt_of_lt_of_le V121.lt (Nat.le_of_eq g122.symm)
  have OL122 : Old Z n0 h122 := OL121.ext E122
  have KK122 : Keep h0 h122 [] := KK121.ext E122
  have V122 : Arv Z h122 b122 k122 .byte (3 : Int32) [] (.int (0 : Int32)) := Arv.new A122 (by decide)
  obtain ⟨cl125, Ar125, q125, Sz125, Nn125, Hh125, Gg125⟩ := (id (Arv.pad V122 (pad_rep [] (.int (0 : Int32)) 1)))
  have hin125 : ¬ ((0 : Int32) < 0 ∨ cl125.slots.size ≤ ((0 : Int32)).toNatClampNeg) := inb_of Sz125 ⟨by decide, by decide⟩
  obtain ⟨T126, h126, X126, e126, W126, st126⟩ := stB X122 hx hZ e122 Ar125 (j := (0 : Int32)) hin125 (g := (mkF m 103 #[.val (.int p1), .val (.int (own_U0 p1)), .val (.int (own_U1 p1)), .val (.int (own_U2 p1)), .val (.int (own_U3 p1)), .val (.int (own_R1 p1)), .val (.int (own_R2 p1)), .val (.int (own_R3 p1)), .val (.int (own_R4 p1)), .val (.ref b112), .val (.ref b113), .val (.ref b116), .unset, .unset, .unset, .unset] [(.int (own_B0 p1)), (.int (0 : Int32)), (.ref b122), (.ref b122)])) rfl rfl (hb hby at_103)
  have NF126 := Fr.snoc X126 NF121 gn_b122
  have OL126 : Old Z n0 h126 := OL122.wr W126 gn_b122
  have KK126 : Keep h0 h126 [] := KK122.wr W126 (Or.inr sz_b122)
  have V126 : Arv Z h126 b122 k122 .byte (3 : Int32) [(.int (nar .byte (own_B0 p1)))] (.int (0 : Int32)) := Arv.set Ar125 q125 Sz125 Nn125 Hh125 Gg125 (fits_nar_byte _) W126 0 (by decide) (by decide : 0 < 1)
  obtain ⟨cl127, Ar127, q127, Sz127, Nn127, Hh127, Gg127⟩ := (id (Arv.pad V126 (pad_rep [(.int (nar .byte (own_B0 p1)))] (.int (0 : Int32)) 1)))
  have hin127 : ¬ ((1 : Int32) < 0 ∨ cl127.slots.size ≤ ((1 : Int32)).toNatClampNeg) := inb_of Sz127 ⟨by decide, by decide⟩
  obtain ⟨T128, h128, X128, e128, W128, st128⟩ := stB X126 hx hZ e126 Ar127 (j := (1 : Int32)) hin127 (g := (mkF m 108 #[.val (.int p1), .val (.int (own_U0 p1)), .val (.int (own_U1 p1)), .val (.int (own_U2 p1)), .val (.int (own_U3 p1)), .val (.int (own_R1 p1)), .val (.int (own_R2 p1)), .val (.int (own_R3 p1)), .val (.int (own_R4 p1)), .val (.ref b112), .val (.ref b113), .val (.ref b116), .unset, .unset, .unset, .unset] [(.int (own_B1 p1)), (.int (1 : Int32)), (.ref b122), (.ref b122)])) rfl rfl (hb hby at_108)
  have NF128 := Fr.snoc X128 NF126 gn_b122
  have OL128 : Old Z n0 h128 := OL126.wr W128 gn_b122
  have KK128 : Keep h0 h128 [] := KK126.wr W128 (Or.inr sz_b122)
  have V128 : Arv Z h128 b122 k122 .byte (3 : Int32) [(.int (nar .byte (own_B0 p1))), (.int (nar .byte (own_B1 p1)))] (.int (0 : Int32)) := Arv.set Ar127 q127 Sz127 Nn127 Hh127 Gg127 (fits_nar_byte _) W128 1 (by decide) (by decide : 1 < 2)
  obtain ⟨cl129, Ar129, q129, Sz129, Nn129, Hh129, Gg129⟩ := (id (Arv.pad V128 (pad_rep [(.int (nar .byte (own_B0 p1))), (.int (nar .byte (own_B1 p1)))] (.int (0 : Int32)) 1)))
  have hin129 : ¬ ((2 : Int32) < 0 ∨ cl129.slots.size ≤ ((2 : Int32)).toNatClampNeg) := inb_of Sz129 ⟨by decide, by decide⟩
  obtain ⟨T130, h130, X130, e130, W130, st130⟩ := stB X128 hx hZ e128 Ar129 (j := (2 : Int32)) hin129 (g := (mkF m 113 #[.val (.int p1), .val (.int (own_U0 p1)), .val (.int (own_U1 p1)), .val (.int (own_U2 p1)), .val (.int (own_U3 p1)), .val (.int (own_R1 p1)), .val (.int (own_R2 p1)), .val (.int (own_R3 p1)), .val (.int (own_R4 p1)), .val (.ref b112), .val (.ref b113), .val (.ref b116), .unset, .unset, .unset, .unset] [(.int (own_B2 p1)), (.int (2 : Int32)), (.ref b122), (.ref b122)])) rfl rfl (hb hby at_113)
  have NF130 := Fr.snoc X130 NF128 gn_b122
  have OL130 : Old Z n0 h130 := OL128.wr W130 gn_b122
  have KK130 : Keep h0 h130 [] := KK128.wr W130 (Or.inr sz_b122)
  have V130 : Arv Z h130 b122 k122 .byte (3 : Int32) [(.int (nar .byte (own_B0 p1))), (.int (nar .byte (own_B1 p1))), (.int (nar .byte (own_B2 p1)))] (.int (0 : Int32)) := Arv.set Ar129 q129 Sz129 Nn129 Hh129 Gg129 (fits_nar_byte _) W130 2 (by decide) (by decide : 2 < 3)
  obtain ⟨T131, h131, k131, X131, e131, E131, A131, st131⟩ := newP X130 hx hZ (hw _ (List.mem_of_getElem? (i := 7) rfl)) e130 (g := (mkF m 117 #[.val (.int p1), .val (.int (own_U0 p1)), .val (.int (own_U1 p1)), .val (.int (own_U2 p1)), .val (.int (own_U3 p1)), .val (.int (own_R1 p1)), .val (.int (own_R2 p1)), .val (.int (own_R3 p1)), .val (.int (own_R4 p1)), .val (.ref b112), .val (.ref b113), .val (.ref b116), .val (.ref b122), .unset, .unset, .unset] [(.int (4 : Int32))])) rfl (hb hby at_117) rfl (by decide) (cap := 4) (by decide) (by decide) (by decide) (by decide)
  obtain ⟨b131, g131⟩ : ∃ z, z = h130.size := ⟨_, rfl⟩
  rw [← g131] at A131 st131
  have gn_b131 : n0 ≤ b131 := Nat.le_trans (OL130.1 ▸ OL130.2.1) (Nat.le_of_eq g131.symm)
  have sz_b131 : h0.size ≤ b131 := Nat.le_trans KK130.1 (Nat.le_of_eq g131.symm)
  have fx132 : Arv Z h130 b112 k112 .byte (0 : Int32) [] (.int (0 : Int32)) := ((((fx123.ext E122).other W126 (Nat.ne_of_lt lt_b112_b122)).other W128 (Nat.ne_of_lt lt_b112_b122)).other W130 (Nat.ne_of_lt lt_b112_b122))
  have fx133 : Arv Z h130 b113 k113 .byte (1 : Int32) [(.int (nar .byte (own_B0 p1)))] (.int (0 : Int32)) := ((((fx124.ext E122).other W126 (Nat.ne_of_lt lt_b113_b122)).other W128 (Nat.ne_of_lt lt_b113_b122)).other W130 (Nat.ne_of_lt lt_b113_b122))
  have fx134 : Arv Z h130 b116 k116 .byte (2 : Int32) [(.int (nar .byte (own_B0 p1))), (.int (nar .byte (own_B1 p1)))] (.int (0 : Int32)) := ((((V121.ext E122).other W126 (Nat.ne_of_lt lt_b116_b122)).other W128 (Nat.ne_of_lt lt_b116_b122)).other W130 (Nat.ne_of_lt lt_b116_b122))
  have lt_b112_b131 : b112 < b131 := Nat.lt_of_lt_of_le fx132.lt (Nat.le_of_eq g131.symm)
  have lt_b113_b131 : b113 < b131 := Nat.lt_of_lt_of_le fx133.lt (Nat.le_of_eq g131.symm)
  have lt_b116_b131 : b116 < b131 := Nat.lt_of_lt_of_le fx134.lt (Nat.le_of_eq g131.symm)
  have lt_b122_b131 : b122 < b131 := Nat.lt_of_lt_of_le V130.lt (Nat.le_of_eq g131.symm)
  have OL131 : Old Z n0 h131 := OL130.ext E131
  have KK131 : Keep h0 h131 [] := KK130.ext E131
  have V131 : Arv Z h131 b131 k131 .byte (4 : Int32) [] (.int (0 : Int32)) := Arv.new A131 (by decide)
  obtain ⟨cl135, Ar135, q135, Sz135, Nn135, Hh135, Gg135⟩ := (id (Arv.pad V131 (pad_rep [] (.int (0 : Int32)) 1)))
  have hin135 : ¬ ((0 : Int32) < 0 ∨ cl135.slots.size ≤ ((0 : Int32)).toNatClampNeg) := inb_of Sz135 ⟨by decide, by decide⟩
  obtain ⟨T136, h136, X136, e136, W136, st136⟩ := stB X131 hx hZ e131 Ar135 (j := (0 : Int32)) hin135 (g := (mkF m 123 #[.val (.int p1), .val (.int (own_U0 p1)), .val (.int (own_U1 p1)), .val (.int (own_U2 p1)), .val (.int (own_U3 p1)), .val (.int (own_R1 p1)), .val (.int (own_R2 p1)), .val (.int (own_R3 p1)), .val (.int (own_R4 p1)), .val (.ref b112), .val (.ref b113), .val (.ref b116), .val (.ref b122), .unset, .unset, .unset] [(.int (own_B0 p1)), (.int (0 : Int32)), (.ref b131), (.ref b131)])) rfl rfl (hb hby at_123)
  have NF136 := Fr.snoc X136 NF130 gn_b131
  have OL136 : Old Z n0 h136 := OL131.wr W136 gn_b131
  have KK136 : Keep h0 h136 [] := KK131.wr W136 (Or.inr sz_b131)
  have V136 : Arv Z h136 b131 k131 .byte (4 : Int32) [(.int (nar .byte (own_B0 p1)))] (.int (0 : Int32)) := Arv.set Ar135 q135 Sz135 Nn135 Hh135 Gg135 (fits_nar_byte _) W136 0 (by decide) (by decide : 0 < 1)
  obtain ⟨cl137, Ar137, q137, Sz137, Nn137, Hh137, Gg137⟩ := (id (Arv.pad V136 (pad_rep [(.int (nar .byte (own_B0 p1)))] (.int (0 : Int32)) 1)))
  have hin137 : ¬ ((1 : Int32) < 0 ∨ cl137.slots.size ≤ ((1 : Int32)).toNatClampNeg) := inb_of Sz137 ⟨by decide, by decide⟩
  obtain ⟨T138, h138, X138, e138, W138, st138⟩ := stB X136 hx hZ e136 Ar137 (j := (1 : Int32)) hin137 (g := (mkF m 128 #[.val (.int p1), .val (.int (own_U0 p1)), .val (.int (own_U1 p1)), .val (.int (own_U2 p1)), .val (.int (own_U3 p1)), .val (.int (own_R1 p1)), .val (.int (own_R2 p1)), .val (.int (own_R3 p1)), .val (.int (own_R4 p1)), .val (.ref b112), .val (.ref b113), .val (.ref b116), .val (.ref b122), .unset, .unset, .unset] [(.int (own_B1 p1)), (.int (1 : Int32)), (.ref b131), (.ref b131)])) rfl rfl (hb hby at_128)
  have NF138 := Fr.snoc X138 NF136 gn_b131
  have OL138 : Old Z n0 h138 := OL136.wr W138 gn_b131
  have KK138 : Keep h0 h138 [] := KK136.wr W138 (Or.inr sz_b131)
  have V138 : Arv Z h138 b131 k131 .byte (4 : Int32) [(.int (nar .byte (own_B0 p1))), (.int (nar .byte (own_B1 p1)))] (.int (0 : Int32)) := Arv.set Ar137 q137 Sz137 Nn137 Hh137 Gg137 (fits_nar_byte _) W138 1 (by decide) (by decide : 1 < 2)
  obtain ⟨cl139, Ar139, q139, Sz139, Nn139, Hh139, Gg139⟩ := (id (Arv.pad V138 (pad_rep [(.int (nar .byte (own_B0 p1))), (.int (nar .byte (own_B1 p1)))] (.int (0 : Int32)) 1)))
  have hin139 : ¬ ((2 : Int32) < 0 ∨ cl139.slots.size ≤ ((2 : Int32)).toNatClampNeg) := inb_of Sz139 ⟨by decide, by decide⟩
  obtain ⟨T140, h140, X140, e140, W140, st140⟩ := stB X138 hx hZ e138 Ar139 (j := (2 : Int32)) hin139 (g := (mkF m 133 #[.val (.int p1), .val (.int (own_U0 p1)), .val (.int (own_U1 p1)), .val (.int (own_U2 p1)), .val (.int (own_U3 p1)), .val (.int (own_R1 p1)), .val (.int (own_R2 p1)), .val (.int (own_R3 p1)), .val (.int (own_R4 p1)), .val (.ref b112), .val (.ref b113), .val (.ref b116), .val (.ref b122), .unset, .unset, .unset] [(.int (own_B2 p1)), (.int (2 : Int32)), (.ref b131), (.ref b131)])) rfl rfl (hb hby at_133)
  have NF140 := Fr.snoc X140 NF138 gn_b131
  have OL140 : Old Z n0 h140 := OL138.wr W140 gn_b131
  have KK140 : Keep h0 h140 [] := KK138.wr W140 (Or.inr sz_b131)
  have V140 : Arv Z h140 b131 k131 .byte (4 : Int32) [(.int (nar .byte (own_B0 p1))), (.int (nar .byte (own_B1 p1))), (.int (nar .byte (own_B2 p1)))] (.int (0 : Int32)) := Arv.set Ar139 q139 Sz139 Nn139 Hh139 Gg139 (fits_nar_byte _) W140 2 (by decide) (by decide : 2 < 3)
  obtain ⟨cl141, Ar141, q141, Sz141, Nn141, Hh141, Gg141⟩ := (id (Arv.pad V140 (pad_rep [(.int (nar .byte (own_B0 p1))), (.int (nar .byte (own_B1 p1))), (.int (nar .byte (own_B2 p1)))] (.int (0 : Int32)) 1)))
  have hin141 : ¬ ((3 : Int32) < 0 ∨ cl141.slots.size ≤ ((3 : Int32)).toNatClampNeg) := inb_of Sz141 ⟨by decide, by decide⟩
  obtain ⟨T142, h142, X142, e142, W142, st142⟩ := stB X140 hx hZ e140 Ar141 (j := (3 : Int32)) hin141 (g := (mkF m 139 #[.val (.int p1), .val (.int (own_U0 p1)), .val (.int (own_U1 p1)), .val (.int (own_U2 p1)), .val (.int (own_U3 p1)), .val (.int (own_R1 p1)), .val (.int (own_R2 p1)), .val (.int (own_R3 p1)), .val (.int (own_R4 p1)), .val (.ref b112), .val (.ref b113), .val (.ref b116), .val (.ref b122), .unset, .unset, .unset] [(.int (own_B3 p1)), (.int (3 : Int32)), (.ref b131), (.ref b131)])) rfl rfl (hb hby at_139)
  have NF142 := Fr.snoc X142 NF140 gn_b131
  have OL142 : Old Z n0 h142 := OL140.wr W142 gn_b131
  have KK142 : Keep h0 h142 [] := KK140.wr W142 (Or.inr sz_b131)
  have V142 : Arv Z h142 b131 k131 .byte (4 : Int32) [(.int (nar .byte (own_B0 p1))), (.int (nar .byte (own_B1 p1))), (.int (nar .byte (own_B2 p1))), (.int (nar .byte (own_B3 p1)))] (.int (0 : Int32)) := Arv.set Ar141 q141 Sz141 Nn141 Hh141 Gg141 (fits_nar_byte _) W142 3 (by decide) (by decide : 3 < 4)
  obtain ⟨T143, h143, k143, X143, e143, E143, A143, st143⟩ := newP X142 hx hZ (hw _ (List.mem_of_getElem? (i := 7) rfl)) e142 (g := (mkF m 144 #[.val (.int p1), .val (.int (own_U0 p1)), .val (.int (own_U1 p1)), .val (.int (own_U2 p1)), .val (.int (own_U3 p1)), .val (.int (own_R1 p1)), .val (.int (own_R2 p1)), .val (.int (own_R3 p1)), .val (.int (own_R4 p1)), .val (.ref b112), .val (.ref b113), .val (.ref b116), .val (.ref b122), .val (.ref b131), .unset, .unset] [(.int (6 : Int32))])) rfl (hb hby at_144) rfl (by decide) (cap := 6) (by decide) (by decide) (by decide) (by decide)
  obtain ⟨b143, g143⟩ : ∃ z, z = h142.size := ⟨_, rfl⟩
  rw [← g143] at A143 st143
  have gn_b143 : n0 ≤ b143 := Nat.le_trans (OL142.1 ▸ OL142.2.1) (Nat.le_of_eq g143.symm)
  have sz_b143 : h0.size ≤ b143 := Nat.le_trans KK142.1 (Nat.le_of_eq g143.symm)
  have fx144 : Arv Z h142 b112 k112 .byte (0 : Int32) [] (.int (0 : Int32)) := (((((fx132.ext E131).other W136 (Nat.ne_of_lt lt_b112_b131)).other W138 (Nat.ne_of_lt lt_b112_b131)).other W140 (Nat.ne_of_lt lt_b112_b131)).other W142 (Nat.ne_of_lt lt_b112_b131))
  have fx145 : Arv Z h142 b113 k113 .byte (1 : Int32) [(.int (nar .byte (own_B0 p1)))] (.int (0 : Int32)) := (((((fx133.ext E131).other W136 (Nat.ne_of_lt lt_b113_b131)).other W138 (Nat.ne_of_lt lt_b113_b131)).other W140 (Nat.ne_of_lt lt_b113_b131)).other W142 (Nat.ne_of_lt lt_b113_b131))
  have fx146 : Arv Z h142 b116 k116 .byte (2 : Int32) [(.int (nar .byte (own_B0 p1))), (.int (nar .byte (own_B1 p1)))] (.int (0 : Int32)) := (((((fx134.ext E131).other W136 (Nat.ne_of_lt lt_b116_b131)).other W138 (Nat.ne_of_lt lt_b116_b131)).other W140 (Nat.ne_of_lt lt_b116_b131)).other W142 (Nat.ne_of_lt lt_b116_b131))
  have fx147 : Arv Z h142 b122 k122 .byte (3 : Int32) [(.int (nar .byte (own_B0 p1))), (.int (nar .byte (own_B1 p1))), (.int (nar .byte (own_B2 p1)))] (.int (0 : Int32)) := (((((V130.ext E131).other W136 (Nat.ne_of_lt lt_b122_b131)).other W138 (Nat.ne_of_lt lt_b122_b131)).other W140 (Nat.ne_of_lt lt_b122_b131)).other W142 (Nat.ne_of_lt lt_b122_b131))
  have lt_b112_b143 : b112 < b143 := Nat.lt_of_lt_of_le fx144.lt (Nat.le_of_eq g143.symm)
  have lt_b113_b143 : b113 < b143 := Nat.lt_of_lt_of_le fx145.lt (Nat.le_of_eq g143.symm)
  have lt_b116_b143 : b116 < b143 := Nat.lt_of_lt_of_le fx146.lt (Nat.le_of_eq g143.symm)
  have lt_b122_b143 : b122 < b143 := Nat.lt_of_lt_of_le fx147.lt (Nat.le_of_eq g143.symm)
  have lt_b131_b143 : b131 < b143 := Nat.lt_of_lt_of_le V142.lt (Nat.le_of_eq g143.symm)
  have OL143 : Old Z n0 h143 := OL142.ext E143
  have KK143 : Keep h0 h143 [] := KK142.ext E143
  have V143 : Arv Z h143 b143 k143 .byte (6 : Int32) [] (.int (0 : Int32)) := Arv.new A143 (by decide)
  obtain ⟨cl148, Ar148, q148, Sz148, Nn148, Hh148, Gg148⟩ := (id (Arv.pad V143 (pad_rep [] (.int (0 : Int32)) 1)))
  have hin148 : ¬ ((0 : Int32) < 0 ∨ cl148.slots.size ≤ ((0 : Int32)).toNatClampNeg) := inb_of Sz148 ⟨by decide, by decide⟩
  obtain ⟨T149, h149, X149, e149, W149, st149⟩ := stB X143 hx hZ e143 Ar148 (j := (0 : Int32)) hin148 (g := (mkF m 150 #[.val (.int p1), .val (.int (own_U0 p1)), .val (.int (own_U1 p1)), .val (.int (own_U2 p1)), .val (.int (own_U3 p1)), .val (.int (own_R1 p1)), .val (.int (own_R2 p1)), .val (.int (own_R3 p1)), .val (.int (own_R4 p1)), .val (.ref b112), .val (.ref b113), .val (.ref b116), .val (.ref b122), .val (.ref b131), .unset, .unset] [(.int (own_B0 p1)), (.int (0 : Int32)), (.ref b143), (.ref b143)])) rfl rfl (hb hby at_150)
  have NF149 := Fr.snoc X149 NF142 gn_b143
  have OL149 : Old Z n0 h149 := OL143.wr W149 gn_b143
  have KK149 : Keep h0 h149 [] := KK143.wr W149 (Or.inr sz_b143)
  have V149 : Arv Z h149 b143 k143 .byte (6 : Int32) [(.int (nar .byte (own_B0 p1)))] (.int (0 : Int32)) := Arv.set Ar148 q148 Sz148 Nn148 Hh148 Gg148 (fits_nar_byte _) W149 0 (by decide) (by decide : 0 < 1)
  obtain ⟨cl150, Ar150, q150, Sz150, Nn150, Hh150, Gg150⟩ := (id (Arv.pad V149 (pad_rep [(.int (nar .byte (own_B0 p1)))] (.int (0 : Int32)) 1)))
  have hin150 : ¬ ((1 : Int32) < 0 ∨ cl150.slots.size ≤ ((1 : Int32)).toNatClampNeg) := inb_of Sz150 ⟨by decide, by decide⟩
  obtain ⟨T151, h151, X151, e151, W151, st151⟩ := stB X149 hx hZ e149 Ar150 (j := (1 : Int32)) hin150 (g := (mkF m 155 #[.val (.int p1), .val (.int (own_U0 p1)), .val (.int (own_U1 p1)), .val (.int (own_U2 p1)), .val (.int (own_U3 p1)), .val (.int (own_R1 p1)), .val (.int (own_R2 p1)), .val (.int (own_R3 p1)), .val (.int (own_R4 p1)), .val (.ref b112), .val (.ref b113), .val (.ref b116), .val (.ref b122), .val (.ref b131), .unset, .unset] [(.int (own_B1 p1)), (.int (1 : Int32)), (.ref b143), (.ref b143)])) rfl rfl (hb hby at_155)
  have NF151 := Fr.snoc X151 NF149 gn_b143
  have OL151 : Old Z n0 h151 := OL149.wr W151 gn_b143
  have KK151 : Keep h0 h151 [] := KK149.wr W151 (Or.inr sz_b143)
  have V151 : Arv Z h151 b143 k143 .byte (6 : Int32) [(.int (nar .byte (own_B0 p1))), (.int (nar .byte (own_B1 p1)))] (.int (0 : Int32)) := Arv.set Ar150 q150 Sz150 Nn150 Hh150 Gg150 (fits_nar_byte _) W151 1 (by decide) (by decide : 1 < 2)
  obtain ⟨cl152, Ar152, q152, Sz152, Nn152, Hh152, Gg152⟩ := (id (Arv.pad V151 (pad_rep [(.int (nar .byte (own_B0 p1))), (.int (nar .byte (own_B1 p1)))] (.int (0 : Int32)) 1)))
  have hin152 : ¬ ((2 : Int32) < 0 ∨ cl152.slots.size ≤ ((2 : Int32)).toNatClampNeg) := inb_of Sz152 ⟨by decide, by decide⟩
  obtain ⟨T153, h153, X153, e153, W153, st153⟩ := stB X151 hx hZ e151 Ar152 (j := (2 : Int32)) hin152 (g := (mkF m 160 #[.val (.int p1), .val (.int (own_U0 p1)), .val (.int (own_U1 p1)), .val (.int (own_U2 p1)), .val (.int (own_U3 p1)), .val (.int (own_R1 p1)), .val (.int (own_R2 p1)), .val (.int (own_R3 p1)), .val (.int (own_R4 p1)), .val (.ref b112), .val (.ref b113), .val (.ref b116), .val (.ref b122), .val (.ref b131), .unset, .unset] [(.int (own_B2 p1)), (.int (2 : Int32)), (.ref b143), (.ref b143)])) rfl rfl (hb hby at_160)
  have NF153 := Fr.snoc X153 NF151 gn_b143
  have OL153 : Old Z n0 h153 := OL151.wr W153 gn_b143
  have KK153 : Keep h0 h153 [] := KK151.wr W153 (Or.inr sz_b143)
  have V153 : Arv Z h153 b143 k143 .byte (6 : Int32) [(.int (nar .byte (own_B0 p1))), (.int (nar .byte (own_B1 p1))), (.int (nar .byte (own_B2 p1)))] (.int (0 : Int32)) := Arv.set Ar152 q152 Sz152 Nn152 Hh152 Gg152 (fits_nar_byte _) W153 2 (by decide) (by decide : 2 < 3)
  obtain ⟨cl154, Ar154, q154, Sz154, Nn154, Hh154, Gg154⟩ := (id (Arv.pad V153 (pad_rep [(.int (nar .byte (own_B0 p1))), (.int (nar .byte (own_B1 p1))), (.int (nar .byte (own_B2 p1)))] (.int (0 : Int32)) 1)))
  have hin154 : ¬ ((3 : Int32) < 0 ∨ cl154.slots.size ≤ ((3 : Int32)).toNatClampNeg) := inb_of Sz154 ⟨by decide, by decide⟩
  obtain ⟨T155, h155, X155, e155, W155, st155⟩ := stB X153 hx hZ e153 Ar154 (j := (3 : Int32)) hin154 (g := (mkF m 166 #[.val (.int p1), .val (.int (own_U0 p1)), .val (.int (own_U1 p1)), .val (.int (own_U2 p1)), .val (.int (own_U3 p1)), .val (.int (own_R1 p1)), .val (.int (own_R2 p1)), .val (.int (own_R3 p1)), .val (.int (own_R4 p1)), .val (.ref b112), .val (.ref b113), .val (.ref b116), .val (.ref b122), .val (.ref b131), .unset, .unset] [(.int (own_B3 p1)), (.int (3 : Int32)), (.ref b143), (.ref b143)])) rfl rfl (hb hby at_166)
  have NF155 := Fr.snoc X155 NF153 gn_b143
  have OL155 : Old Z n0 h155 := OL153.wr W155 gn_b143
  have KK155 : Keep h0 h155 [] := KK153.wr W155 (Or.inr sz_b143)
  have V155 : Arv Z h155 b143 k143 .byte (6 : Int32) [(.int (nar .byte (own_B0 p1))), (.int (nar .byte (own_B1 p1))), (.int (nar .byte (own_B2 p1))), (.int (nar .byte (own_B3 p1)))] (.int (0 : Int32)) := Arv.set Ar154 q154 Sz154 Nn154 Hh154 Gg154 (fits_nar_byte _) W155 3 (by decide) (by decide : 3 < 4)
  obtain ⟨cl156, Ar156, q156, Sz156, Nn156, Hh156, Gg156⟩ := (id (Arv.pad V155 (pad_rep [(.int (nar .byte (own_B0 p1))), (.int (nar .byte (own_B1 p1))), (.int (nar .byte (own_B2 p1))), (.int (nar .byte (own_B3 p1)))] (.int (0 : Int32)) 1)))
  have hin156 : ¬ ((4 : Int32) < 0 ∨ cl156.slots.size ≤ ((4 : Int32)).toNatClampNeg) := inb_of Sz156 ⟨by decide, by decide⟩
  obtain ⟨T157, h157, X157, e157, W157, st157⟩ := stB X155 hx hZ e155 Ar156 (j := (4 : Int32)) hin156 (g := (mkF m 172 #[.val (.int p1), .val (.int (own_U0 p1)), .val (.int (own_U1 p1)), .val (.int (own_U2 p1)), .val (.int (own_U3 p1)), .val (.int (own_R1 p1)), .val (.int (own_R2 p1)), .val (.int (own_R3 p1)), .val (.int (own_R4 p1)), .val (.ref b112), .val (.ref b113), .val (.ref b116), .val (.ref b122), .val (.ref b131), .unset, .unset] [(.int (own_B4 p1)), (.int (4 : Int32)), (.ref b143), (.ref b143)])) rfl rfl (hb hby at_172)
  have NF157 := Fr.snoc X157 NF155 gn_b143
  have OL157 : Old Z n0 h157 := OL155.wr W157 gn_b143
  have KK157 : Keep h0 h157 [] := KK155.wr W157 (Or.inr sz_b143)
  have V157 : Arv Z h157 b143 k143 .byte (6 : Int32) [(.int (nar .byte (own_B0 p1))), (.int (nar .byte (own_B1 p1))), (.int (nar .byte (own_B2 p1))), (.int (nar .byte (own_B3 p1))), (.int (nar .byte (own_B4 p1)))] (.int (0 : Int32)) := Arv.set Ar156 q156 Sz156 Nn156 Hh156 Gg156 (fits_nar_byte _) W157 4 (by decide) (by decide : 4 < 5)
  obtain ⟨cl158, Ar158, q158, Sz158, Nn158, Hh158, Gg158⟩ := (id (Arv.pad V157 (pad_rep [(.int (nar .byte (own_B0 p1))), (.int (nar .byte (own_B1 p1))), (.int (nar .byte (own_B2 p1))), (.int (nar .byte (own_B3 p1))), (.int (nar .byte (own_B4 p1)))] (.int (0 : Int32)) 1)))
  have hin158 : ¬ ((5 : Int32) < 0 ∨ cl158.slots.size ≤ ((5 : Int32)).toNatClampNeg) := inb_of Sz158 ⟨by decide, by decide⟩
  obtain ⟨T159, h159, X159, e159, W159, st159⟩ := stB X157 hx hZ e157 Ar158 (j := (5 : Int32)) hin158 (g := (mkF m 181 #[.val (.int p1), .val (.int (own_U0 p1)), .val (.int (own_U1 p1)), .val (.int (own_U2 p1)), .val (.int (own_U3 p1)), .val (.int (own_R1 p1)), .val (.int (own_R2 p1)), .val (.int (own_R3 p1)), .val (.int (own_R4 p1)), .val (.ref b112), .val (.ref b113), .val (.ref b116), .val (.ref b122), .val (.ref b131), .unset, .unset] [(.int (own_B5 p1)), (.int (5 : Int32)), (.ref b143), (.ref b143)])) rfl rfl (hb hby at_181)
  have NF159 := Fr.snoc X159 NF157 gn_b143
  have OL159 : Old Z n0 h159 := OL157.wr W159 gn_b143
  have KK159 : Keep h0 h159 [] := KK157.wr W159 (Or.inr sz_b143)
  have V159 : Arv Z h159 b143 k143 .byte (6 : Int32) [(.int (nar .byte (own_B0 p1))), (.int (nar .byte (own_B1 p1))), (.int (nar .byte (own_B2 p1))), (.int (nar .byte (own_B3 p1))), (.int (nar .byte (own_B4 p1))), (.int (nar .byte (own_B5 p1)))] (.int (0 : Int32)) := Arv.set Ar158 q158 Sz158 Nn158 Hh158 Gg158 (fits_nar_byte _) W159 5 (by decide) (by decide : 5 < 6)
  obtain ⟨T160, h160, k160, X160, e160, E160, A160, st160⟩ := newP X159 hx hZ (hw _ (List.mem_of_getElem? (i := 7) rfl)) e159 (g := (mkF m 186 #[.val (.int p1), .val (.int (own_U0 p1)), .val (.int (own_U1 p1)), .val (.int (own_U2 p1)), .val (.int (own_U3 p1)), .val (.int (own_R1 p1)), .val (.int (own_R2 p1)), .val (.int (own_R3 p1)), .val (.int (own_R4 p1)), .val (.ref b112), .val (.ref b113), .val (.ref b116), .val (.ref b122), .val (.ref b131), .val (.ref b143), .unset] [(.int (9 : Int32))])) rfl (hb hby at_186) rfl (by decide) (cap := 9) (by decide) (by decide) (by decide) (by decide)
  obtain ⟨b160, g160⟩ : ∃ z, z = h159.size := ⟨_, rfl⟩
  rw [← g160] at A160 st160
  have gn_b160 : n0 ≤ b160 := Nat.le_trans (OL159.1 ▸ OL159.2.1) (Nat.le_of_eq g160.symm)
  have sz_b160 : h0.size ≤ b160 := Nat.le_trans KK159.1 (Nat.le_of_eq g160.symm)
  have fx161 : Arv Z h159 b112 k112 .byte (0 : Int32) [] (.int (0 : Int32)) := (((((((fx144.ext E143).other W149 (Nat.ne_of_lt lt_b112_b143)).other W151 (Nat.ne_of_lt lt_b112_b143)).other W153 (Nat.ne_of_lt lt_b112_b143)).other W155 (Nat.ne_of_lt lt_b112_b143)).other W157 (Nat.ne_of_lt lt_b112_b143)).other W159 (Nat.ne_of_lt lt_b112_b143))
  have fx162 : Arv Z h159 b113 k113 .byte (1 : Int32) [(.int (nar .byte (own_B0 p1)))] (.int (0 : Int32)) := (((((((fx145.ext E143).other W149 (Nat.ne_of_lt lt_b113_b143)).other W151 (Nat.ne_of_lt lt_b113_b143)).other W153 (Nat.ne_of_lt lt_b113_b143)).other W155 (Nat.ne_of_lt lt_b113_b143)).other W157 (Nat.ne_of_lt lt_b113_b143)).other W159 (Nat.ne_of_lt lt_b113_b143))
  have fx163 : Arv Z h159 b116 k116 .byte (2 : Int32) [(.int (nar .byte (own_B0 p1))), (.int (nar .byte (own_B1 p1)))] (.int (0 : Int32)) := (((((((fx146.ext E143).other W149 (Nat.ne_of_lt lt_b116_b143)).other W151 (Nat.ne_of_lt lt_b116_b143)).other W153 (Nat.ne_of_lt lt_b116_b143)).other W155 (Nat.ne_of_lt lt_b116_b143)).other W157 (Nat.ne_of_lt lt_b116_b143)).other W159 (Nat.ne_of_lt lt_b116_b143))
  have fx164 : Arv Z h159 b122 k122 .byte (3 : Int32) [(.int (nar .byte (own_B0 p1))), (.int (nar .byte (own_B1 p1))), (.int (nar .byte (own_B2 p1)))] (.int (0 : Int32)) := (((((((fx147.ext E143).other W149 (Nat.ne_of_lt lt_b122_b143)).other W151 (Nat.ne_of_lt lt_b122_b143)).other W153 (Nat.ne_of_lt lt_b122_b143)).other W155 (Nat.ne_of_lt lt_b122_b143)).other W157 (Nat.ne_of_lt lt_b122_b143)).other W159 (Nat.ne_of_lt lt_b122_b143))
  have fx165 : Arv Z h159 b131 k131 .byte (4 : Int32) [(.int (nar .byte (own_B0 p1))), (.int (nar .byte (own_B1 p1))), (.int (nar .byte (own_B2 p1))), (.int (nar .byte (own_B3 p1)))] (.int (0 : Int32)) := (((((((V142.ext E143).other W149 (Nat.ne_of_lt lt_b131_b143)).other W151 (Nat.ne_of_lt lt_b131_b143)).other W153 (Nat.ne_of_lt lt_b131_b143)).other W155 (Nat.ne_of_lt lt_b131_b143)).other W157 (Nat.ne_of_lt lt_b131_b143)).other W159 (Nat.ne_of_lt lt_b131_b143))
  have lt_b112_b160 : b112 < b160 := Nat.lt_of_lt_of_le fx161.lt (Nat.le_of_eq g160.symm)
  have lt_b113_b160 : b113 < b160 := Nat.lt_of_lt_of_le fx162.lt (Nat.le_of_eq g160.symm)
  have lt_b116_b160 : b116 < b160 := Nat.lt_of_lt_of_le fx163.lt (Nat.le_of_eq g160.symm)
  have lt_b122_b160 : b122 < b160 := Nat.lt_of_lt_of_le fx164.lt (Nat.le_of_eq g160.symm)
  have lt_b131_b160 : b131 < b160 := Nat.lt_of_lt_of_le fx165.lt (Nat.le_of_eq g160.symm)
  have lt_b143_b160 : b143 < b160 := Nat.lt_of_lt_of_le V159.lt (Nat.le_of_eq g160.symm)
  have OL160 : Old Z n0 h160 := OL159.ext E160
  have KK160 : Keep h0 h160 [] := KK159.ext E160
  have V160 : Arv Z h160 b160 k160 .byte (9 : Int32) [] (.int (0 : Int32)) := Arv.new A160 (by decide)
  obtain ⟨cl166, Ar166, q166, Sz166, Nn166, Hh166, Gg166⟩ := (id (Arv.pad V160 (pad_rep [] (.int (0 : Int32)) 1)))
  have hin166 : ¬ ((0 : Int32) < 0 ∨ cl166.slots.size ≤ ((0 : Int32)).toNatClampNeg) := inb_of Sz166 ⟨by decide, by decide⟩
  obtain ⟨T167, h167, X167, e167, W167, st167⟩ := stB X160 hx hZ e160 Ar166 (j := (0 : Int32)) hin166 (g := (mkF m 192 #[.val (.int p1), .val (.int (own_U0 p1)), .val (.int (own_U1 p1)), .val (.int (own_U2 p1)), .val (.int (own_U3 p1)), .val (.int (own_R1 p1)), .val (.int (own_R2 p1)), .val (.int (own_R3 p1)), .val (.int (own_R4 p1)), .val (.ref b112), .val (.ref b113), .val (.ref b116), .val (.ref b122), .val (.ref b131), .val (.ref b143), .unset] [(.int (49 : Int32)), (.int (0 : Int32)), (.ref b160), (.ref b160)])) rfl rfl (hb hby at_192)
  have NF167 := Fr.snoc X167 NF159 gn_b160
  have OL167 : Old Z n0 h167 := OL160.wr W167 gn_b160
  have KK167 : Keep h0 h167 [] := KK160.wr W167 (Or.inr sz_b160)
  have V167 : Arv Z h167 b160 k160 .byte (9 : Int32) [(.int (49 : Int32))] (.int (0 : Int32)) := Arv.set Ar166 q166 Sz166 Nn166 Hh166 Gg166 (fits_nar_byte _) W167 0 (by decide) (by decide : 0 < 1)
  obtain ⟨cl168, Ar168, q168, Sz168, Nn168, Hh168, Gg168⟩ := (id (Arv.pad V167 (pad_rep [(.int (49 : Int32))] (.int (0 : Int32)) 1)))
  have hin168 : ¬ ((1 : Int32) < 0 ∨ cl168.slots.size ≤ ((1 : Int32)).toNatClampNeg) := inb_of Sz168 ⟨by decide, by decide⟩
  obtain ⟨T169, h169, X169, e169, W169, st169⟩ := stB X167 hx hZ e167 Ar168 (j := (1 : Int32)) hin168 (g := (mkF m 197 #[.val (.int p1), .val (.int (own_U0 p1)), .val (.int (own_U1 p1)), .val (.int (own_U2 p1)), .val (.int (own_U3 p1)), .val (.int (own_R1 p1)), .val (.int (own_R2 p1)), .val (.int (own_R3 p1)), .val (.int (own_R4 p1)), .val (.ref b112), .val (.ref b113), .val (.ref b116), .val (.ref b122), .val (.ref b131), .val (.ref b143), .unset] [(.int (50 : Int32)), (.int (1 : Int32)), (.ref b160), (.ref b160)])) rfl rfl (hb hby at_197)
  have NF169 := Fr.snoc X169 NF167 gn_b160
  have OL169 : Old Z n0 h169 := OL167.wr W169 gn_b160
  have KK169 : Keep h0 h169 [] := KK167.wr W169 (Or.inr sz_b160)
  have V169 : Arv Z h169 b160 k160 .byte (9 : Int32) [(.int (49 : Int32)), (.int (50 : Int32))] (.int (0 : Int32)) := Arv.set Ar168 q168 Sz168 Nn168 Hh168 Gg168 (fits_nar_byte _) W169 1 (by decide) (by decide : 1 < 2)
  obtain ⟨cl170, Ar170, q170, Sz170, Nn170, Hh170, Gg170⟩ := (id (Arv.pad V169 (pad_rep [(.int (49 : Int32)), (.int (50 : Int32))] (.int (0 : Int32)) 1)))
  have hin170 : ¬ ((2 : Int32) < 0 ∨ cl170.slots.size ≤ ((2 : Int32)).toNatClampNeg) := inb_of Sz170 ⟨by decide, by decide⟩
  obtain ⟨T171, h171, X171, e171, W171, st171⟩ := stB X169 hx hZ e169 Ar170 (j := (2 : Int32)) hin170 (g := (mkF m 202 #[.val (.int p1), .val (.int (own_U0 p1)), .val (.int (own_U1 p1)), .val (.int (own_U2 p1)), .val (.int (own_U3 p1)), .val (.int (own_R1 p1)), .val (.int (own_R2 p1)), .val (.int (own_R3 p1)), .val (.int (own_R4 p1)), .val (.ref b112), .val (.ref b113), .val (.ref b116), .val (.ref b122), .val (.ref b131), .val (.ref b143), .unset] [(.int (51 : Int32)), (.int (2 : Int32)), (.ref b160), (.ref b160)])) rfl rfl (hb hby at_202)
  have NF171 := Fr.snoc X171 NF169 gn_b160
  have OL171 : Old Z n0 h171 := OL169.wr W171 gn_b160
  have KK171 : Keep h0 h171 [] := KK169.wr W171 (Or.inr sz_b160)
  have V171 : Arv Z h171 b160 k160 .byte (9 : Int32) [(.int (49 : Int32)), (.int (50 : Int32)), (.int (51 : Int32))] (.int (0 : Int32)) := Arv.set Ar170 q170 Sz170 Nn170 Hh170 Gg170 (fits_nar_byte _) W171 2 (by decide) (by decide : 2 < 3)
  obtain ⟨cl172, Ar172, q172, Sz172, Nn172, Hh172, Gg172⟩ := (id (Arv.pad V171 (pad_rep [(.int (49 : Int32)), (.int (50 : Int32)), (.int (51 : Int32))] (.int (0 : Int32)) 1)))
  have hin172 : ¬ ((3 : Int32) < 0 ∨ cl172.slots.size ≤ ((3 : Int32)).toNatClampNeg) := inb_of Sz172 ⟨by decide, by decide⟩
  obtain ⟨T173, h173, X173, e173, W173, st173⟩ := stB X171 hx hZ e171 Ar172 (j := (3 : Int32)) hin172 (g := (mkF m 207 #[.val (.int p1), .val (.int (own_U0 p1)), .val (.int (own_U1 p1)), .val (.int (own_U2 p1)), .val (.int (own_U3 p1)), .val (.int (own_R1 p1)), .val (.int (own_R2 p1)), .val (.int (own_R3 p1)), .val (.int (own_R4 p1)), .val (.ref b112), .val (.ref b113), .val (.ref b116), .val (.ref b122), .val (.ref b131), .val (.ref b143), .unset] [(.int (52 : Int32)), (.int (3 : Int32)), (.ref b160), (.ref b160)])) rfl rfl (hb hby at_207)
  have NF173 := Fr.snoc X173 NF171 gn_b160
  have OL173 : Old Z n0 h173 := OL171.wr W173 gn_b160
  have KK173 : Keep h0 h173 [] := KK171.wr W173 (Or.inr sz_b160)
  have V173 : Arv Z h173 b160 k160 .byte (9 : Int32) [(.int (49 : Int32)), (.int (50 : Int32)), (.int (51 : Int32)), (.int (52 : Int32))] (.int (0 : Int32)) := Arv.set Ar172 q172 Sz172 Nn172 Hh172 Gg172 (fits_nar_byte _) W173 3 (by decide) (by decide : 3 < 4)
  obtain ⟨cl174, Ar174, q174, Sz174, Nn174, Hh174, Gg174⟩ := (id (Arv.pad V173 (pad_rep [(.int (49 : Int32)), (.int (50 : Int32)), (.int (51 : Int32)), (.int (52 : Int32))] (.int (0 : Int32)) 1)))
  have hin174 : ¬ ((4 : Int32) < 0 ∨ cl174.slots.size ≤ ((4 : Int32)).toNatClampNeg) := inb_of Sz174 ⟨by decide, by decide⟩
  obtain ⟨T175, h175, X175, e175, W175, st175⟩ := stB X173 hx hZ e173 Ar174 (j := (4 : Int32)) hin174 (g := (mkF m 212 #[.val (.int p1), .val (.int (own_U0 p1)), .val (.int (own_U1 p1)), .val (.int (own_U2 p1)), .val (.int (own_U3 p1)), .val (.int (own_R1 p1)), .val (.int (own_R2 p1)), .val (.int (own_R3 p1)), .val (.int (own_R4 p1)), .val (.ref b112), .val (.ref b113), .val (.ref b116), .val (.ref b122), .val (.ref b131), .val (.ref b143), .unset] [(.int (53 : Int32)), (.int (4 : Int32)), (.ref b160), (.ref b160)])) rfl rfl (hb hby at_212)
  have NF175 := Fr.snoc X175 NF173 gn_b160
  have OL175 : Old Z n0 h175 := OL173.wr W175 gn_b160
  have KK175 : Keep h0 h175 [] := KK173.wr W175 (Or.inr sz_b160)
  have V175 : Arv Z h175 b160 k160 .byte (9 : Int32) [(.int (49 : Int32)), (.int (50 : Int32)), (.int (51 : Int32)), (.int (52 : Int32)), (.int (53 : Int32))] (.int (0 : Int32)) := Arv.set Ar174 q174 Sz174 Nn174 Hh174 Gg174 (fits_nar_byte _) W175 4 (by decide) (by decide : 4 < 5)
  obtain ⟨cl176, Ar176, q176, Sz176, Nn176, Hh176, Gg176⟩ := (id (Arv.pad V175 (pad_rep [(.int (49 : Int32)), (.int (50 : Int32)), (.int (51 : Int32)), (.int (52 : Int32)), (.int (53 : Int32))] (.int (0 : Int32)) 1)))
  have hin176 : ¬ ((5 : Int32) < 0 ∨ cl176.slots.size ≤ ((5 : Int32)).toNatClampNeg) := inb_of Sz176 ⟨by decide, by decide⟩
  obtain ⟨T177, h177, X177, e177, W177, st177⟩ := stB X175 hx hZ e175 Ar176 (j := (5 : Int32)) hin176 (g := (mkF m 217 #[.val (.int p1), .val (.int (own_U0 p1)), .val (.int (own_U1 p1)), .val (.int (own_U2 p1)), .val (.int (own_U3 p1)), .val (.int (own_R1 p1)), .val (.int (own_R2 p1)), .val (.int (own_R3 p1)), .val (.int (own_R4 p1)), .val (.ref b112), .val (.ref b113), .val (.ref b116), .val (.ref b122), .val (.ref b131), .val (.ref b143), .unset] [(.int (54 : Int32)), (.int (5 : Int32)), (.ref b160), (.ref b160)])) rfl rfl (hb hby at_217)
  have NF177 := Fr.snoc X177 NF175 gn_b160
  have OL177 : Old Z n0 h177 := OL175.wr W177 gn_b160
  have KK177 : Keep h0 h177 [] := KK175.wr W177 (Or.inr sz_b160)
  have V177 : Arv Z h177 b160 k160 .byte (9 : Int32) [(.int (49 : Int32)), (.int (50 : Int32)), (.int (51 : Int32)), (.int (52 : Int32)), (.int (53 : Int32)), (.int (54 : Int32))] (.int (0 : Int32)) := Arv.set Ar176 q176 Sz176 Nn176 Hh176 Gg176 (fits_nar_byte _) W177 5 (by decide) (by decide : 5 < 6)
  obtain ⟨cl178, Ar178, q178, Sz178, Nn178, Hh178, Gg178⟩ := (id (Arv.pad V177 (pad_rep [(.int (49 : Int32)), (.int (50 : Int32)), (.int (51 : Int32)), (.int (52 : Int32)), (.int (53 : Int32)), (.int (54 : Int32))] (.int (0 : Int32)) 1)))
  have hin178 : ¬ ((6 : Int32) < 0 ∨ cl178.slots.size ≤ ((6 : Int32)).toNatClampNeg) := inb_of Sz178 ⟨by decide, by decide⟩
  obtain ⟨T179, h179, X179, e179, W179, st179⟩ := stB X177 hx hZ e177 Ar178 (j := (6 : Int32)) hin178 (g := (mkF m 223 #[.val (.int p1), .val (.int (own_U0 p1)), .val (.int (own_U1 p1)), .val (.int (own_U2 p1)), .val (.int (own_U3 p1)), .val (.int (own_R1 p1)), .val (.int (own_R2 p1)), .val (.int (own_R3 p1)), .val (.int (own_R4 p1)), .val (.ref b112), .val (.ref b113), .val (.ref b116), .val (.ref b122), .val (.ref b131), .val (.ref b143), .unset] [(.int (55 : Int32)), (.int (6 : Int32)), (.ref b160), (.ref b160)])) rfl rfl (hb hby at_223)
  have NF179 := Fr.snoc X179 NF177 gn_b160
  have OL179 : Old Z n0 h179 := OL177.wr W179 gn_b160
  have KK179 : Keep h0 h179 [] := KK177.wr W179 (Or.inr sz_b160)
  have V179 : Arv Z h179 b160 k160 .byte (9 : Int32) [(.int (49 : Int32)), (.int (50 : Int32)), (.int (51 : Int32)), (.int (52 : Int32)), (.int (53 : Int32)), (.int (54 : Int32)), (.int (55 : Int32))] (.int (0 : Int32)) := Arv.set Ar178 q178 Sz178 Nn178 Hh178 Gg178 (fits_nar_byte _) W179 6 (by decide) (by decide : 6 < 7)
  obtain ⟨cl180, Ar180, q180, Sz180, Nn180, Hh180, Gg180⟩ := (id (Arv.pad V179 (pad_rep [(.int (49 : Int32)), (.int (50 : Int32)), (.int (51 : Int32)), (.int (52 : Int32)), (.int (53 : Int32)), (.int (54 : Int32)), (.int (55 : Int32))] (.int (0 : Int32)) 1)))
  have hin180 : ¬ ((7 : Int32) < 0 ∨ cl180.slots.size ≤ ((7 : Int32)).toNatClampNeg) := inb_of Sz180 ⟨by decide, by decide⟩
  obtain ⟨T181, h181, X181, e181, W181, st181⟩ := stB X179 hx hZ e179 Ar180 (j := (7 : Int32)) hin180 (g := (mkF m 229 #[.val (.int p1), .val (.int (own_U0 p1)), .val (.int (own_U1 p1)), .val (.int (own_U2 p1)), .val (.int (own_U3 p1)), .val (.int (own_R1 p1)), .val (.int (own_R2 p1)), .val (.int (own_R3 p1)), .val (.int (own_R4 p1)), .val (.ref b112), .val (.ref b113), .val (.ref b116), .val (.ref b122), .val (.ref b131), .val (.ref b143), .unset] [(.int (56 : Int32)), (.int (7 : Int32)), (.ref b160), (.ref b160)])) rfl rfl (hb hby at_229)
  have NF181 := Fr.snoc X181 NF179 gn_b160
  have OL181 : Old Z n0 h181 := OL179.wr W181 gn_b160
  have KK181 : Keep h0 h181 [] := KK179.wr W181 (Or.inr sz_b160)
  have V181 : Arv Z h181 b160 k160 .byte (9 : Int32) [(.int (49 : Int32)), (.int (50 : Int32)), (.int (51 : Int32)), (.int (52 : Int32)), (.int (53 : Int32)), (.int (54 : Int32)), (.int (55 : Int32)), (.int (56 : Int32))] (.int (0 : Int32)) := Arv.set Ar180 q180 Sz180 Nn180 Hh180 Gg180 (fits_nar_byte _) W181 7 (by decide) (by decide : 7 < 8)
  obtain ⟨cl182, Ar182, q182, Sz182, Nn182, Hh182, Gg182⟩ := (id (Arv.pad V181 (pad_rep [(.int (49 : Int32)), (.int (50 : Int32)), (.int (51 : Int32)), (.int (52 : Int32)), (.int (53 : Int32)), (.int (54 : Int32)), (.int (55 : Int32)), (.int (56 : Int32))] (.int (0 : Int32)) 1)))
  have hin182 : ¬ ((8 : Int32) < 0 ∨ cl182.slots.size ≤ ((8 : Int32)).toNatClampNeg) := inb_of Sz182 ⟨by decide, by decide⟩
  obtain ⟨T183, h183, X183, e183, W183, st183⟩ := stB X181 hx hZ e181 Ar182 (j := (8 : Int32)) hin182 (g := (mkF m 235 #[.val (.int p1), .val (.int (own_U0 p1)), .val (.int (own_U1 p1)), .val (.int (own_U2 p1)), .val (.int (own_U3 p1)), .val (.int (own_R1 p1)), .val (.int (own_R2 p1)), .val (.int (own_R3 p1)), .val (.int (own_R4 p1)), .val (.ref b112), .val (.ref b113), .val (.ref b116), .val (.ref b122), .val (.ref b131), .val (.ref b143), .unset] [(.int (57 : Int32)), (.int (8 : Int32)), (.ref b160), (.ref b160)])) rfl rfl (hb hby at_235)
  have NF183 := Fr.snoc X183 NF181 gn_b160
  have OL183 : Old Z n0 h183 := OL181.wr W183 gn_b160
  have KK183 : Keep h0 h183 [] := KK181.wr W183 (Or.inr sz_b160)
  have V183 : Arv Z h183 b160 k160 .byte (9 : Int32) [(.int (49 : Int32)), (.int (50 : Int32)), (.int (51 : Int32)), (.int (52 : Int32)), (.int (53 : Int32)), (.int (54 : Int32)), (.int (55 : Int32)), (.int (56 : Int32)), (.int (57 : Int32))] (.int (0 : Int32)) := Arv.set Ar182 q182 Sz182 Nn182 Hh182 Gg182 (fits_nar_byte _) W183 8 (by decide) (by decide : 8 < 9)
  have fx184 : Arv Z h183 b112 k112 .byte (0 : Int32) [] (.int (0 : Int32)) := ((((((((((fx161.ext E160).other W167 (Nat.ne_of_lt lt_b112_b160)).other W169 (Nat.ne_of_lt lt_b112_b160)).other W171 (Nat.ne_of_lt lt_b112_b160)).other W173 (Nat.ne_of_lt lt_b112_b160)).other W175 (Nat.ne_of_lt lt_b112_b160)).other W177 (Nat.ne_of_lt lt_b112_b160)).other W179 (Nat.ne_of_lt lt_b112_b160)).other W181 (Nat.ne_of_lt lt_b112_b160)).other W183 (Nat.ne_of_lt lt_b112_b160))
  obtain ⟨_, _, ⟨T185, L185, k185, n185⟩, -, X185, ⟨Lc185, hQ185, l185, y185, z185⟩, st185⟩ := Jvm.LawKit.callS X183 hx (y := (⟨"com/example/dongl/dongl/crypto/Crc16", "arc", "([B)I"⟩ : MethodName)) hown (mvT hZ (hw _ (List.mem_of_getElem? (i := 8) rfl))) (mvT hZ (hw _ (List.mem_of_getElem? (i := 9) rfl))) (mvT hZ (hw _ (List.mem_of_getElem? (i := 10) rfl))) (mvT hZ (hw _ (List.mem_of_getElem? (i := 11) rfl))) (by decide) (backOf (W := 0) (rmA0 l Z a0 hw [] h183 n0 b112 k112 OL183 fx184) hZ (hw _ (List.mem_of_getElem? (i := 11) rfl)) (hw _ (List.mem_of_getElem? (i := 10) rfl)) (by decide) (by decide)) (g := (mkF m 240 #[.val (.int p1), .val (.int (own_U0 p1)), .val (.int (own_U1 p1)), .val (.int (own_U2 p1)), .val (.int (own_U3 p1)), .val (.int (own_R1 p1)), .val (.int (own_R2 p1)), .val (.int (own_R3 p1)), .val (.int (own_R4 p1)), .val (.ref b112), .val (.ref b113), .val (.ref b116), .val (.ref b122), .val (.ref b131), .val (.ref b143), .val (.ref b160)] [(.ref b112)])) rfl (by rw [hml]; rfl) (argsL := [(.ref b112)]) (rest := []) (lenOf own_pd2 rfl) rfl (by show 2 * 0 + _ ≤ _; exact Nat.le_of_eq rfl) (hb hby at_240) (fun _ _ => ⟨rfl, e183, (by decide : 7 + 0 ≤ _), (by decide : 25 + 0 ≤ _)⟩)
  dsimp only [Pt.U, Pt.locs, Pt.cells, Pt.slots] at X185 l185 y185 z185 st185 hQ185
  replace X185 := own_sub X185 l185 y185 z185
  obtain ⟨rfl, N185q, e185⟩ := hQ185
  have N185 := Fr.app NF183 N185q
  have fx186 : Arv Z h183 b113 k113 .byte (1 : Int32) [(.int (nar .byte (own_B0 p1)))] (.int (0 : Int32)) := ((((((((((fx162.ext E160).other W167 (Nat.ne_of_lt lt_b113_b160)).other W169 (Nat.ne_of_lt lt_b113_b160)).other W171 (Nat.ne_of_lt lt_b113_b160)).other W173 (Nat.ne_of_lt lt_b113_b160)).other W175 (Nat.ne_of_lt lt_b113_b160)).other W177 (Nat.ne_of_lt lt_b113_b160)).other W179 (Nat.ne_of_lt lt_b113_b160)).other W181 (Nat.ne_of_lt lt_b113_b160)).other W183 (Nat.ne_of_lt lt_b113_b160))
  obtain ⟨_, _, ⟨T187, L187, k187, n187⟩, -, X187, ⟨Lc187, hQ187, l187, y187, z187⟩, st187⟩ := Jvm.LawKit.callS X185 hx (y := (⟨"com/example/dongl/dongl/crypto/Crc16", "arc", "([B)I"⟩ : MethodName)) hown (mvT hZ (hw _ (List.mem_of_getElem? (i := 8) rfl))) (mvT hZ (hw _ (List.mem_of_getElem? (i := 9) rfl))) (mvT hZ (hw _ (List.mem_of_getElem? (i := 10) rfl))) (mvT hZ (hw _ (List.mem_of_getElem? (i := 11) rfl))) (by decide) (backOf (W := 0) (rmA1 l Z a0 hw [] h183 n0 (nar .byte (own_B0 p1)) b113 k113 OL183 fx186) hZ (hw _ (List.mem_of_getElem? (i := 11) rfl)) (hw _ (List.mem_of_getElem? (i := 10) rfl)) (by decide) (by decide)) (g := (mkF m 248 #[.val (.int p1), .val (.int (own_U0 p1)), .val (.int (own_U1 p1)), .val (.int (own_U2 p1)), .val (.int (own_U3 p1)), .val (.int (own_R1 p1)), .val (.int (own_R2 p1)), .val (.int (own_R3 p1)), .val (.int (own_R4 p1)), .val (.ref b112), .val (.ref b113), .val (.ref b116), .val (.ref b122), .val (.ref b131), .val (.ref b143), .val (.ref b160)] [(.ref b113)])) rfl (by rw [hml]; rfl) (argsL := [(.ref b113)]) (rest := []) (lenOf own_pd2 rfl) rfl (by show 2 * 0 + _ ≤ _; exact Nat.le_of_eq rfl) (hb hby at_248) (fun _ _ => ⟨rfl, e185, (by decide : 7 + 0 ≤ _), (by decide : 25 + 0 ≤ _)⟩)
  dsimp only [Pt.U, Pt.locs, Pt.cells, Pt.slots] at X187 l187 y187 z187 st187 hQ187
  replace X187 := own_sub X187 l187 y187 z187
  obtain ⟨rfl, N187q, e187⟩ := hQ187
  have N187 := Fr.app N185 N187q
  have fx188 : Arv Z h183 b116 k116 .byte (2 : Int32) [(.int (nar .byte (own_B0 p1))), (.int (nar .byte (own_B1 p1)))] (.int (0 : Int32)) := ((((((((((fx163.ext E160).other W167 (Nat.ne_of_lt lt_b116_b160)).other W169 (Nat.ne_of_lt lt_b116_b160)).other W171 (Nat.ne_of_lt lt_b116_b160)).other W173 (Nat.ne_of_lt lt_b116_b160)).other W175 (Nat.ne_of_lt lt_b116_b160)).other W177 (Nat.ne_of_lt lt_b116_b160)).other W179 (Nat.ne_of_lt lt_b116_b160)).other W181 (Nat.ne_of_lt lt_b116_b160)).other W183 (Nat.ne_of_lt lt_b116_b160))
  obtain ⟨_, _, ⟨T189, L189, k189, n189⟩, -, X189, ⟨Lc189, hQ189, l189, y189, z189⟩, st189⟩ := Jvm.LawKit.callS X187 hx (y := (⟨"com/example/dongl/dongl/crypto/Crc16", "arc", "([B)I"⟩ : MethodName)) hown (mvT hZ (hw _ (List.mem_of_getElem? (i := 8) rfl))) (mvT hZ (hw _ (List.mem_of_getElem? (i := 9) rfl))) (mvT hZ (hw _ (List.mem_of_getElem? (i := 10) rfl))) (mvT hZ (hw _ (List.mem_of_getElem? (i := 11) rfl))) (by decide) (backOf (W := 0) (rmA2 l Z a0 hw [] h183 n0 (nar .byte (own_B0 p1)) (nar .byte (own_B1 p1)) b116 k116 OL183 fx188) hZ (hw _ (List.mem_of_getElem? (i := 11) rfl)) (hw _ (List.mem_of_getElem? (i := 10) rfl)) (by decide) (by decide)) (g := (mkF m 258 #[.val (.int p1), .val (.int (own_U0 p1)), .val (.int (own_U1 p1)), .val (.int (own_U2 p1)), .val (.int (own_U3 p1)), .val (.int (own_R1 p1)), .val (.int (own_R2 p1)), .val (.int (own_R3 p1)), .val (.int (own_R4 p1)), .val (.ref b112), .val (.ref b113), .val (.ref b116), .val (.ref b122), .val (.ref b131), .val (.ref b143), .val (.ref b160)] [(.ref b116)])) rfl (by rw [hml]; rfl) (argsL := [(.ref b116)]) (rest := []) (lenOf own_pd2 rfl) rfl (by show 2 * 0 + _ ≤ _; exact Nat.le_of_eq rfl) (hb hby at_258) (fun _ _ => ⟨rfl, e187, (by decide : 7 + 0 ≤ _), (by decide : 25 + 0 ≤ _)⟩)
  dsimp only [Pt.U, Pt.locs, Pt.cells, Pt.slots] at X189 l189 y189 z189 st189 hQ189
  replace X189 := own_sub X189 l189 y189 z189
  obtain ⟨rfl, N189q, e189⟩ := hQ189
  have N189 := Fr.app N187 N189q
  have fx190 : Arv Z h183 b122 k122 .byte (3 : Int32) [(.int (nar .byte (own_B0 p1))), (.int (nar .byte (own_B1 p1))), (.int (nar .byte (own_B2 p1)))] (.int (0 : Int32)) := ((((((((((fx164.ext E160).other W167 (Nat.ne_of_lt lt_b122_b160)).other W169 (Nat.ne_of_lt lt_b122_b160)).other W171 (Nat.ne_of_lt lt_b122_b160)).other W173 (Nat.ne_of_lt lt_b122_b160)).other W175 (Nat.ne_of_lt lt_b122_b160)).other W177 (Nat.ne_of_lt lt_b122_b160)).other W179 (Nat.ne_of_lt lt_b122_b160)).other W181 (Nat.ne_of_lt lt_b122_b160)).other W183 (Nat.ne_of_lt lt_b122_b160))
  obtain ⟨_, _, ⟨T191, L191, k191, n191⟩, -, X191, ⟨Lc191, hQ191, l191, y191, z191⟩, st191⟩ := Jvm.LawKit.callS X189 hx (y := (⟨"com/example/dongl/dongl/crypto/Crc16", "arc", "([B)I"⟩ : MethodName)) hown (mvT hZ (hw _ (List.mem_of_getElem? (i := 8) rfl))) (mvT hZ (hw _ (List.mem_of_getElem? (i := 9) rfl))) (mvT hZ (hw _ (List.mem_of_getElem? (i := 10) rfl))) (mvT hZ (hw _ (List.mem_of_getElem? (i := 11) rfl))) (by decide) (backOf (W := 0) (rmA3 l Z a0 hw [] h183 n0 (nar .byte (own_B0 p1)) (nar .byte (own_B1 p1)) (nar .byte (own_B2 p1)) b122 k122 OL183 fx190) hZ (hw _ (List.mem_of_getElem? (i := 11) rfl)) (hw _ (List.mem_of_getElem? (i := 10) rfl)) (by decide) (by decide)) (g := (mkF m 268 #[.val (.int p1), .val (.int (own_U0 p1)), .val (.int (own_U1 p1)), .val (.int (own_U2 p1)), .val (.int (own_U3 p1)), .val (.int (own_R1 p1)), .val (.int (own_R2 p1)), .val (.int (own_R3 p1)), .val (.int (own_R4 p1)), .val (.ref b112), .val (.ref b113), .val (.ref b116), .val (.ref b122), .val (.ref b131), .val (.ref b143), .val (.ref b160)] [(.ref b122)])) rfl (by rw [hml]; rfl) (argsL := [(.ref b122)]) (rest := []) (lenOf own_pd2 rfl) rfl (by show 2 * 0 + _ ≤ _; exact Nat.le_of_eq rfl) (hb hby at_268) (fun _ _ => ⟨rfl, e189, (by decide : 7 + 0 ≤ _), (by decide : 25 + 0 ≤ _)⟩)
  dsimp only [Pt.U, Pt.locs, Pt.cells, Pt.slots] at X191 l191 y191 z191 st191 hQ191
  replace X191 := own_sub X191 l191 y191 z191
  obtain ⟨rfl, N191q, e191⟩ := hQ191
  have N191 := Fr.app N189 N191q
  have fx192 : Arv Z h183 b131 k131 .byte (4 : Int32) [(.int (nar .byte (own_B0 p1))), (.int (nar .byte (own_B1 p1))), (.int (nar .byte (own_B2 p1))), (.int (nar .byte (own_B3 p1)))] (.int (0 : Int32)) := ((((((((((fx165.ext E160).other W167 (Nat.ne_of_lt lt_b131_b160)).other W169 (Nat.ne_of_lt lt_b131_b160)).other W171 (Nat.ne_of_lt lt_b131_b160)).other W173 (Nat.ne_of_lt lt_b131_b160)).other W175 (Nat.ne_of_lt lt_b131_b160)).other W177 (Nat.ne_of_lt lt_b131_b160)).other W179 (Nat.ne_of_lt lt_b131_b160)).other W181 (Nat.ne_of_lt lt_b131_b160)).other W183 (Nat.ne_of_lt lt_b131_b160))
  obtain ⟨_, _, ⟨T193, L193, k193, n193⟩, -, X193, ⟨Lc193, hQ193, l193, y193, z193⟩, st193⟩ := Jvm.LawKit.callS X191 hx (y := (⟨"com/example/dongl/dongl/crypto/Crc16", "arc", "([B)I"⟩ : MethodName)) hown (mvT hZ (hw _ (List.mem_of_getElem? (i := 8) rfl))) (mvT hZ (hw _ (List.mem_of_getElem? (i := 9) rfl))) (mvT hZ (hw _ (List.mem_of_getElem? (i := 10) rfl))) (mvT hZ (hw _ (List.mem_of_getElem? (i := 11) rfl))) (by decide) (backOf (W := 0) (rmA4 l Z a0 hw [] h183 n0 (nar .byte (own_B0 p1)) (nar .byte (own_B1 p1)) (nar .byte (own_B2 p1)) (nar .byte (own_B3 p1)) b131 k131 OL183 fx192) hZ (hw _ (List.mem_of_getElem? (i := 11) rfl)) (hw _ (List.mem_of_getElem? (i := 10) rfl)) (by decide) (by decide)) (g := (mkF m 278 #[.val (.int p1), .val (.int (own_U0 p1)), .val (.int (own_U1 p1)), .val (.int (own_U2 p1)), .val (.int (own_U3 p1)), .val (.int (own_R1 p1)), .val (.int (own_R2 p1)), .val (.int (own_R3 p1)), .val (.int (own_R4 p1)), .val (.ref b112), .val (.ref b113), .val (.ref b116), .val (.ref b122), .val (.ref b131), .val (.ref b143), .val (.ref b160)] [(.ref b131)])) rfl (by rw [hml]; rfl) (argsL := [(.ref b131)]) (rest := []) (lenOf own_pd2 rfl) rfl (by show 2 * 0 + _ ≤ _; exact Nat.le_of_eq rfl) (hb hby at_278) (fun _ _ => ⟨rfl, e191, (by decide : 7 + 0 ≤ _), (by decide : 25 + 0 ≤ _)⟩)
  dsimp only [Pt.U, Pt.locs, Pt.cells, Pt.slots] at X193 l193 y193 z193 st193 hQ193
  replace X193 := own_sub X193 l193 y193 z193
  obtain ⟨rfl, N193q, e193⟩ := hQ193
  have N193 := Fr.app N191 N193q
  have fx194 : Arv Z h183 b143 k143 .byte (6 : Int32) [(.int (nar .byte (own_B0 p1))), (.int (nar .byte (own_B1 p1))), (.int (nar .byte (own_B2 p1))), (.int (nar .byte (own_B3 p1))), (.int (nar .byte (own_B4 p1))), (.int (nar .byte (own_B5 p1)))] (.int (0 : Int32)) := ((((((((((V159.ext E160).other W167 (Nat.ne_of_lt lt_b143_b160)).other W169 (Nat.ne_of_lt lt_b143_b160)).other W171 (Nat.ne_of_lt lt_b143_b160)).other W173 (Nat.ne_of_lt lt_b143_b160)).other W175 (Nat.ne_of_lt lt_b143_b160)).other W177 (Nat.ne_of_lt lt_b143_b160)).other W179 (Nat.ne_of_lt lt_b143_b160)).other W181 (Nat.ne_of_lt lt_b143_b160)).other W183 (Nat.ne_of_lt lt_b143_b160))
  obtain ⟨_, _, ⟨T195, L195, k195, n195⟩, -, X195, ⟨Lc195, hQ195, l195, y195, z195⟩, st195⟩ := Jvm.LawKit.callS X193 hx (y := (⟨"com/example/dongl/dongl/crypto/Crc16", "arc", "([B)I"⟩ : MethodName)) hown (mvT hZ (hw _ (List.mem_of_getElem? (i := 8) rfl))) (mvT hZ (hw _ (List.mem_of_getElem? (i := 9) rfl))) (mvT hZ (hw _ (List.mem_of_getElem? (i := 10) rfl))) (mvT hZ (hw _ (List.mem_of_getElem? (i := 11) rfl))) (by decide) (backOf (W := 0) (rmA6 l Z a0 hw [] h183 n0 (nar .byte (own_B0 p1)) (nar .byte (own_B1 p1)) (nar .byte (own_B2 p1)) (nar .byte (own_B3 p1)) (nar .byte (own_B4 p1)) (nar .byte (own_B5 p1)) b143 k143 OL183 fx194) hZ (hw _ (List.mem_of_getElem? (i := 11) rfl)) (hw _ (List.mem_of_getElem? (i := 10) rfl)) (by decide) (by decide)) (g := (mkF m 288 #[.val (.int p1), .val (.int (own_U0 p1)), .val (.int (own_U1 p1)), .val (.int (own_U2 p1)), .val (.int (own_U3 p1)), .val (.int (own_R1 p1)), .val (.int (own_R2 p1)), .val (.int (own_R3 p1)), .val (.int (own_R4 p1)), .val (.ref b112), .val (.ref b113), .val (.ref b116), .val (.ref b122), .val (.ref b131), .val (.ref b143), .val (.ref b160)] [(.ref b143)])) rfl (by rw [hml]; rfl) (argsL := [(.ref b143)]) (rest := []) (lenOf own_pd2 rfl) rfl (by show 2 * 0 + _ ≤ _; exact Nat.le_of_eq rfl) (hb hby at_288) (fun _ _ => ⟨rfl, e193, (by decide : 7 + 0 ≤ _), (by decide : 25 + 0 ≤ _)⟩)
  dsimp only [Pt.U, Pt.locs, Pt.cells, Pt.slots] at X195 l195 y195 z195 st195 hQ195
  replace X195 := own_sub X195 l195 y195 z195
  obtain ⟨rfl, N195q, e195⟩ := hQ195
  have N195 := Fr.app N193 N195q
  obtain ⟨_, _, ⟨T196, L196, k196, n196⟩, -, X196, ⟨Lc196, hQ196, l196, y196, z196⟩, st196⟩ := Jvm.LawKit.callS X195 hx (y := (⟨"com/example/dongl/dongl/crypto/Crc16", "arc", "([B)I"⟩ : MethodName)) hown (mvT hZ (hw _ (List.mem_of_getElem? (i := 8) rfl))) (mvT hZ (hw _ (List.mem_of_getElem? (i := 9) rfl))) (mvT hZ (hw _ (List.mem_of_getElem? (i := 10) rfl))) (mvT hZ (hw _ (List.mem_of_getElem? (i := 11) rfl))) (by decide) (backOf (W := 0) (rmA9 l Z a0 hw [] h183 n0 (49 : Int32) (50 : Int32) (51 : Int32) (52 : Int32) (53 : Int32) (54 : Int32) (55 : Int32) (56 : Int32) (57 : Int32) b160 k160 OL183 V183) hZ (hw _ (List.mem_of_getElem? (i := 11) rfl)) (hw _ (List.mem_of_getElem? (i := 10) rfl)) (by decide) (by decide)) (g := (mkF m 296 #[.val (.int p1), .val (.int (own_U0 p1)), .val (.int (own_U1 p1)), .val (.int (own_U2 p1)), .val (.int (own_U3 p1)), .val (.int (own_R1 p1)), .val (.int (own_R2 p1)), .val (.int (own_R3 p1)), .val (.int (own_R4 p1)), .val (.ref b112), .val (.ref b113), .val (.ref b116), .val (.ref b122), .val (.ref b131), .val (.ref b143), .val (.ref b160)] [(.ref b160)])) rfl (by rw [hml]; rfl) (argsL := [(.ref b160)]) (rest := []) (lenOf own_pd2 rfl) rfl (by show 2 * 0 + _ ≤ _; exact Nat.le_of_eq rfl) (hb hby at_296) (fun _ _ => ⟨rfl, e195, (by decide : 7 + 0 ≤ _), (by decide : 25 + 0 ≤ _)⟩)
  dsimp only [Pt.U, Pt.locs, Pt.cells, Pt.slots] at X196 l196 y196 z196 st196 hQ196
  replace X196 := own_sub X196 l196 y196 z196
  obtain ⟨rfl, N196q, e196⟩ := hQ196
  have N196 := Fr.app N195 N196q
  obtain ⟨fs, hr, hrun, hended, hW, hsame⟩ := X196.leave (v := some (.int (1 : Int32))) (fun h => by rw [Bd.returns] at h; cases h)
  refine ⟨_, _, pre0 _ ?_, hrun, hended, _, _, rfl, ?_, ⟨_, rfl⟩, hW, hsame.mono (by decide) (by decide)⟩
  · show Steps p.tables e below (s₁.setTop (mkF m 0 #[.val (.int p1), .unset, .unset, .unset, .unset, .unset, .unset, .unset, .unset, .unset, .unset, .unset, .unset, .unset, .unset, .unset] [])) _
    refine XS.iloadN X0.here hx rfl (hb hby at_0) rfl ?_
    show Steps p.tables e below (s₁.setTop (mkF m 1 #[.val (.int p1), .unset, .unset, .unset, .unset, .unset, .unset, .unset, .unset, .unset, .unset, .unset, .unset, .unset, .unset, .unset] [(.int p1)])) _
    refine XS.sipush X0.here hx rfl (hb hby at_1) ?_
    show Steps p.tables e below (s₁.setTop (mkF m 4 #[.val (.int p1), .unset, .unset, .unset, .unset, .unset, .unset, .unset, .unset, .unset, .unset, .unset, .unset, .unset, .unset, .unset] [(.int (255 : Int32)), (.int p1)])) _
    refine XS.iand X0.here hx rfl (hb hby at_4) rfl ?_
    show Steps p.tables e below (s₁.setTop (mkF m 5 #[.val (.int p1), .unset, .unset, .unset, .unset, .unset, .unset, .unset, .unset, .unset, .unset, .unset, .unset, .unset, .unset, .unset] [(.int (own_U0 p1))])) _
    refine XS.istoreN X0.here hx rfl (hb hby at_5) rfl (l' := #[.val (.int p1), .val (.int (own_U0 p1)), .unset, .unset, .unset, .unset, .unset, .unset, .unset, .unset, .unset, .unset, .unset, .unset, .unset, .unset]) rfl ?_
    show Steps p.tables e below (s₁.setTop (mkF m 6 #[.val (.int p1), .val (.int (own_U0 p1)), .unset, .unset, .unset, .unset, .unset, .unset, .unset, .unset, .unset, .unset, .unset, .unset, .unset, .unset] [])) _
    refine XS.iloadN X0.here hx rfl (hb hby at_6) rfl ?_
    show Steps p.tables e below (s₁.setTop (mkF m 7 #[.val (.int p1), .val (.int (own_U0 p1)), .unset, .unset, .unset, .unset, .unset, .unset, .unset, .unset, .unset, .unset, .unset, .unset, .unset, .unset] [(.int p1)])) _
    refine XS.bipush X0.here hx rfl (hb hby at_7) ?_
    show Steps p.tables e below (s₁.setTop (mkF m 9 #[.val (.int p1), .val (.int (own_U0 p1)), .unset, .unset, .unset, .unset, .unset, .unset, .unset, .unset, .unset, .unset, .unset, .unset, .unset, .unset] [(.int (8 : Int32)), (.int p1)])) _
    refine XS.iushr X0.here hx rfl (hb hby at_9) rfl ?_
    show Steps p.tables e below (s₁.setTop (mkF m 10 #[.val (.int p1), .val (.int (own_U0 p1)), .unset, .unset, .unset, .unset, .unset, .unset, .unset, .unset, .unset, .unset, .unset, .unset, .unset, .unset] [(.int ((p1.toUInt32 >>> ((8 : Int32) &&& 31).toUInt32).toInt32))])) _
    refine XS.sipush X0.here hx rfl (hb hby at_10) ?_
    show Steps p.tables e below (s₁.setTop (mkF m 13 #[.val (.int p1), .val (.int (own_U0 p1)), .unset, .unset, .unset, .unset, .unset, .unset, .unset, .unset, .unset, .unset, .unset, .unset, .unset, .unset] [(.int (255 : Int32)), (.int ((p1.toUInt32 >>> ((8 : Int32) &&& 31).toUInt32).toInt32))])) _
    refine XS.iand X0.here hx rfl (hb hby at_13) rfl ?_
    show Steps p.tables e below (s₁.setTop (mkF m 14 #[.val (.int p1), .val (.int (own_U0 p1)), .unset, .unset, .unset, .unset, .unset, .unset, .unset, .unset, .unset, .unset, .unset, .unset, .unset, .unset] [(.int (own_U1 p1))])) _
    refine XS.istoreN X0.here hx rfl (hb hby at_14) rfl (l' := #[.val (.int p1), .val (.int (own_U0 p1)), .val (.int (own_U1 p1)), .unset, .unset, .unset, .unset, .unset, .unset, .unset, .unset, .unset, .unset, .unset, .unset, .unset]) rfl ?_
    show Steps p.tables e below (s₁.setTop (mkF m 15 #[.val (.int p1), .val (.int (own_U0 p1)), .val (.int (own_U1 p1)), .unset, .unset, .unset, .unset, .unset, .unset, .unset, .unset, .unset, .unset, .unset, .unset, .unset] [])) _
    refine XS.iloadN X0.here hx rfl (hb hby at_15) rfl ?_
    show Steps p.tables e below (s₁.setTop (mkF m 16 #[.val (.int p1), .val (.int (own_U0 p1)), .val (.int (own_U1 p1)), .unset, .unset, .unset, .unset, .unset, .unset, .unset, .unset, .unset, .unset, .unset, .unset, .unset] [(.int p1)])) _
    refine XS.bipush X0.here hx rfl (hb hby at_16) ?_
    show Steps p.tables e below (s₁.setTop (mkF m 18 #[.val (.int p1), .val (.int (own_U0 p1)), .val (.int (own_U1 p1)), .unset, .unset, .unset, .unset, .unset, .unset, .unset, .unset, .unset, .unset, .unset, .unset, .unset] [(.int (16 : Int32)), (.int p1)])) _
    refine XS.iushr X0.here hx rfl (hb hby at_18) rfl ?_
    show Steps p.tables e below (s₁.setTop (mkF m 19 #[.val (.int p1), .val (.int (own_U0 p1)), .val (.int (own_U1 p1)), .unset, .unset, .unset, .unset, .unset, .unset, .unset, .unset, .unset, .unset, .unset, .unset, .unset] [(.int ((p1.toUInt32 >>> ((16 : Int32) &&& 31).toUInt32).toInt32))])) _
    refine XS.sipush X0.here hx rfl (hb hby at_19) ?_
    show Steps p.tables e below (s₁.setTop (mkF m 22 #[.val (.int p1), .val (.int (own_U0 p1)), .val (.int (own_U1 p1)), .unset, .unset, .unset, .unset, .unset, .unset, .unset, .unset, .unset, .unset, .unset, .unset, .unset] [(.int (255 : Int32)), (.int ((p1.toUInt32 >>> ((16 : Int32) &&& 31).toUInt32).toInt32))])) _
    refine XS.iand X0.here hx rfl (hb hby at_22) rfl ?_
    show Steps p.tables e below (s₁.setTop (mkF m 23 #[.val (.int p1), .val (.int (own_U0 p1)), .val (.int (own_U1 p1)), .unset, .unset, .unset, .unset, .unset, .unset, .unset, .unset, .unset, .unset, .unset, .unset, .unset] [(.int (own_U2 p1))])) _
    refine XS.istoreN X0.here hx rfl (hb hby at_23) rfl (l' := #[.val (.int p1), .val (.int (own_U0 p1)), .val (.int (own_U1 p1)), .val (.int (own_U2 p1)), .unset, .unset, .unset, .unset, .unset, .unset, .unset, .unset, .unset, .unset, .unset, .unset]) rfl ?_
    show Steps p.tables e below (s₁.setTop (mkF m 24 #[.val (.int p1), .val (.int (own_U0 p1)), .val (.int (own_U1 p1)), .val (.int (own_U2 p1)), .unset, .unset, .unset, .unset, .unset, .unset, .unset, .unset, .unset, .unset, .unset, .unset] [])) _
    refine XS.iloadN X0.here hx rfl (hb hby at_24) rfl ?_
    show Steps p.tables e below (s₁.setTop (mkF m 25 #[.val (.int p1), .val (.int (own_U0 p1)), .val (.int (own_U1 p1)), .val (.int (own_U2 p1)), .unset, .unset, .unset, .unset, .unset, .unset, .unset, .unset, .unset, .unset, .unset, .unset] [(.int p1)])) _
    refine XS.bipush X0.here hx rfl (hb hby at_25) ?_
    show Steps p.tables e below (s₁.setTop (mkF m 27 #[.val (.int p1), .val (.int (own_U0 p1)), .val (.int (own_U1 p1)), .val (.int (own_U2 p1)), .unset, .unset, .unset, .unset, .unset, .unset, .unset, .unset, .unset, .unset, .unset, .unset] [(.int (24 : Int32)), (.int p1)])) _
    refine XS.iushr X0.here hx rfl (hb hby at_27) rfl ?_
    show Steps p.tables e below (s₁.setTop (mkF m 28 #[.val (.int p1), .val (.int (own_U0 p1)), .val (.int (own_U1 p1)), .val (.int (own_U2 p1)), .unset, .unset, .unset, .unset, .unset, .unset, .unset, .unset, .unset, .unset, .unset, .unset] [(.int ((p1.toUInt32 >>> ((24 : Int32) &&& 31).toUInt32).toInt32))])) _
    refine XS.sipush X0.here hx rfl (hb hby at_28) ?_
    show Steps p.tables e below (s₁.setTop (mkF m 31 #[.val (.int p1), .val (.int (own_U0 p1)), .val (.int (own_U1 p1)), .val (.int (own_U2 p1)), .unset, .unset, .unset, .unset, .unset, .unset, .unset, .unset, .unset, .unset, .unset, .unset] [(.int (255 : Int32)), (.int ((p1.toUInt32 >>> ((24 : Int32) &&& 31).toUInt32).toInt32))])) _
    refine XS.iand X0.here hx rfl (hb hby at_31) rfl ?_
    show Steps p.tables e below (s₁.setTop (mkF m 32 #[.val (.int p1), .val (.int (own_U0 p1)), .val (.int (own_U1 p1)), .val (.int (own_U2 p1)), .unset, .unset, .unset, .unset, .unset, .unset, .unset, .unset, .unset, .unset, .unset, .unset] [(.int (own_U3 p1))])) _
    refine XS.istore X0.here hx rfl (hb hby at_32) rfl (l' := #[.val (.int p1), .val (.int (own_U0 p1)), .val (.int (own_U1 p1)), .val (.int (own_U2 p1)), .val (.int (own_U3 p1)), .unset, .unset, .unset, .unset, .unset, .unset, .unset, .unset, .unset, .unset, .unset]) rfl ?_
    show Steps p.tables e below (s₁.setTop (mkF m 34 #[.val (.int p1), .val (.int (own_U0 p1)), .val (.int (own_U1 p1)), .val (.int (own_U2 p1)), .val (.int (own_U3 p1)), .unset, .unset, .unset, .unset, .unset, .unset, .unset, .unset, .unset, .unset, .unset] [])) _
    refine XS.iconst X0.here hx rfl (hb hby at_34) ?_
    show Steps p.tables e below (s₁.setTop (mkF m 35 #[.val (.int p1), .val (.int (own_U0 p1)), .val (.int (own_U1 p1)), .val (.int (own_U2 p1)), .val (.int (own_U3 p1)), .unset, .unset, .unset, .unset, .unset, .unset, .unset, .unset, .unset, .unset, .unset] [(.int (0 : Int32))])) _
    refine XS.iloadN X0.here hx rfl (hb hby at_35) rfl ?_
    show Steps p.tables e below (s₁.setTop (mkF m 36 #[.val (.int p1), .val (.int (own_U0 p1)), .val (.int (own_U1 p1)), .val (.int (own_U2 p1)), .val (.int (own_U3 p1)), .unset, .unset, .unset, .unset, .unset, .unset, .unset, .unset, .unset, .unset, .unset] [(.int (own_U0 p1)), (.int (0 : Int32))])) _
    refine st108 _ ?_
    show Steps p.tables e below (T108.setTop (mkF m 39 #[.val (.int p1), .val (.int (own_U0 p1)), .val (.int (own_U1 p1)), .val (.int (own_U2 p1)), .val (.int (own_U3 p1)), .unset, .unset, .unset, .unset, .unset, .unset, .unset, .unset, .unset, .unset, .unset] [(.int (own_R1 p1))])) _
    refine XS.istore X108.here hx rfl (hb hby at_39) rfl (l' := #[.val (.int p1), .val (.int (own_U0 p1)), .val (.int (own_U1 p1)), .val (.int (own_U2 p1)), .val (.int (own_U3 p1)), .val (.int (own_R1 p1)), .unset, .unset, .unset, .unset, .unset, .unset, .unset, .unset, .unset, .unset]) rfl ?_
    show Steps p.tables e below (T108.setTop (mkF m 41 #[.val (.int p1), .val (.int (own_U0 p1)), .val (.int (own_U1 p1)), .val (.int (own_U2 p1)), .val (.int (own_U3 p1)), .val (.int (own_R1 p1)), .unset, .unset, .unset, .unset, .unset, .unset, .unset, .unset, .unset, .unset] [])) _
    refine XS.iload X108.here hx rfl (hb hby at_41) rfl ?_
    show Steps p.tables e below (T108.setTop (mkF m 43 #[.val (.int p1), .val (.int (own_U0 p1)), .val (.int (own_U1 p1)), .val (.int (own_U2 p1)), .val (.int (own_U3 p1)), .val (.int (own_R1 p1)), .unset, .unset, .unset, .unset, .unset, .unset, .unset, .unset, .unset, .unset] [(.int (own_R1 p1))])) _
    refine XS.iloadN X108.here hx rfl (hb hby at_43) rfl ?_
    show Steps p.tables e below (T108.setTop (mkF m 44 #[.val (.int p1), .val (.int (own_U0 p1)), .val (.int (own_U1 p1)), .val (.int (own_U2 p1)), .val (.int (own_U3 p1)), .val (.int (own_R1 p1)), .unset, .unset, .unset, .unset, .unset, .unset, .unset, .unset, .unset, .unset] [(.int (own_U1 p1)), (.int (own_R1 p1))])) _
    refine st109 _ ?_
    show Steps p.tables e below (T109.setTop (mkF m 47 #[.val (.int p1), .val (.int (own_U0 p1)), .val (.int (own_U1 p1)), .val (.int (own_U2 p1)), .val (.int (own_U3 p1)), .val (.int (own_R1 p1)), .unset, .unset, .unset, .unset, .unset, .unset, .unset, .unset, .unset, .unset] [(.int (own_R2 p1))])) _
    refine XS.istore X109.here hx rfl (hb hby at_47) rfl (l' := #[.val (.int p1), .val (.int (own_U0 p1)), .val (.int (own_U1 p1)), .val (.int (own_U2 p1)), .val (.int (own_U3 p1)), .val (.int (own_R1 p1)), .val (.int (own_R2 p1)), .unset, .unset, .unset, .unset, .unset, .unset, .unset, .unset, .unset]) rfl ?_
    show Steps p.tables e below (T109.setTop (mkF m 49 #[.val (.int p1), .val (.int (own_U0 p1)), .val (.int (own_U1 p1)), .val (.int (own_U2 p1)), .val (.int (own_U3 p1)), .val (.int (own_R1 p1)), .val (.int (own_R2 p1)), .unset, .unset, .unset, .unset, .unset, .unset, .unset, .unset, .unset] [])) _
    refine XS.iload X109.here hx rfl (hb hby at_49) rfl ?_
    show Steps p.tables e below (T109.setTop (mkF m 51 #[.val (.int p1), .val (.int (own_U0 p1)), .val (.int (own_U1 p1)), .val (.int (own_U2 p1)), .val (.int (own_U3 p1)), .val (.int (own_R1 p1)), .val (.int (own_R2 p1)), .unset, .unset, .unset, .unset, .unset, .unset, .unset, .unset, .unset] [(.int (own_R2 p1))])) _
    refine XS.iloadN X109.here hx rfl (hb hby at_51) rfl ?_
    show Steps p.tables e below (T109.setTop (mkF m 52 #[.val (.int p1), .val (.int (own_U0 p1)), .val (.int (own_U1 p1)), .val (.int (own_U2 p1)), .val (.int (own_U3 p1)), .val (.int (own_R1 p1)), .val (.int (own_R2 p1)), .unset, .unset, .unset, .unset, .unset, .unset, .unset, .unset, .unset] [(.int (own_U2 p1)), (.int (own_R2 p1))])) _
    refine st110 _ ?_
    show Steps p.tables e below (T110.setTop (mkF m 55 #[.val (.int p1), .val (.int (own_U0 p1)), .val (.int (own_U1 p1)), .val (.int (own_U2 p1)), .val (.int (own_U3 p1)), .val (.int (own_R1 p1)), .val (.int (own_R2 p1)), .unset, .unset, .unset, .unset, .unset, .unset, .unset, .unset, .unset] [(.int (own_R3 p1))])) _
    refine XS.istore X110.here hx rfl (hb hby at_55) rfl (l' := #[.val (.int p1), .val (.int (own_U0 p1)), .val (.int (own_U1 p1)), .val (.int (own_U2 p1)), .val (.int (own_U3 p1)), .val (.int (own_R1 p1)), .val (.int (own_R2 p1)), .val (.int (own_R3 p1)), .unset, .unset, .unset, .unset, .unset, .unset, .unset, .unset]) rfl ?_
    show Steps p.tables e below (T110.setTop (mkF m 57 #[.val (.int p1), .val (.int (own_U0 p1)), .val (.int (own_U1 p1)), .val (.int (own_U2 p1)), .val (.int (own_U3 p1)), .val (.int (own_R1 p1)), .val (.int (own_R2 p1)), .val (.int (own_R3 p1)), .unset, .unset, .unset, .unset, .unset, .unset, .unset, .unset] [])) _
    refine XS.iload X110.here hx rfl (hb hby at_57) rfl ?_
    show Steps p.tables e below (T110.setTop (mkF m 59 #[.val (.int p1), .val (.int (own_U0 p1)), .val (.int (own_U1 p1)), .val (.int (own_U2 p1)), .val (.int (own_U3 p1)), .val (.int (own_R1 p1)), .val (.int (own_R2 p1)), .val (.int (own_R3 p1)), .unset, .unset, .unset, .unset, .unset, .unset, .unset, .unset] [(.int (own_R3 p1))])) _
    refine XS.iload X110.here hx rfl (hb hby at_59) rfl ?_
    show Steps p.tables e below (T110.setTop (mkF m 61 #[.val (.int p1), .val (.int (own_U0 p1)), .val (.int (own_U1 p1)), .val (.int (own_U2 p1)), .val (.int (own_U3 p1)), .val (.int (own_R1 p1)), .val (.int (own_R2 p1)), .val (.int (own_R3 p1)), .unset, .unset, .unset, .unset, .unset, .unset, .unset, .unset] [(.int (own_U3 p1)), (.int (own_R3 p1))])) _
    refine st111 _ ?_
    show Steps p.tables e below (T111.setTop (mkF m 64 #[.val (.int p1), .val (.int (own_U0 p1)), .val (.int (own_U1 p1)), .val (.int (own_U2 p1)), .val (.int (own_U3 p1)), .val (.int (own_R1 p1)), .val (.int (own_R2 p1)), .val (.int (own_R3 p1)), .unset, .unset, .unset, .unset, .unset, .unset, .unset, .unset] [(.int (own_R4 p1))])) _
    refine XS.istore X111.here hx rfl (hb hby at_64) rfl (l' := #[.val (.int p1), .val (.int (own_U0 p1)), .val (.int (own_U1 p1)), .val (.int (own_U2 p1)), .val (.int (own_U3 p1)), .val (.int (own_R1 p1)), .val (.int (own_R2 p1)), .val (.int (own_R3 p1)), .val (.int (own_R4 p1)), .unset, .unset, .unset, .unset, .unset, .unset, .unset]) rfl ?_
    show Steps p.tables e below (T111.setTop (mkF m 66 #[.val (.int p1), .val (.int (own_U0 p1)), .val (.int (own_U1 p1)), .val (.int (own_U2 p1)), .val (.int (own_U3 p1)), .val (.int (own_R1 p1)), .val (.int (own_R2 p1)), .val (.int (own_R3 p1)), .val (.int (own_R4 p1)), .unset, .unset, .unset, .unset, .unset, .unset, .unset] [])) _
    refine XS.iconst X111.here hx rfl (hb hby at_66) ?_
    show Steps p.tables e below (T111.setTop (mkF m 67 #[.val (.int p1), .val (.int (own_U0 p1)), .val (.int (own_U1 p1)), .val (.int (own_U2 p1)), .val (.int (own_U3 p1)), .val (.int (own_R1 p1)), .val (.int (own_R2 p1)), .val (.int (own_R3 p1)), .val (.int (own_R4 p1)), .unset, .unset, .unset, .unset, .unset, .unset, .unset] [(.int (0 : Int32))])) _
    refine st112 _ ?_
    show Steps p.tables e below (T112.setTop (mkF m 69 #[.val (.int p1), .val (.int (own_U0 p1)), .val (.int (own_U1 p1)), .val (.int (own_U2 p1)), .val (.int (own_U3 p1)), .val (.int (own_R1 p1)), .val (.int (own_R2 p1)), .val (.int (own_R3 p1)), .val (.int (own_R4 p1)), .unset, .unset, .unset, .unset, .unset, .unset, .unset] [(.ref b112)])) _
    refine XS.astore X112.here hx rfl (hb hby at_69) rfl rfl (l' := #[.val (.int p1), .val (.int (own_U0 p1)), .val (.int (own_U1 p1)), .val (.int (own_U2 p1)), .val (.int (own_U3 p1)), .val (.int (own_R1 p1)), .val (.int (own_R2 p1)), .val (.int (own_R3 p1)), .val (.int (own_R4 p1)), .val (.ref b112), .unset, .unset, .unset, .unset, .unset, .unset]) rfl ?_
    show Steps p.tables e below (T112.setTop (mkF m 71 #[.val (.int p1), .val (.int (own_U0 p1)), .val (.int (own_U1 p1)), .val (.int (own_U2 p1)), .val (.int (own_U3 p1)), .val (.int (own_R1 p1)), .val (.int (own_R2 p1)), .val (.int (own_R3 p1)), .val (.int (own_R4 p1)), .val (.ref b112), .unset, .unset, .unset, .unset, .unset, .unset] [])) _
    refine XS.iconst X112.here hx rfl (hb hby at_71) ?_
    show Steps p.tables e below (T112.setTop (mkF m 72 #[.val (.int p1), .val (.int (own_U0 p1)), .val (.int (own_U1 p1)), .val (.int (own_U2 p1)), .val (.int (own_U3 p1)), .val (.int (own_R1 p1)), .val (.int (own_R2 p1)), .val (.int (own_R3 p1)), .val (.int (own_R4 p1)), .val (.ref b112), .unset, .unset, .unset, .unset, .unset, .unset] [(.int (1 : Int32))])) _
    refine st113 _ ?_
    show Steps p.tables e below (T113.setTop (mkF m 74 #[.val (.int p1), .val (.int (own_U0 p1)), .val (.int (own_U1 p1)), .val (.int (own_U2 p1)), .val (.int (own_U3 p1)), .val (.int (own_R1 p1)), .val (.int (own_R2 p1)), .val (.int (own_R3 p1)), .val (.int (own_R4 p1)), .val (.ref b112), .unset, .unset, .unset, .unset, .unset, .unset] [(.ref b113)])) _
    refine XS.dup X113.here hx rfl (hb hby at_74) rfl rfl ?_
    show Steps p.tables e below (T113.setTop (mkF m 75 #[.val (.int p1), .val (.int (own_U0 p1)), .val (.int (own_U1 p1)), .val (.int (own_U2 p1)), .val (.int (own_U3 p1)), .val (.int (own_R1 p1)), .val (.int (own_R2 p1)), .val (.int (own_R3 p1)), .val (.int (own_R4 p1)), .val (.ref b112), .unset, .unset, .unset, .unset, .unset, .unset] [(.ref b113), (.ref b113)])) _
    refine XS.iconst X113.here hx rfl (hb hby at_75) ?_
    show Steps p.tables e below (T113.setTop (mkF m 76 #[.val (.int p1), .val (.int (own_U0 p1)), .val (.int (own_U1 p1)), .val (.int (own_U2 p1)), .val (.int (own_U3 p1)), .val (.int (own_R1 p1)), .val (.int (own_R2 p1)), .val (.int (own_R3 p1)), .val (.int (own_R4 p1)), .val (.ref b112), .unset, .unset, .unset, .unset, .unset, .unset] [(.int (0 : Int32)), (.ref b113), (.ref b113)])) _
    refine XS.iloadN X113.here hx rfl (hb hby at_76) rfl ?_
    show Steps p.tables e below (T113.setTop (mkF m 77 #[.val (.int p1), .val (.int (own_U0 p1)), .val (.int (own_U1 p1)), .val (.int (own_U2 p1)), .val (.int (own_U3 p1)), .val (.int (own_R1 p1)), .val (.int (own_R2 p1)), .val (.int (own_R3 p1)), .val (.int (own_R4 p1)), .val (.ref b112), .unset, .unset, .unset, .unset, .unset, .unset] [(.int (own_U0 p1)), (.int (0 : Int32)), (.ref b113), (.ref b113)])) _
    refine XS.i2b X113.here hx rfl (hb hby at_77) rfl ?_
    show Steps p.tables e below (T113.setTop (mkF m 78 #[.val (.int p1), .val (.int (own_U0 p1)), .val (.int (own_U1 p1)), .val (.int (own_U2 p1)), .val (.int (own_U3 p1)), .val (.int (own_R1 p1)), .val (.int (own_R2 p1)), .val (.int (own_R3 p1)), .val (.int (own_R4 p1)), .val (.ref b112), .unset, .unset, .unset, .unset, .unset, .unset] [(.int (own_B0 p1)), (.int (0 : Int32)), (.ref b113), (.ref b113)])) _
    refine st115 _ ?_
    show Steps p.tables e below (T115.setTop (mkF m 79 #[.val (.int p1), .val (.int (own_U0 p1)), .val (.int (own_U1 p1)), .val (.int (own_U2 p1)), .val (.int (own_U3 p1)), .val (.int (own_R1 p1)), .val (.int (own_R2 p1)), .val (.int (own_R3 p1)), .val (.int (own_R4 p1)), .val (.ref b112), .unset, .unset, .unset, .unset, .unset, .unset] [(.ref b113)])) _
    refine XS.astore X115.here hx rfl (hb hby at_79) rfl rfl (l' := #[.val (.int p1), .val (.int (own_U0 p1)), .val (.int (own_U1 p1)), .val (.int (own_U2 p1)), .val (.int (own_U3 p1)), .val (.int (own_R1 p1)), .val (.int (own_R2 p1)), .val (.int (own_R3 p1)), .val (.int (own_R4 p1)), .val (.ref b112), .val (.ref b113), .unset, .unset, .unset, .unset, .unset]) rfl ?_
    show Steps p.tables e below (T115.setTop (mkF m 81 #[.val (.int p1), .val (.int (own_U0 p1)), .val (.int (own_U1 p1)), .val (.int (own_U2 p1)), .val (.int (own_U3 p1)), .val (.int (own_R1 p1)), .val (.int (own_R2 p1)), .val (.int (own_R3 p1)), .val (.int (own_R4 p1)), .val (.ref b112), .val (.ref b113), .unset, .unset, .unset, .unset, .unset] [])) _
    refine XS.iconst X115.here hx rfl (hb hby at_81) ?_
    show Steps p.tables e below (T115.setTop (mkF m 82 #[.val (.int p1), .val (.int (own_U0 p1)), .val (.int (own_U1 p1)), .val (.int (own_U2 p1)), .val (.int (own_U3 p1)), .val (.int (own_R1 p1)), .val (.int (own_R2 p1)), .val (.int (own_R3 p1)), .val (.int (own_R4 p1)), .val (.ref b112), .val (.ref b113), .unset, .unset, .unset, .unset, .unset] [(.int (2 : Int32))])) _
    refine st116 _ ?_
    show Steps p.tables e below (T116.setTop (mkF m 84 #[.val (.int p1), .val (.int (own_U0 p1)), .val (.int (own_U1 p1)), .val (.int (own_U2 p1)), .val (.int (own_U3 p1)), .val (.int (own_R1 p1)), .val (.int (own_R2 p1)), .val (.int (own_R3 p1)), .val (.int (own_R4 p1)), .val (.ref b112), .val (.ref b113), .unset, .unset, .unset, .unset, .unset] [(.ref b116)])) _
    refine XS.dup X116.here hx rfl (hb hby at_84) rfl rfl ?_
    show Steps p.tables e below (T116.setTop (mkF m 85 #[.val (.int p1), .val (.int (own_U0 p1)), .val (.int (own_U1 p1)), .val (.int (own_U2 p1)), .val (.int (own_U3 p1)), .val (.int (own_R1 p1)), .val (.int (own_R2 p1)), .val (.int (own_R3 p1)), .val (.int (own_R4 p1)), .val (.ref b112), .val (.ref b113), .unset, .unset, .unset, .unset, .unset] [(.ref b116), (.ref b116)])) _
    refine XS.iconst X116.here hx rfl (hb hby at_85) ?_
    show Steps p.tables e below (T116.setTop (mkF m 86 #[.val (.int p1), .val (.int (own_U0 p1)), .val (.int (own_U1 p1)), .val (.int (own_U2 p1)), .val (.int (own_U3 p1)), .val (.int (own_R1 p1)), .val (.int (own_R2 p1)), .val (.int (own_R3 p1)), .val (.int (own_R4 p1)), .val (.ref b112), .val (.ref b113), .unset, .unset, .unset, .unset, .unset] [(.int (0 : Int32)), (.ref b116), (.ref b116)])) _
    refine XS.iloadN X116.here hx rfl (hb hby at_86) rfl ?_
    show Steps p.tables e below (T116.setTop (mkF m 87 #[.val (.int p1), .val (.int (own_U0 p1)), .val (.int (own_U1 p1)), .val (.int (own_U2 p1)), .val (.int (own_U3 p1)), .val (.int (own_R1 p1)), .val (.int (own_R2 p1)), .val (.int (own_R3 p1)), .val (.int (own_R4 p1)), .val (.ref b112), .val (.ref b113), .unset, .unset, .unset, .unset, .unset] [(.int (own_U0 p1)), (.int (0 : Int32)), (.ref b116), (.ref b116)])) _
    refine XS.i2b X116.here hx rfl (hb hby at_87) rfl ?_
    show Steps p.tables e below (T116.setTop (mkF m 88 #[.val (.int p1), .val (.int (own_U0 p1)), .val (.int (own_U1 p1)), .val (.int (own_U2 p1)), .val (.int (own_U3 p1)), .val (.int (own_R1 p1)), .val (.int (own_R2 p1)), .val (.int (own_R3 p1)), .val (.int (own_R4 p1)), .val (.ref b112), .val (.ref b113), .unset, .unset, .unset, .unset, .unset] [(.int (own_B0 p1)), (.int (0 : Int32)), (.ref b116), (.ref b116)])) _
    refine st119 _ ?_
    show Steps p.tables e below (T119.setTop (mkF m 89 #[.val (.int p1), .val (.int (own_U0 p1)), .val (.int (own_U1 p1)), .val (.int (own_U2 p1)), .val (.int (own_U3 p1)), .val (.int (own_R1 p1)), .val (.int (own_R2 p1)), .val (.int (own_R3 p1)), .val (.int (own_R4 p1)), .val (.ref b112), .val (.ref b113), .unset, .unset, .unset, .unset, .unset] [(.ref b116)])) _
    refine XS.dup X119.here hx rfl (hb hby at_89) rfl rfl ?_
    show Steps p.tables e below (T119.setTop (mkF m 90 #[.val (.int p1), .val (.int (own_U0 p1)), .val (.int (own_U1 p1)), .val (.int (own_U2 p1)), .val (.int (own_U3 p1)), .val (.int (own_R1 p1)), .val (.int (own_R2 p1)), .val (.int (own_R3 p1)), .val (.int (own_R4 p1)), .val (.ref b112), .val (.ref b113), .unset, .unset, .unset, .unset, .unset] [(.ref b116), (.ref b116)])) _
    refine XS.iconst X119.here hx rfl (hb hby at_90) ?_
    show Steps p.tables e below (T119.setTop (mkF m 91 #[.val (.int p1), .val (.int (own_U0 p1)), .val (.int (own_U1 p1)), .val (.int (own_U2 p1)), .val (.int (own_U3 p1)), .val (.int (own_R1 p1)), .val (.int (own_R2 p1)), .val (.int (own_R3 p1)), .val (.int (own_R4 p1)), .val (.ref b112), .val (.ref b113), .unset, .unset, .unset, .unset, .unset] [(.int (1 : Int32)), (.ref b116), (.ref b116)])) _
    refine XS.iloadN X119.here hx rfl (hb hby at_91) rfl ?_
    show Steps p.tables e below (T119.setTop (mkF m 92 #[.val (.int p1), .val (.int (own_U0 p1)), .val (.int (own_U1 p1)), .val (.int (own_U2 p1)), .val (.int (own_U3 p1)), .val (.int (own_R1 p1)), .val (.int (own_R2 p1)), .val (.int (own_R3 p1)), .val (.int (own_R4 p1)), .val (.ref b112), .val (.ref b113), .unset, .unset, .unset, .unset, .unset] [(.int (own_U1 p1)), (.int (1 : Int32)), (.ref b116), (.ref b116)])) _
    refine XS.i2b X119.here hx rfl (hb hby at_92) rfl ?_
    show Steps p.tables e below (T119.setTop (mkF m 93 #[.val (.int p1), .val (.int (own_U0 p1)), .val (.int (own_U1 p1)), .val (.int (own_U2 p1)), .val (.int (own_U3 p1)), .val (.int (own_R1 p1)), .val (.int (own_R2 p1)), .val (.int (own_R3 p1)), .val (.int (own_R4 p1)), .val (.ref b112), .val (.ref b113), .unset, .unset, .unset, .unset, .unset] [(.int (own_B1 p1)), (.int (1 : Int32)), (.ref b116), (.ref b116)])) _
    refine st121 _ ?_
    show Steps p.tables e below (T121.setTop (mkF m 94 #[.val (.int p1), .val (.int (own_U0 p1)), .val (.int (own_U1 p1)), .val (.int (own_U2 p1)), .val (.int (own_U3 p1)), .val (.int (own_R1 p1)), .val (.int (own_R2 p1)), .val (.int (own_R3 p1)), .val (.int (own_R4 p1)), .val (.ref b112), .val (.ref b113), .unset, .unset, .unset, .unset, .unset] [(.ref b116)])) _
    refine XS.astore X121.here hx rfl (hb hby at_94) rfl rfl (l' := #[.val (.int p1), .val (.int (own_U0 p1)), .val (.int (own_U1 p1)), .val (.int (own_U2 p1)), .val (.int (own_U3 p1)), .val (.int (own_R1 p1)), .val (.int (own_R2 p1)), .val (.int (own_R3 p1)), .val (.int (own_R4 p1)), .val (.ref b112), .val (.ref b113), .val (.ref b116), .unset, .unset, .unset, .unset]) rfl ?_
    show Steps p.tables e below (T121.setTop (mkF m 96 #[.val (.int p1), .val (.int (own_U0 p1)), .val (.int (own_U1 p1)), .val (.int (own_U2 p1)), .val (.int (own_U3 p1)), .val (.int (own_R1 p1)), .val (.int (own_R2 p1)), .val (.int (own_R3 p1)), .val (.int (own_R4 p1)), .val (.ref b112), .val (.ref b113), .val (.ref b116), .unset, .unset, .unset, .unset] [])) _
    refine XS.iconst X121.here hx rfl (hb hby at_96) ?_
    show Steps p.tables e below (T121.setTop (mkF m 97 #[.val (.int p1), .val (.int (own_U0 p1)), .val (.int (own_U1 p1)), .val (.int (own_U2 p1)), .val (.int (own_U3 p1)), .val (.int (own_R1 p1)), .val (.int (own_R2 p1)), .val (.int (own_R3 p1)), .val (.int (own_R4 p1)), .val (.ref b112), .val (.ref b113), .val (.ref b116), .unset, .unset, .unset, .unset] [(.int (3 : Int32))])) _
    refine st122 _ ?_
    show Steps p.tables e below (T122.setTop (mkF m 99 #[.val (.int p1), .val (.int (own_U0 p1)), .val (.int (own_U1 p1)), .val (.int (own_U2 p1)), .val (.int (own_U3 p1)), .val (.int (own_R1 p1)), .val (.int (own_R2 p1)), .val (.int (own_R3 p1)), .val (.int (own_R4 p1)), .val (.ref b112), .val (.ref b113), .val (.ref b116), .unset, .unset, .unset, .unset] [(.ref b122)])) _
    refine XS.dup X122.here hx rfl (hb hby at_99) rfl rfl ?_
    show Steps p.tables e below (T122.setTop (mkF m 100 #[.val (.int p1), .val (.int (own_U0 p1)), .val (.int (own_U1 p1)), .val (.int (own_U2 p1)), .val (.int (own_U3 p1)), .val (.int (own_R1 p1)), .val (.int (own_R2 p1)), .val (.int (own_R3 p1)), .val (.int (own_R4 p1)), .val (.ref b112), .val (.ref b113), .val (.ref b116), .unset, .unset, .unset, .unset] [(.ref b122), (.ref b122)])) _
    refine XS.iconst X122.here hx rfl (hb hby at_100) ?_
    show Steps p.tables e below (T122.setTop (mkF m 101 #[.val (.int p1), .val (.int (own_U0 p1)), .val (.int (own_U1 p1)), .val (.int (own_U2 p1)), .val (.int (own_U3 p1)), .val (.int (own_R1 p1)), .val (.int (own_R2 p1)), .val (.int (own_R3 p1)), .val (.int (own_R4 p1)), .val (.ref b112), .val (.ref b113), .val (.ref b116), .unset, .unset, .unset, .unset] [(.int (0 : Int32)), (.ref b122), (.ref b122)])) _
    refine XS.iloadN X122.here hx rfl (hb hby at_101) rfl ?_
    show Steps p.tables e below (T122.setTop (mkF m 102 #[.val (.int p1), .val (.int (own_U0 p1)), .val (.int (own_U1 p1)), .val (.int (own_U2 p1)), .val (.int (own_U3 p1)), .val (.int (own_R1 p1)), .val (.int (own_R2 p1)), .val (.int (own_R3 p1)), .val (.int (own_R4 p1)), .val (.ref b112), .val (.ref b113), .val (.ref b116), .unset, .unset, .unset, .unset] [(.int (own_U0 p1)), (.int (0 : Int32)), (.ref b122), (.ref b122)])) _
    refine XS.i2b X122.here hx rfl (hb hby at_102) rfl ?_
    show Steps p.tables e below (T122.setTop (mkF m 103 #[.val (.int p1), .val (.int (own_U0 p1)), .val (.int (own_U1 p1)), .val (.int (own_U2 p1)), .val (.int (own_U3 p1)), .val (.int (own_R1 p1)), .val (.int (own_R2 p1)), .val (.int (own_R3 p1)), .val (.int (own_R4 p1)), .val (.ref b112), .val (.ref b113), .val (.ref b116), .unset, .unset, .unset, .unset] [(.int (own_B0 p1)), (.int (0 : Int32)), (.ref b122), (.ref b122)])) _
    refine st126 _ ?_
    show Steps p.tables e below (T126.setTop (mkF m 104 #[.val (.int p1), .val (.int (own_U0 p1)), .val (.int (own_U1 p1)), .val (.int (own_U2 p1)), .val (.int (own_U3 p1)), .val (.int (own_R1 p1)), .val (.int (own_R2 p1)), .val (.int (own_R3 p1)), .val (.int (own_R4 p1)), .val (.ref b112), .val (.ref b113), .val (.ref b116), .unset, .unset, .unset, .unset] [(.ref b122)])) _
    refine XS.dup X126.here hx rfl (hb hby at_104) rfl rfl ?_
    show Steps p.tables e below (T126.setTop (mkF m 105 #[.val (.int p1), .val (.int (own_U0 p1)), .val (.int (own_U1 p1)), .val (.int (own_U2 p1)), .val (.int (own_U3 p1)), .val (.int (own_R1 p1)), .val (.int (own_R2 p1)), .val (.int (own_R3 p1)), .val (.int (own_R4 p1)), .val (.ref b112), .val (.ref b113), .val (.ref b116), .unset, .unset, .unset, .unset] [(.ref b122), (.ref b122)])) _
    refine XS.iconst X126.here hx rfl (hb hby at_105) ?_
    show Steps p.tables e below (T126.setTop (mkF m 106 #[.val (.int p1), .val (.int (own_U0 p1)), .val (.int (own_U1 p1)), .val (.int (own_U2 p1)), .val (.int (own_U3 p1)), .val (.int (own_R1 p1)), .val (.int (own_R2 p1)), .val (.int (own_R3 p1)), .val (.int (own_R4 p1)), .val (.ref b112), .val (.ref b113), .val (.ref b116), .unset, .unset, .unset, .unset] [(.int (1 : Int32)), (.ref b122), (.ref b122)])) _
    refine XS.iloadN X126.here hx rfl (hb hby at_106) rfl ?_
    show Steps p.tables e below (T126.setTop (mkF m 107 #[.val (.int p1), .val (.int (own_U0 p1)), .val (.int (own_U1 p1)), .val (.int (own_U2 p1)), .val (.int (own_U3 p1)), .val (.int (own_R1 p1)), .val (.int (own_R2 p1)), .val (.int (own_R3 p1)), .val (.int (own_R4 p1)), .val (.ref b112), .val (.ref b113), .val (.ref b116), .unset, .unset, .unset, .unset] [(.int (own_U1 p1)), (.int (1 : Int32)), (.ref b122), (.ref b122)])) _
    refine XS.i2b X126.here hx rfl (hb hby at_107) rfl ?_
    show Steps p.tables e below (T126.setTop (mkF m 108 #[.val (.int p1), .val (.int (own_U0 p1)), .val (.int (own_U1 p1)), .val (.int (own_U2 p1)), .val (.int (own_U3 p1)), .val (.int (own_R1 p1)), .val (.int (own_R2 p1)), .val (.int (own_R3 p1)), .val (.int (own_R4 p1)), .val (.ref b112), .val (.ref b113), .val (.ref b116), .unset, .unset, .unset, .unset] [(.int (own_B1 p1)), (.int (1 : Int32)), (.ref b122), (.ref b122)])) _
    refine st128 _ ?_
    show Steps p.tables e below (T128.setTop (mkF m 109 #[.val (.int p1), .val (.int (own_U0 p1)), .val (.int (own_U1 p1)), .val (.int (own_U2 p1)), .val (.int (own_U3 p1)), .val (.int (own_R1 p1)), .val (.int (own_R2 p1)), .val (.int (own_R3 p1)), .val (.int (own_R4 p1)), .val (.ref b112), .val (.ref b113), .val (.ref b116), .unset, .unset, .unset, .unset] [(.ref b122)])) _
    refine XS.dup X128.here hx rfl (hb hby at_109) rfl rfl ?_
    show Steps p.tables e below (T128.setTop (mkF m 110 #[.val (.int p1), .val (.int (own_U0 p1)), .val (.int (own_U1 p1)), .val (.int (own_U2 p1)), .val (.int (own_U3 p1)), .val (.int (own_R1 p1)), .val (.int (own_R2 p1)), .val (.int (own_R3 p1)), .val (.int (own_R4 p1)), .val (.ref b112), .val (.ref b113), .val (.ref b116), .unset, .unset, .unset, .unset] [(.ref b122), (.ref b122)])) _
    refine XS.iconst X128.here hx rfl (hb hby at_110) ?_
    show Steps p.tables e below (T128.setTop (mkF m 111 #[.val (.int p1), .val (.int (own_U0 p1)), .val (.int (own_U1 p1)), .val (.int (own_U2 p1)), .val (.int (own_U3 p1)), .val (.int (own_R1 p1)), .val (.int (own_R2 p1)), .val (.int (own_R3 p1)), .val (.int (own_R4 p1)), .val (.ref b112), .val (.ref b113), .val (.ref b116), .unset, .unset, .unset, .unset] [(.int (2 : Int32)), (.ref b122), (.ref b122)])) _
    refine XS.iloadN X128.here hx rfl (hb hby at_111) rfl ?_
    show Steps p.tables e below (T128.setTop (mkF m 112 #[.val (.int p1), .val (.int (own_U0 p1)), .val (.int (own_U1 p1)), .val (.int (own_U2 p1)), .val (.int (own_U3 p1)), .val (.int (own_R1 p1)), .val (.int (own_R2 p1)), .val (.int (own_R3 p1)), .val (.int (own_R4 p1)), .val (.ref b112), .val (.ref b113), .val (.ref b116), .unset, .unset, .unset, .unset] [(.int (own_U2 p1)), (.int (2 : Int32)), (.ref b122), (.ref b122)])) _
    refine XS.i2b X128.here hx rfl (hb hby at_112) rfl ?_
    show Steps p.tables e below (T128.setTop (mkF m 113 #[.val (.int p1), .val (.int (own_U0 p1)), .val (.int (own_U1 p1)), .val (.int (own_U2 p1)), .val (.int (own_U3 p1)), .val (.int (own_R1 p1)), .val (.int (own_R2 p1)), .val (.int (own_R3 p1)), .val (.int (own_R4 p1)), .val (.ref b112), .val (.ref b113), .val (.ref b116), .unset, .unset, .unset, .unset] [(.int (own_B2 p1)), (.int (2 : Int32)), (.ref b122), (.ref b122)])) _
    refine st130 _ ?_
    show Steps p.tables e below (T130.setTop (mkF m 114 #[.val (.int p1), .val (.int (own_U0 p1)), .val (.int (own_U1 p1)), .val (.int (own_U2 p1)), .val (.int (own_U3 p1)), .val (.int (own_R1 p1)), .val (.int (own_R2 p1)), .val (.int (own_R3 p1)), .val (.int (own_R4 p1)), .val (.ref b112), .val (.ref b113), .val (.ref b116), .unset, .unset, .unset, .unset] [(.ref b122)])) _
    refine XS.astore X130.here hx rfl (hb hby at_114) rfl rfl (l' := #[.val (.int p1), .val (.int (own_U0 p1)), .val (.int (own_U1 p1)), .val (.int (own_U2 p1)), .val (.int (own_U3 p1)), .val (.int (own_R1 p1)), .val (.int (own_R2 p1)), .val (.int (own_R3 p1)), .val (.int (own_R4 p1)), .val (.ref b112), .val (.ref b113), .val (.ref b116), .val (.ref b122), .unset, .unset, .unset]) rfl ?_
    show Steps p.tables e below (T130.setTop (mkF m 116 #[.val (.int p1), .val (.int (own_U0 p1)), .val (.int (own_U1 p1)), .val (.int (own_U2 p1)), .val (.int (own_U3 p1)), .val (.int (own_R1 p1)), .val (.int (own_R2 p1)), .val (.int (own_R3 p1)), .val (.int (own_R4 p1)), .val (.ref b112), .val (.ref b113), .val (.ref b116), .val (.ref b122), .unset, .unset, .unset] [])) _
    refine XS.iconst X130.here hx rfl (hb hby at_116) ?_
    show Steps p.tables e below (T130.setTop (mkF m 117 #[.val (.int p1), .val (.int (own_U0 p1)), .val (.int (own_U1 p1)), .val (.int (own_U2 p1)), .val (.int (own_U3 p1)), .val (.int (own_R1 p1)), .val (.int (own_R2 p1)), .val (.int (own_R3 p1)), .val (.int (own_R4 p1)), .val (.ref b112), .val (.ref b113), .val (.ref b116), .val (.ref b122), .unset, .unset, .unset] [(.int (4 : Int32))])) _
    refine st131 _ ?_
    show Steps p.tables e below (T131.setTop (mkF m 119 #[.val (.int p1), .val (.int (own_U0 p1)), .val (.int (own_U1 p1)), .val (.int (own_U2 p1)), .val (.int (own_U3 p1)), .val (.int (own_R1 p1)), .val (.int (own_R2 p1)), .val (.int (own_R3 p1)), .val (.int (own_R4 p1)), .val (.ref b112), .val (.ref b113), .val (.ref b116), .val (.ref b122), .unset, .unset, .unset] [(.ref b131)])) _
    refine XS.dup X131.here hx rfl (hb hby at_119) rfl rfl ?_
    show Steps p.tables e below (T131.setTop (mkF m 120 #[.val (.int p1), .val (.int (own_U0 p1)), .val (.int (own_U1 p1)), .val (.int (own_U2 p1)), .val (.int (own_U3 p1)), .val (.int (own_R1 p1)), .val (.int (own_R2 p1)), .val (.int (own_R3 p1)), .val (.int (own_R4 p1)), .val (.ref b112), .val (.ref b113), .val (.ref b116), .val (.ref b122), .unset, .unset, .unset] [(.ref b131), (.ref b131)])) _
    refine XS.iconst X131.here hx rfl (hb hby at_120) ?_
    show Steps p.tables e below (T131.setTop (mkF m 121 #[.val (.int p1), .val (.int (own_U0 p1)), .val (.int (own_U1 p1)), .val (.int (own_U2 p1)), .val (.int (own_U3 p1)), .val (.int (own_R1 p1)), .val (.int (own_R2 p1)), .val (.int (own_R3 p1)), .val (.int (own_R4 p1)), .val (.ref b112), .val (.ref b113), .val (.ref b116), .val (.ref b122), .unset, .unset, .unset] [(.int (0 : Int32)), (.ref b131), (.ref b131)])) _
    refine XS.iloadN X131.here hx rfl (hb hby at_121) rfl ?_
    show Steps p.tables e below (T131.setTop (mkF m 122 #[.val (.int p1), .val (.int (own_U0 p1)), .val (.int (own_U1 p1)), .val (.int (own_U2 p1)), .val (.int (own_U3 p1)), .val (.int (own_R1 p1)), .val (.int (own_R2 p1)), .val (.int (own_R3 p1)), .val (.int (own_R4 p1)), .val (.ref b112), .val (.ref b113), .val (.ref b116), .val (.ref b122), .unset, .unset, .unset] [(.int (own_U0 p1)), (.int (0 : Int32)), (.ref b131), (.ref b131)])) _
    refine XS.i2b X131.here hx rfl (hb hby at_122) rfl ?_
    show Steps p.tables e below (T131.setTop (mkF m 123 #[.val (.int p1), .val (.int (own_U0 p1)), .val (.int (own_U1 p1)), .val (.int (own_U2 p1)), .val (.int (own_U3 p1)), .val (.int (own_R1 p1)), .val (.int (own_R2 p1)), .val (.int (own_R3 p1)), .val (.int (own_R4 p1)), .val (.ref b112), .val (.ref b113), .val (.ref b116), .val (.ref b122), .unset, .unset, .unset] [(.int (own_B0 p1)), (.int (0 : Int32)), (.ref b131), (.ref b131)])) _
    refine st136 _ ?_
    show Steps p.tables e below (T136.setTop (mkF m 124 #[.val (.int p1), .val (.int (own_U0 p1)), .val (.int (own_U1 p1)), .val (.int (own_U2 p1)), .val (.int (own_U3 p1)), .val (.int (own_R1 p1)), .val (.int (own_R2 p1)), .val (.int (own_R3 p1)), .val (.int (own_R4 p1)), .val (.ref b112), .val (.ref b113), .val (.ref b116), .val (.ref b122), .unset, .unset, .unset] [(.ref b131)])) _
    refine XS.dup X136.here hx rfl (hb hby at_124) rfl rfl ?_
    show Steps p.tables e below (T136.setTop (mkF m 125 #[.val (.int p1), .val (.int (own_U0 p1)), .val (.int (own_U1 p1)), .val (.int (own_U2 p1)), .val (.int (own_U3 p1)), .val (.int (own_R1 p1)), .val (.int (own_R2 p1)), .val (.int (own_R3 p1)), .val (.int (own_R4 p1)), .val (.ref b112), .val (.ref b113), .val (.ref b116), .val (.ref b122), .unset, .unset, .unset] [(.ref b131), (.ref b131)])) _
    refine XS.iconst X136.here hx rfl (hb hby at_125) ?_
    show Steps p.tables e below (T136.setTop (mkF m 126 #[.val (.int p1), .val (.int (own_U0 p1)), .val (.int (own_U1 p1)), .val (.int (own_U2 p1)), .val (.int (own_U3 p1)), .val (.int (own_R1 p1)), .val (.int (own_R2 p1)), .val (.int (own_R3 p1)), .val (.int (own_R4 p1)), .val (.ref b112), .val (.ref b113), .val (.ref b116), .val (.ref b122), .unset, .unset, .unset] [(.int (1 : Int32)), (.ref b131), (.ref b131)])) _
    refine XS.iloadN X136.here hx rfl (hb hby at_126) rfl ?_
    show Steps p.tables e below (T136.setTop (mkF m 127 #[.val (.int p1), .val (.int (own_U0 p1)), .val (.int (own_U1 p1)), .val (.int (own_U2 p1)), .val (.int (own_U3 p1)), .val (.int (own_R1 p1)), .val (.int (own_R2 p1)), .val (.int (own_R3 p1)), .val (.int (own_R4 p1)), .val (.ref b112), .val (.ref b113), .val (.ref b116), .val (.ref b122), .unset, .unset, .unset] [(.int (own_U1 p1)), (.int (1 : Int32)), (.ref b131), (.ref b131)])) _
    refine XS.i2b X136.here hx rfl (hb hby at_127) rfl ?_
    show Steps p.tables e below (T136.setTop (mkF m 128 #[.val (.int p1), .val (.int (own_U0 p1)), .val (.int (own_U1 p1)), .val (.int (own_U2 p1)), .val (.int (own_U3 p1)), .val (.int (own_R1 p1)), .val (.int (own_R2 p1)), .val (.int (own_R3 p1)), .val (.int (own_R4 p1)), .val (.ref b112), .val (.ref b113), .val (.ref b116), .val (.ref b122), .unset, .unset, .unset] [(.int (own_B1 p1)), (.int (1 : Int32)), (.ref b131), (.ref b131)])) _
    refine st138 _ ?_
    show Steps p.tables e below (T138.setTop (mkF m 129 #[.val (.int p1), .val (.int (own_U0 p1)), .val (.int (own_U1 p1)), .val (.int (own_U2 p1)), .val (.int (own_U3 p1)), .val (.int (own_R1 p1)), .val (.int (own_R2 p1)), .val (.int (own_R3 p1)), .val (.int (own_R4 p1)), .val (.ref b112), .val (.ref b113), .val (.ref b116), .val (.ref b122), .unset, .unset, .unset] [(.ref b131)])) _
    refine XS.dup X138.here hx rfl (hb hby at_129) rfl rfl ?_
    show Steps p.tables e below (T138.setTop (mkF m 130 #[.val (.int p1), .val (.int (own_U0 p1)), .val (.int (own_U1 p1)), .val (.int (own_U2 p1)), .val (.int (own_U3 p1)), .val (.int (own_R1 p1)), .val (.int (own_R2 p1)), .val (.int (own_R3 p1)), .val (.int (own_R4 p1)), .val (.ref b112), .val (.ref b113), .val (.ref b116), .val (.ref b122), .unset, .unset, .unset] [(.ref b131), (.ref b131)])) _
    refine XS.iconst X138.here hx rfl (hb hby at_130) ?_
    show Steps p.tables e below (T138.setTop (mkF m 131 #[.val (.int p1), .val (.int (own_U0 p1)), .val (.int (own_U1 p1)), .val (.int (own_U2 p1)), .val (.int (own_U3 p1)), .val (.int (own_R1 p1)), .val (.int (own_R2 p1)), .val (.int (own_R3 p1)), .val (.int (own_R4 p1)), .val (.ref b112), .val (.ref b113), .val (.ref b116), .val (.ref b122), .unset, .unset, .unset] [(.int (2 : Int32)), (.ref b131), (.ref b131)])) _
    refine XS.iloadN X138.here hx rfl (hb hby at_131) rfl ?_
    show Steps p.tables e below (T138.setTop (mkF m 132 #[.val (.int p1), .val (.int (own_U0 p1)), .val (.int (own_U1 p1)), .val (.int (own_U2 p1)), .val (.int (own_U3 p1)), .val (.int (own_R1 p1)), .val (.int (own_R2 p1)), .val (.int (own_R3 p1)), .val (.int (own_R4 p1)), .val (.ref b112), .val (.ref b113), .val (.ref b116), .val (.ref b122), .unset, .unset, .unset] [(.int (own_U2 p1)), (.int (2 : Int32)), (.ref b131), (.ref b131)])) _
    refine XS.i2b X138.here hx rfl (hb hby at_132) rfl ?_
    show Steps p.tables e below (T138.setTop (mkF m 133 #[.val (.int p1), .val (.int (own_U0 p1)), .val (.int (own_U1 p1)), .val (.int (own_U2 p1)), .val (.int (own_U3 p1)), .val (.int (own_R1 p1)), .val (.int (own_R2 p1)), .val (.int (own_R3 p1)), .val (.int (own_R4 p1)), .val (.ref b112), .val (.ref b113), .val (.ref b116), .val (.ref b122), .unset, .unset, .unset] [(.int (own_B2 p1)), (.int (2 : Int32)), (.ref b131), (.ref b131)])) _
    refine st140 _ ?_
    show Steps p.tables e below (T140.setTop (mkF m 134 #[.val (.int p1), .val (.int (own_U0 p1)), .val (.int (own_U1 p1)), .val (.int (own_U2 p1)), .val (.int (own_U3 p1)), .val (.int (own_R1 p1)), .val (.int (own_R2 p1)), .val (.int (own_R3 p1)), .val (.int (own_R4 p1)), .val (.ref b112), .val (.ref b113), .val (.ref b116), .val (.ref b122), .unset, .unset, .unset] [(.ref b131)])) _
    refine XS.dup X140.here hx rfl (hb hby at_134) rfl rfl ?_
    show Steps p.tables e below (T140.setTop (mkF m 135 #[.val (.int p1), .val (.int (own_U0 p1)), .val (.int (own_U1 p1)), .val (.int (own_U2 p1)), .val (.int (own_U3 p1)), .val (.int (own_R1 p1)), .val (.int (own_R2 p1)), .val (.int (own_R3 p1)), .val (.int (own_R4 p1)), .val (.ref b112), .val (.ref b113), .val (.ref b116), .val (.ref b122), .unset, .unset, .unset] [(.ref b131), (.ref b131)])) _
    refine XS.iconst X140.here hx rfl (hb hby at_135) ?_
    show Steps p.tables e below (T140.setTop (mkF m 136 #[.val (.int p1), .val (.int (own_U0 p1)), .val (.int (own_U1 p1)), .val (.int (own_U2 p1)), .val (.int (own_U3 p1)), .val (.int (own_R1 p1)), .val (.int (own_R2 p1)), .val (.int (own_R3 p1)), .val (.int (own_R4 p1)), .val (.ref b112), .val (.ref b113), .val (.ref b116), .val (.ref b122), .unset, .unset, .unset] [(.int (3 : Int32)), (.ref b131), (.ref b131)])) _
    refine XS.iload X140.here hx rfl (hb hby at_136) rfl ?_
    show Steps p.tables e below (T140.setTop (mkF m 138 #[.val (.int p1), .val (.int (own_U0 p1)), .val (.int (own_U1 p1)), .val (.int (own_U2 p1)), .val (.int (own_U3 p1)), .val (.int (own_R1 p1)), .val (.int (own_R2 p1)), .val (.int (own_R3 p1)), .val (.int (own_R4 p1)), .val (.ref b112), .val (.ref b113), .val (.ref b116), .val (.ref b122), .unset, .unset, .unset] [(.int (own_U3 p1)), (.int (3 : Int32)), (.ref b131), (.ref b131)])) _
    refine XS.i2b X140.here hx rfl (hb hby at_138) rfl ?_
    show Steps p.tables e below (T140.setTop (mkF m 139 #[.val (.int p1), .val (.int (own_U0 p1)), .val (.int (own_U1 p1)), .val (.int (own_U2 p1)), .val (.int (own_U3 p1)), .val (.int (own_R1 p1)), .val (.int (own_R2 p1)), .val (.int (own_R3 p1)), .val (.int (own_R4 p1)), .val (.ref b112), .val (.ref b113), .val (.ref b116), .val (.ref b122), .unset, .unset, .unset] [(.int (own_B3 p1)), (.int (3 : Int32)), (.ref b131), (.ref b131)])) _
    refine st142 _ ?_
    show Steps p.tables e below (T142.setTop (mkF m 140 #[.val (.int p1), .val (.int (own_U0 p1)), .val (.int (own_U1 p1)), .val (.int (own_U2 p1)), .val (.int (own_U3 p1)), .val (.int (own_R1 p1)), .val (.int (own_R2 p1)), .val (.int (own_R3 p1)), .val (.int (own_R4 p1)), .val (.ref b112), .val (.ref b113), .val (.ref b116), .val (.ref b122), .unset, .unset, .unset] [(.ref b131)])) _
    refine XS.astore X142.here hx rfl (hb hby at_140) rfl rfl (l' := #[.val (.int p1), .val (.int (own_U0 p1)), .val (.int (own_U1 p1)), .val (.int (own_U2 p1)), .val (.int (own_U3 p1)), .val (.int (own_R1 p1)), .val (.int (own_R2 p1)), .val (.int (own_R3 p1)), .val (.int (own_R4 p1)), .val (.ref b112), .val (.ref b113), .val (.ref b116), .val (.ref b122), .val (.ref b131), .unset, .unset]) rfl ?_
    show Steps p.tables e below (T142.setTop (mkF m 142 #[.val (.int p1), .val (.int (own_U0 p1)), .val (.int (own_U1 p1)), .val (.int (own_U2 p1)), .val (.int (own_U3 p1)), .val (.int (own_R1 p1)), .val (.int (own_R2 p1)), .val (.int (own_R3 p1)), .val (.int (own_R4 p1)), .val (.ref b112), .val (.ref b113), .val (.ref b116), .val (.ref b122), .val (.ref b131), .unset, .unset] [])) _
    refine XS.bipush X142.here hx rfl (hb hby at_142) ?_
    show Steps p.tables e below (T142.setTop (mkF m 144 #[.val (.int p1), .val (.int (own_U0 p1)), .val (.int (own_U1 p1)), .val (.int (own_U2 p1)), .val (.int (own_U3 p1)), .val (.int (own_R1 p1)), .val (.int (own_R2 p1)), .val (.int (own_R3 p1)), .val (.int (own_R4 p1)), .val (.ref b112), .val (.ref b113), .val (.ref b116), .val (.ref b122), .val (.ref b131), .unset, .unset] [(.int (6 : Int32))])) _
    refine st143 _ ?_
    show Steps p.tables e below (T143.setTop (mkF m 146 #[.val (.int p1), .val (.int (own_U0 p1)), .val (.int (own_U1 p1)), .val (.int (own_U2 p1)), .val (.int (own_U3 p1)), .val (.int (own_R1 p1)), .val (.int (own_R2 p1)), .val (.int (own_R3 p1)), .val (.int (own_R4 p1)), .val (.ref b112), .val (.ref b113), .val (.ref b116), .val (.ref b122), .val (.ref b131), .unset, .unset] [(.ref b143)])) _
    refine XS.dup X143.here hx rfl (hb hby at_146) rfl rfl ?_
    show Steps p.tables e below (T143.setTop (mkF m 147 #[.val (.int p1), .val (.int (own_U0 p1)), .val (.int (own_U1 p1)), .val (.int (own_U2 p1)), .val (.int (own_U3 p1)), .val (.int (own_R1 p1)), .val (.int (own_R2 p1)), .val (.int (own_R3 p1)), .val (.int (own_R4 p1)), .val (.ref b112), .val (.ref b113), .val (.ref b116), .val (.ref b122), .val (.ref b131), .unset, .unset] [(.ref b143), (.ref b143)])) _
    refine XS.iconst X143.here hx rfl (hb hby at_147) ?_
    show Steps p.tables e below (T143.setTop (mkF m 148 #[.val (.int p1), .val (.int (own_U0 p1)), .val (.int (own_U1 p1)), .val (.int (own_U2 p1)), .val (.int (own_U3 p1)), .val (.int (own_R1 p1)), .val (.int (own_R2 p1)), .val (.int (own_R3 p1)), .val (.int (own_R4 p1)), .val (.ref b112), .val (.ref b113), .val (.ref b116), .val (.ref b122), .val (.ref b131), .unset, .unset] [(.int (0 : Int32)), (.ref b143), (.ref b143)])) _
    refine XS.iloadN X143.here hx rfl (hb hby at_148) rfl ?_
    show Steps p.tables e below (T143.setTop (mkF m 149 #[.val (.int p1), .val (.int (own_U0 p1)), .val (.int (own_U1 p1)), .val (.int (own_U2 p1)), .val (.int (own_U3 p1)), .val (.int (own_R1 p1)), .val (.int (own_R2 p1)), .val (.int (own_R3 p1)), .val (.int (own_R4 p1)), .val (.ref b112), .val (.ref b113), .val (.ref b116), .val (.ref b122), .val (.ref b131), .unset, .unset] [(.int (own_U0 p1)), (.int (0 : Int32)), (.ref b143), (.ref b143)])) _
    refine XS.i2b X143.here hx rfl (hb hby at_149) rfl ?_
    show Steps p.tables e below (T143.setTop (mkF m 150 #[.val (.int p1), .val (.int (own_U0 p1)), .val (.int (own_U1 p1)), .val (.int (own_U2 p1)), .val (.int (own_U3 p1)), .val (.int (own_R1 p1)), .val (.int (own_R2 p1)), .val (.int (own_R3 p1)), .val (.int (own_R4 p1)), .val (.ref b112), .val (.ref b113), .val (.ref b116), .val (.ref b122), .val (.ref b131), .unset, .unset] [(.int (own_B0 p1)), (.int (0 : Int32)), (.ref b143), (.ref b143)])) _
    refine st149 _ ?_
    show Steps p.tables e below (T149.setTop (mkF m 151 #[.val (.int p1), .val (.int (own_U0 p1)), .val (.int (own_U1 p1)), .val (.int (own_U2 p1)), .val (.int (own_U3 p1)), .val (.int (own_R1 p1)), .val (.int (own_R2 p1)), .val (.int (own_R3 p1)), .val (.int (own_R4 p1)), .val (.ref b112), .val (.ref b113), .val (.ref b116), .val (.ref b122), .val (.ref b131), .unset, .unset] [(.ref b143)])) _
    refine XS.dup X149.here hx rfl (hb hby at_151) rfl rfl ?_
    show Steps p.tables e below (T149.setTop (mkF m 152 #[.val (.int p1), .val (.int (own_U0 p1)), .val (.int (own_U1 p1)), .val (.int (own_U2 p1)), .val (.int (own_U3 p1)), .val (.int (own_R1 p1)), .val (.int (own_R2 p1)), .val (.int (own_R3 p1)), .val (.int (own_R4 p1)), .val (.ref b112), .val (.ref b113), .val (.ref b116), .val (.ref b122), .val (.ref b131), .unset, .unset] [(.ref b143), (.ref b143)])) _
    refine XS.iconst X149.here hx rfl (hb hby at_152) ?_
    show Steps p.tables e below (T149.setTop (mkF m 153 #[.val (.int p1), .val (.int (own_U0 p1)), .val (.int (own_U1 p1)), .val (.int (own_U2 p1)), .val (.int (own_U3 p1)), .val (.int (own_R1 p1)), .val (.int (own_R2 p1)), .val (.int (own_R3 p1)), .val (.int (own_R4 p1)), .val (.ref b112), .val (.ref b113), .val (.ref b116), .val (.ref b122), .val (.ref b131), .unset, .unset] [(.int (1 : Int32)), (.ref b143), (.ref b143)])) _
    refine XS.iloadN X149.here hx rfl (hb hby at_153) rfl ?_
    show Steps p.tables e below (T149.setTop (mkF m 154 #[.val (.int p1), .val (.int (own_U0 p1)), .val (.int (own_U1 p1)), .val (.int (own_U2 p1)), .val (.int (own_U3 p1)), .val (.int (own_R1 p1)), .val (.int (own_R2 p1)), .val (.int (own_R3 p1)), .val (.int (own_R4 p1)), .val (.ref b112), .val (.ref b113), .val (.ref b116), .val (.ref b122), .val (.ref b131), .unset, .unset] [(.int (own_U1 p1)), (.int (1 : Int32)), (.ref b143), (.ref b143)])) _
    refine XS.i2b X149.here hx rfl (hb hby at_154) rfl ?_
    show Steps p.tables e below (T149.setTop (mkF m 155 #[.val (.int p1), .val (.int (own_U0 p1)), .val (.int (own_U1 p1)), .val (.int (own_U2 p1)), .val (.int (own_U3 p1)), .val (.int (own_R1 p1)), .val (.int (own_R2 p1)), .val (.int (own_R3 p1)), .val (.int (own_R4 p1)), .val (.ref b112), .val (.ref b113), .val (.ref b116), .val (.ref b122), .val (.ref b131), .unset, .unset] [(.int (own_B1 p1)), (.int (1 : Int32)), (.ref b143), (.ref b143)])) _
    refine st151 _ ?_
    show Steps p.tables e below (T151.setTop (mkF m 156 #[.val (.int p1), .val (.int (own_U0 p1)), .val (.int (own_U1 p1)), .val (.int (own_U2 p1)), .val (.int (own_U3 p1)), .val (.int (own_R1 p1)), .val (.int (own_R2 p1)), .val (.int (own_R3 p1)), .val (.int (own_R4 p1)), .val (.ref b112), .val (.ref b113), .val (.ref b116), .val (.ref b122), .val (.ref b131), .unset, .unset] [(.ref b143)])) _
    refine XS.dup X151.here hx rfl (hb hby at_156) rfl rfl ?_
    show Steps p.tables e below (T151.setTop (mkF m 157 #[.val (.int p1), .val (.int (own_U0 p1)), .val (.int (own_U1 p1)), .val (.int (own_U2 p1)), .val (.int (own_U3 p1)), .val (.int (own_R1 p1)), .val (.int (own_R2 p1)), .val (.int (own_R3 p1)), .val (.int (own_R4 p1)), .val (.ref b112), .val (.ref b113), .val (.ref b116), .val (.ref b122), .val (.ref b131), .unset, .unset] [(.ref b143), (.ref b143)])) _
    refine XS.iconst X151.here hx rfl (hb hby at_157) ?_
    show Steps p.tables e below (T151.setTop (mkF m 158 #[.val (.int p1), .val (.int (own_U0 p1)), .val (.int (own_U1 p1)), .val (.int (own_U2 p1)), .val (.int (own_U3 p1)), .val (.int (own_R1 p1)), .val (.int (own_R2 p1)), .val (.int (own_R3 p1)), .val (.int (own_R4 p1)), .val (.ref b112), .val (.ref b113), .val (.ref b116), .val (.ref b122), .val (.ref b131), .unset, .unset] [(.int (2 : Int32)), (.ref b143), (.ref b143)])) _
    refine XS.iloadN X151.here hx rfl (hb hby at_158) rfl ?_
    show Steps p.tables e below (T151.setTop (mkF m 159 #[.val (.int p1), .val (.int (own_U0 p1)), .val (.int (own_U1 p1)), .val (.int (own_U2 p1)), .val (.int (own_U3 p1)), .val (.int (own_R1 p1)), .val (.int (own_R2 p1)), .val (.int (own_R3 p1)), .val (.int (own_R4 p1)), .val (.ref b112), .val (.ref b113), .val (.ref b116), .val (.ref b122), .val (.ref b131), .unset, .unset] [(.int (own_U2 p1)), (.int (2 : Int32)), (.ref b143), (.ref b143)])) _
    refine XS.i2b X151.here hx rfl (hb hby at_159) rfl ?_
    show Steps p.tables e below (T151.setTop (mkF m 160 #[.val (.int p1), .val (.int (own_U0 p1)), .val (.int (own_U1 p1)), .val (.int (own_U2 p1)), .val (.int (own_U3 p1)), .val (.int (own_R1 p1)), .val (.int (own_R2 p1)), .val (.int (own_R3 p1)), .val (.int (own_R4 p1)), .val (.ref b112), .val (.ref b113), .val (.ref b116), .val (.ref b122), .val (.ref b131), .unset, .unset] [(.int (own_B2 p1)), (.int (2 : Int32)), (.ref b143), (.ref b143)])) _
    refine st153 _ ?_
    show Steps p.tables e below (T153.setTop (mkF m 161 #[.val (.int p1), .val (.int (own_U0 p1)), .val (.int (own_U1 p1)), .val (.int (own_U2 p1)), .val (.int (own_U3 p1)), .val (.int (own_R1 p1)), .val (.int (own_R2 p1)), .val (.int (own_R3 p1)), .val (.int (own_R4 p1)), .val (.ref b112), .val (.ref b113), .val (.ref b116), .val (.ref b122), .val (.ref b131), .unset, .unset] [(.ref b143)])) _
    refine XS.dup X153.here hx rfl (hb hby at_161) rfl rfl ?_
    show Steps p.tables e below (T153.setTop (mkF m 162 #[.val (.int p1), .val (.int (own_U0 p1)), .val (.int (own_U1 p1)), .val (.int (own_U2 p1)), .val (.int (own_U3 p1)), .val (.int (own_R1 p1)), .val (.int (own_R2 p1)), .val (.int (own_R3 p1)), .val (.int (own_R4 p1)), .val (.ref b112), .val (.ref b113), .val (.ref b116), .val (.ref b122), .val (.ref b131), .unset, .unset] [(.ref b143), (.ref b143)])) _
    refine XS.iconst X153.here hx rfl (hb hby at_162) ?_
    show Steps p.tables e below (T153.setTop (mkF m 163 #[.val (.int p1), .val (.int (own_U0 p1)), .val (.int (own_U1 p1)), .val (.int (own_U2 p1)), .val (.int (own_U3 p1)), .val (.int (own_R1 p1)), .val (.int (own_R2 p1)), .val (.int (own_R3 p1)), .val (.int (own_R4 p1)), .val (.ref b112), .val (.ref b113), .val (.ref b116), .val (.ref b122), .val (.ref b131), .unset, .unset] [(.int (3 : Int32)), (.ref b143), (.ref b143)])) _
    refine XS.iload X153.here hx rfl (hb hby at_163) rfl ?_
    show Steps p.tables e below (T153.setTop (mkF m 165 #[.val (.int p1), .val (.int (own_U0 p1)), .val (.int (own_U1 p1)), .val (.int (own_U2 p1)), .val (.int (own_U3 p1)), .val (.int (own_R1 p1)), .val (.int (own_R2 p1)), .val (.int (own_R3 p1)), .val (.int (own_R4 p1)), .val (.ref b112), .val (.ref b113), .val (.ref b116), .val (.ref b122), .val (.ref b131), .unset, .unset] [(.int (own_U3 p1)), (.int (3 : Int32)), (.ref b143), (.ref b143)])) _
    refine XS.i2b X153.here hx rfl (hb hby at_165) rfl ?_
    show Steps p.tables e below (T153.setTop (mkF m 166 #[.val (.int p1), .val (.int (own_U0 p1)), .val (.int (own_U1 p1)), .val (.int (own_U2 p1)), .val (.int (own_U3 p1)), .val (.int (own_R1 p1)), .val (.int (own_R2 p1)), .val (.int (own_R3 p1)), .val (.int (own_R4 p1)), .val (.ref b112), .val (.ref b113), .val (.ref b116), .val (.ref b122), .val (.ref b131), .unset, .unset] [(.int (own_B3 p1)), (.int (3 : Int32)), (.ref b143), (.ref b143)])) _
    refine st155 _ ?_
    show Steps p.tables e below (T155.setTop (mkF m 167 #[.val (.int p1), .val (.int (own_U0 p1)), .val (.int (own_U1 p1)), .val (.int (own_U2 p1)), .val (.int (own_U3 p1)), .val (.int (own_R1 p1)), .val (.int (own_R2 p1)), .val (.int (own_R3 p1)), .val (.int (own_R4 p1)), .val (.ref b112), .val (.ref b113), .val (.ref b116), .val (.ref b122), .val (.ref b131), .unset, .unset] [(.ref b143)])) _
    refine XS.dup X155.here hx rfl (hb hby at_167) rfl rfl ?_
    show Steps p.tables e below (T155.setTop (mkF m 168 #[.val (.int p1), .val (.int (own_U0 p1)), .val (.int (own_U1 p1)), .val (.int (own_U2 p1)), .val (.int (own_U3 p1)), .val (.int (own_R1 p1)), .val (.int (own_R2 p1)), .val (.int (own_R3 p1)), .val (.int (own_R4 p1)), .val (.ref b112), .val (.ref b113), .val (.ref b116), .val (.ref b122), .val (.ref b131), .unset, .unset] [(.ref b143), (.ref b143)])) _
    refine XS.iconst X155.here hx rfl (hb hby at_168) ?_
    show Steps p.tables e below (T155.setTop (mkF m 169 #[.val (.int p1), .val (.int (own_U0 p1)), .val (.int (own_U1 p1)), .val (.int (own_U2 p1)), .val (.int (own_U3 p1)), .val (.int (own_R1 p1)), .val (.int (own_R2 p1)), .val (.int (own_R3 p1)), .val (.int (own_R4 p1)), .val (.ref b112), .val (.ref b113), .val (.ref b116), .val (.ref b122), .val (.ref b131), .unset, .unset] [(.int (4 : Int32)), (.ref b143), (.ref b143)])) _
    refine XS.iload X155.here hx rfl (hb hby at_169) rfl ?_
    show Steps p.tables e below (T155.setTop (mkF m 171 #[.val (.int p1), .val (.int (own_U0 p1)), .val (.int (own_U1 p1)), .val (.int (own_U2 p1)), .val (.int (own_U3 p1)), .val (.int (own_R1 p1)), .val (.int (own_R2 p1)), .val (.int (own_R3 p1)), .val (.int (own_R4 p1)), .val (.ref b112), .val (.ref b113), .val (.ref b116), .val (.ref b122), .val (.ref b131), .unset, .unset] [(.int (own_R4 p1)), (.int (4 : Int32)), (.ref b143), (.ref b143)])) _
    refine XS.i2b X155.here hx rfl (hb hby at_171) rfl ?_
    show Steps p.tables e below (T155.setTop (mkF m 172 #[.val (.int p1), .val (.int (own_U0 p1)), .val (.int (own_U1 p1)), .val (.int (own_U2 p1)), .val (.int (own_U3 p1)), .val (.int (own_R1 p1)), .val (.int (own_R2 p1)), .val (.int (own_R3 p1)), .val (.int (own_R4 p1)), .val (.ref b112), .val (.ref b113), .val (.ref b116), .val (.ref b122), .val (.ref b131), .unset, .unset] [(.int (own_B4 p1)), (.int (4 : Int32)), (.ref b143), (.ref b143)])) _
    refine st157 _ ?_
    show Steps p.tables e below (T157.setTop (mkF m 173 #[.val (.int p1), .val (.int (own_U0 p1)), .val (.int (own_U1 p1)), .val (.int (own_U2 p1)), .val (.int (own_U3 p1)), .val (.int (own_R1 p1)), .val (.int (own_R2 p1)), .val (.int (own_R3 p1)), .val (.int (own_R4 p1)), .val (.ref b112), .val (.ref b113), .val (.ref b116), .val (.ref b122), .val (.ref b131), .unset, .unset] [(.ref b143)])) _
    refine XS.dup X157.here hx rfl (hb hby at_173) rfl rfl ?_
    show Steps p.tables e below (T157.setTop (mkF m 174 #[.val (.int p1), .val (.int (own_U0 p1)), .val (.int (own_U1 p1)), .val (.int (own_U2 p1)), .val (.int (own_U3 p1)), .val (.int (own_R1 p1)), .val (.int (own_R2 p1)), .val (.int (own_R3 p1)), .val (.int (own_R4 p1)), .val (.ref b112), .val (.ref b113), .val (.ref b116), .val (.ref b122), .val (.ref b131), .unset, .unset] [(.ref b143), (.ref b143)])) _
    refine XS.iconst X157.here hx rfl (hb hby at_174) ?_
    show Steps p.tables e below (T157.setTop (mkF m 175 #[.val (.int p1), .val (.int (own_U0 p1)), .val (.int (own_U1 p1)), .val (.int (own_U2 p1)), .val (.int (own_U3 p1)), .val (.int (own_R1 p1)), .val (.int (own_R2 p1)), .val (.int (own_R3 p1)), .val (.int (own_R4 p1)), .val (.ref b112), .val (.ref b113), .val (.ref b116), .val (.ref b122), .val (.ref b131), .unset, .unset] [(.int (5 : Int32)), (.ref b143), (.ref b143)])) _
    refine XS.iload X157.here hx rfl (hb hby at_175) rfl ?_
    show Steps p.tables e below (T157.setTop (mkF m 177 #[.val (.int p1), .val (.int (own_U0 p1)), .val (.int (own_U1 p1)), .val (.int (own_U2 p1)), .val (.int (own_U3 p1)), .val (.int (own_R1 p1)), .val (.int (own_R2 p1)), .val (.int (own_R3 p1)), .val (.int (own_R4 p1)), .val (.ref b112), .val (.ref b113), .val (.ref b116), .val (.ref b122), .val (.ref b131), .unset, .unset] [(.int (own_R4 p1)), (.int (5 : Int32)), (.ref b143), (.ref b143)])) _
    refine XS.bipush X157.here hx rfl (hb hby at_177) ?_
    show Steps p.tables e below (T157.setTop (mkF m 179 #[.val (.int p1), .val (.int (own_U0 p1)), .val (.int (own_U1 p1)), .val (.int (own_U2 p1)), .val (.int (own_U3 p1)), .val (.int (own_R1 p1)), .val (.int (own_R2 p1)), .val (.int (own_R3 p1)), .val (.int (own_R4 p1)), .val (.ref b112), .val (.ref b113), .val (.ref b116), .val (.ref b122), .val (.ref b131), .unset, .unset] [(.int (8 : Int32)), (.int (own_R4 p1)), (.int (5 : Int32)), (.ref b143), (.ref b143)])) _
    refine XS.iushr X157.here hx rfl (hb hby at_179) rfl ?_
    show Steps p.tables e below (T157.setTop (mkF m 180 #[.val (.int p1), .val (.int (own_U0 p1)), .val (.int (own_U1 p1)), .val (.int (own_U2 p1)), .val (.int (own_U3 p1)), .val (.int (own_R1 p1)), .val (.int (own_R2 p1)), .val (.int (own_R3 p1)), .val (.int (own_R4 p1)), .val (.ref b112), .val (.ref b113), .val (.ref b116), .val (.ref b122), .val (.ref b131), .unset, .unset] [(.int (own_H p1)), (.int (5 : Int32)), (.ref b143), (.ref b143)])) _
    refine XS.i2b X157.here hx rfl (hb hby at_180) rfl ?_
    show Steps p.tables e below (T157.setTop (mkF m 181 #[.val (.int p1), .val (.int (own_U0 p1)), .val (.int (own_U1 p1)), .val (.int (own_U2 p1)), .val (.int (own_U3 p1)), .val (.int (own_R1 p1)), .val (.int (own_R2 p1)), .val (.int (own_R3 p1)), .val (.int (own_R4 p1)), .val (.ref b112), .val (.ref b113), .val (.ref b116), .val (.ref b122), .val (.ref b131), .unset, .unset] [(.int (own_B5 p1)), (.int (5 : Int32)), (.ref b143), (.ref b143)])) _
    refine st159 _ ?_
    show Steps p.tables e below (T159.setTop (mkF m 182 #[.val (.int p1), .val (.int (own_U0 p1)), .val (.int (own_U1 p1)), .val (.int (own_U2 p1)), .val (.int (own_U3 p1)), .val (.int (own_R1 p1)), .val (.int (own_R2 p1)), .val (.int (own_R3 p1)), .val (.int (own_R4 p1)), .val (.ref b112), .val (.ref b113), .val (.ref b116), .val (.ref b122), .val (.ref b131), .unset, .unset] [(.ref b143)])) _
    refine XS.astore X159.here hx rfl (hb hby at_182) rfl rfl (l' := #[.val (.int p1), .val (.int (own_U0 p1)), .val (.int (own_U1 p1)), .val (.int (own_U2 p1)), .val (.int (own_U3 p1)), .val (.int (own_R1 p1)), .val (.int (own_R2 p1)), .val (.int (own_R3 p1)), .val (.int (own_R4 p1)), .val (.ref b112), .val (.ref b113), .val (.ref b116), .val (.ref b122), .val (.ref b131), .val (.ref b143), .unset]) rfl ?_
    show Steps p.tables e below (T159.setTop (mkF m 184 #[.val (.int p1), .val (.int (own_U0 p1)), .val (.int (own_U1 p1)), .val (.int (own_U2 p1)), .val (.int (own_U3 p1)), .val (.int (own_R1 p1)), .val (.int (own_R2 p1)), .val (.int (own_R3 p1)), .val (.int (own_R4 p1)), .val (.ref b112), .val (.ref b113), .val (.ref b116), .val (.ref b122), .val (.ref b131), .val (.ref b143), .unset] [])) _
    refine XS.bipush X159.here hx rfl (hb hby at_184) ?_
    show Steps p.tables e below (T159.setTop (mkF m 186 #[.val (.int p1), .val (.int (own_U0 p1)), .val (.int (own_U1 p1)), .val (.int (own_U2 p1)), .val (.int (own_U3 p1)), .val (.int (own_R1 p1)), .val (.int (own_R2 p1)), .val (.int (own_R3 p1)), .val (.int (own_R4 p1)), .val (.ref b112), .val (.ref b113), .val (.ref b116), .val (.ref b122), .val (.ref b131), .val (.ref b143), .unset] [(.int (9 : Int32))])) _
    refine st160 _ ?_
    show Steps p.tables e below (T160.setTop (mkF m 188 #[.val (.int p1), .val (.int (own_U0 p1)), .val (.int (own_U1 p1)), .val (.int (own_U2 p1)), .val (.int (own_U3 p1)), .val (.int (own_R1 p1)), .val (.int (own_R2 p1)), .val (.int (own_R3 p1)), .val (.int (own_R4 p1)), .val (.ref b112), .val (.ref b113), .val (.ref b116), .val (.ref b122), .val (.ref b131), .val (.ref b143), .unset] [(.ref b160)])) _
    refine XS.dup X160.here hx rfl (hb hby at_188) rfl rfl ?_
    show Steps p.tables e below (T160.setTop (mkF m 189 #[.val (.int p1), .val (.int (own_U0 p1)), .val (.int (own_U1 p1)), .val (.int (own_U2 p1)), .val (.int (own_U3 p1)), .val (.int (own_R1 p1)), .val (.int (own_R2 p1)), .val (.int (own_R3 p1)), .val (.int (own_R4 p1)), .val (.ref b112), .val (.ref b113), .val (.ref b116), .val (.ref b122), .val (.ref b131), .val (.ref b143), .unset] [(.ref b160), (.ref b160)])) _
    refine XS.iconst X160.here hx rfl (hb hby at_189) ?_
    show Steps p.tables e below (T160.setTop (mkF m 190 #[.val (.int p1), .val (.int (own_U0 p1)), .val (.int (own_U1 p1)), .val (.int (own_U2 p1)), .val (.int (own_U3 p1)), .val (.int (own_R1 p1)), .val (.int (own_R2 p1)), .val (.int (own_R3 p1)), .val (.int (own_R4 p1)), .val (.ref b112), .val (.ref b113), .val (.ref b116), .val (.ref b122), .val (.ref b131), .val (.ref b143), .unset] [(.int (0 : Int32)), (.ref b160), (.ref b160)])) _
    refine XS.bipush X160.here hx rfl (hb hby at_190) ?_
    show Steps p.tables e below (T160.setTop (mkF m 192 #[.val (.int p1), .val (.int (own_U0 p1)), .val (.int (own_U1 p1)), .val (.int (own_U2 p1)), .val (.int (own_U3 p1)), .val (.int (own_R1 p1)), .val (.int (own_R2 p1)), .val (.int (own_R3 p1)), .val (.int (own_R4 p1)), .val (.ref b112), .val (.ref b113), .val (.ref b116), .val (.ref b122), .val (.ref b131), .val (.ref b143), .unset] [(.int (49 : Int32)), (.int (0 : Int32)), (.ref b160), (.ref b160)])) _
    refine st167 _ ?_
    show Steps p.tables e below (T167.setTop (mkF m 193 #[.val (.int p1), .val (.int (own_U0 p1)), .val (.int (own_U1 p1)), .val (.int (own_U2 p1)), .val (.int (own_U3 p1)), .val (.int (own_R1 p1)), .val (.int (own_R2 p1)), .val (.int (own_R3 p1)), .val (.int (own_R4 p1)), .val (.ref b112), .val (.ref b113), .val (.ref b116), .val (.ref b122), .val (.ref b131), .val (.ref b143), .unset] [(.ref b160)])) _
    refine XS.dup X167.here hx rfl (hb hby at_193) rfl rfl ?_
    show Steps p.tables e below (T167.setTop (mkF m 194 #[.val (.int p1), .val (.int (own_U0 p1)), .val (.int (own_U1 p1)), .val (.int (own_U2 p1)), .val (.int (own_U3 p1)), .val (.int (own_R1 p1)), .val (.int (own_R2 p1)), .val (.int (own_R3 p1)), .val (.int (own_R4 p1)), .val (.ref b112), .val (.ref b113), .val (.ref b116), .val (.ref b122), .val (.ref b131), .val (.ref b143), .unset] [(.ref b160), (.ref b160)])) _
    refine XS.iconst X167.here hx rfl (hb hby at_194) ?_
    show Steps p.tables e below (T167.setTop (mkF m 195 #[.val (.int p1), .val (.int (own_U0 p1)), .val (.int (own_U1 p1)), .val (.int (own_U2 p1)), .val (.int (own_U3 p1)), .val (.int (own_R1 p1)), .val (.int (own_R2 p1)), .val (.int (own_R3 p1)), .val (.int (own_R4 p1)), .val (.ref b112), .val (.ref b113), .val (.ref b116), .val (.ref b122), .val (.ref b131), .val (.ref b143), .unset] [(.int (1 : Int32)), (.ref b160), (.ref b160)])) _
    refine XS.bipush X167.here hx rfl (hb hby at_195) ?_
    show Steps p.tables e below (T167.setTop (mkF m 197 #[.val (.int p1), .val (.int (own_U0 p1)), .val (.int (own_U1 p1)), .val (.int (own_U2 p1)), .val (.int (own_U3 p1)), .val (.int (own_R1 p1)), .val (.int (own_R2 p1)), .val (.int (own_R3 p1)), .val (.int (own_R4 p1)), .val (.ref b112), .val (.ref b113), .val (.ref b116), .val (.ref b122), .val (.ref b131), .val (.ref b143), .unset] [(.int (50 : Int32)), (.int (1 : Int32)), (.ref b160), (.ref b160)])) _
    refine st169 _ ?_
    show Steps p.tables e below (T169.setTop (mkF m 198 #[.val (.int p1), .val (.int (own_U0 p1)), .val (.int (own_U1 p1)), .val (.int (own_U2 p1)), .val (.int (own_U3 p1)), .val (.int (own_R1 p1)), .val (.int (own_R2 p1)), .val (.int (own_R3 p1)), .val (.int (own_R4 p1)), .val (.ref b112), .val (.ref b113), .val (.ref b116), .val (.ref b122), .val (.ref b131), .val (.ref b143), .unset] [(.ref b160)])) _
    refine XS.dup X169.here hx rfl (hb hby at_198) rfl rfl ?_
    show Steps p.tables e below (T169.setTop (mkF m 199 #[.val (.int p1), .val (.int (own_U0 p1)), .val (.int (own_U1 p1)), .val (.int (own_U2 p1)), .val (.int (own_U3 p1)), .val (.int (own_R1 p1)), .val (.int (own_R2 p1)), .val (.int (own_R3 p1)), .val (.int (own_R4 p1)), .val (.ref b112), .val (.ref b113), .val (.ref b116), .val (.ref b122), .val (.ref b131), .val (.ref b143), .unset] [(.ref b160), (.ref b160)])) _
    refine XS.iconst X169.here hx rfl (hb hby at_199) ?_
    show Steps p.tables e below (T169.setTop (mkF m 200 #[.val (.int p1), .val (.int (own_U0 p1)), .val (.int (own_U1 p1)), .val (.int (own_U2 p1)), .val (.int (own_U3 p1)), .val (.int (own_R1 p1)), .val (.int (own_R2 p1)), .val (.int (own_R3 p1)), .val (.int (own_R4 p1)), .val (.ref b112), .val (.ref b113), .val (.ref b116), .val (.ref b122), .val (.ref b131), .val (.ref b143), .unset] [(.int (2 : Int32)), (.ref b160), (.ref b160)])) _
    refine XS.bipush X169.here hx rfl (hb hby at_200) ?_
    show Steps p.tables e below (T169.setTop (mkF m 202 #[.val (.int p1), .val (.int (own_U0 p1)), .val (.int (own_U1 p1)), .val (.int (own_U2 p1)), .val (.int (own_U3 p1)), .val (.int (own_R1 p1)), .val (.int (own_R2 p1)), .val (.int (own_R3 p1)), .val (.int (own_R4 p1)), .val (.ref b112), .val (.ref b113), .val (.ref b116), .val (.ref b122), .val (.ref b131), .val (.ref b143), .unset] [(.int (51 : Int32)), (.int (2 : Int32)), (.ref b160), (.ref b160)])) _
    refine st171 _ ?_
    show Steps p.tables e below (T171.setTop (mkF m 203 #[.val (.int p1), .val (.int (own_U0 p1)), .val (.int (own_U1 p1)), .val (.int (own_U2 p1)), .val (.int (own_U3 p1)), .val (.int (own_R1 p1)), .val (.int (own_R2 p1)), .val (.int (own_R3 p1)), .val (.int (own_R4 p1)), .val (.ref b112), .val (.ref b113), .val (.ref b116), .val (.ref b122), .val (.ref b131), .val (.ref b143), .unset] [(.ref b160)])) _
    refine XS.dup X171.here hx rfl (hb hby at_203) rfl rfl ?_
    show Steps p.tables e below (T171.setTop (mkF m 204 #[.val (.int p1), .val (.int (own_U0 p1)), .val (.int (own_U1 p1)), .val (.int (own_U2 p1)), .val (.int (own_U3 p1)), .val (.int (own_R1 p1)), .val (.int (own_R2 p1)), .val (.int (own_R3 p1)), .val (.int (own_R4 p1)), .val (.ref b112), .val (.ref b113), .val (.ref b116), .val (.ref b122), .val (.ref b131), .val (.ref b143), .unset] [(.ref b160), (.ref b160)])) _
    refine XS.iconst X171.here hx rfl (hb hby at_204) ?_
    show Steps p.tables e below (T171.setTop (mkF m 205 #[.val (.int p1), .val (.int (own_U0 p1)), .val (.int (own_U1 p1)), .val (.int (own_U2 p1)), .val (.int (own_U3 p1)), .val (.int (own_R1 p1)), .val (.int (own_R2 p1)), .val (.int (own_R3 p1)), .val (.int (own_R4 p1)), .val (.ref b112), .val (.ref b113), .val (.ref b116), .val (.ref b122), .val (.ref b131), .val (.ref b143), .unset] [(.int (3 : Int32)), (.ref b160), (.ref b160)])) _
    refine XS.bipush X171.here hx rfl (hb hby at_205) ?_
    show Steps p.tables e below (T171.setTop (mkF m 207 #[.val (.int p1), .val (.int (own_U0 p1)), .val (.int (own_U1 p1)), .val (.int (own_U2 p1)), .val (.int (own_U3 p1)), .val (.int (own_R1 p1)), .val (.int (own_R2 p1)), .val (.int (own_R3 p1)), .val (.int (own_R4 p1)), .val (.ref b112), .val (.ref b113), .val (.ref b116), .val (.ref b122), .val (.ref b131), .val (.ref b143), .unset] [(.int (52 : Int32)), (.int (3 : Int32)), (.ref b160), (.ref b160)])) _
    refine st173 _ ?_
    show Steps p.tables e below (T173.setTop (mkF m 208 #[.val (.int p1), .val (.int (own_U0 p1)), .val (.int (own_U1 p1)), .val (.int (own_U2 p1)), .val (.int (own_U3 p1)), .val (.int (own_R1 p1)), .val (.int (own_R2 p1)), .val (.int (own_R3 p1)), .val (.int (own_R4 p1)), .val (.ref b112), .val (.ref b113), .val (.ref b116), .val (.ref b122), .val (.ref b131), .val (.ref b143), .unset] [(.ref b160)])) _
    refine XS.dup X173.here hx rfl (hb hby at_208) rfl rfl ?_
    show Steps p.tables e below (T173.setTop (mkF m 209 #[.val (.int p1), .val (.int (own_U0 p1)), .val (.int (own_U1 p1)), .val (.int (own_U2 p1)), .val (.int (own_U3 p1)), .val (.int (own_R1 p1)), .val (.int (own_R2 p1)), .val (.int (own_R3 p1)), .val (.int (own_R4 p1)), .val (.ref b112), .val (.ref b113), .val (.ref b116), .val (.ref b122), .val (.ref b131), .val (.ref b143), .unset] [(.ref b160), (.ref b160)])) _
    refine XS.iconst X173.here hx rfl (hb hby at_209) ?_
    show Steps p.tables e below (T173.setTop (mkF m 210 #[.val (.int p1), .val (.int (own_U0 p1)), .val (.int (own_U1 p1)), .val (.int (own_U2 p1)), .val (.int (own_U3 p1)), .val (.int (own_R1 p1)), .val (.int (own_R2 p1)), .val (.int (own_R3 p1)), .val (.int (own_R4 p1)), .val (.ref b112), .val (.ref b113), .val (.ref b116), .val (.ref b122), .val (.ref b131), .val (.ref b143), .unset] [(.int (4 : Int32)), (.ref b160), (.ref b160)])) _
    refine XS.bipush X173.here hx rfl (hb hby at_210) ?_
    show Steps p.tables e below (T173.setTop (mkF m 212 #[.val (.int p1), .val (.int (own_U0 p1)), .val (.int (own_U1 p1)), .val (.int (own_U2 p1)), .val (.int (own_U3 p1)), .val (.int (own_R1 p1)), .val (.int (own_R2 p1)), .val (.int (own_R3 p1)), .val (.int (own_R4 p1)), .val (.ref b112), .val (.ref b113), .val (.ref b116), .val (.ref b122), .val (.ref b131), .val (.ref b143), .unset] [(.int (53 : Int32)), (.int (4 : Int32)), (.ref b160), (.ref b160)])) _
    refine st175 _ ?_
    show Steps p.tables e below (T175.setTop (mkF m 213 #[.val (.int p1), .val (.int (own_U0 p1)), .val (.int (own_U1 p1)), .val (.int (own_U2 p1)), .val (.int (own_U3 p1)), .val (.int (own_R1 p1)), .val (.int (own_R2 p1)), .val (.int (own_R3 p1)), .val (.int (own_R4 p1)), .val (.ref b112), .val (.ref b113), .val (.ref b116), .val (.ref b122), .val (.ref b131), .val (.ref b143), .unset] [(.ref b160)])) _
    refine XS.dup X175.here hx rfl (hb hby at_213) rfl rfl ?_
    show Steps p.tables e below (T175.setTop (mkF m 214 #[.val (.int p1), .val (.int (own_U0 p1)), .val (.int (own_U1 p1)), .val (.int (own_U2 p1)), .val (.int (own_U3 p1)), .val (.int (own_R1 p1)), .val (.int (own_R2 p1)), .val (.int (own_R3 p1)), .val (.int (own_R4 p1)), .val (.ref b112), .val (.ref b113), .val (.ref b116), .val (.ref b122), .val (.ref b131), .val (.ref b143), .unset] [(.ref b160), (.ref b160)])) _
    refine XS.iconst X175.here hx rfl (hb hby at_214) ?_
    show Steps p.tables e below (T175.setTop (mkF m 215 #[.val (.int p1), .val (.int (own_U0 p1)), .val (.int (own_U1 p1)), .val (.int (own_U2 p1)), .val (.int (own_U3 p1)), .val (.int (own_R1 p1)), .val (.int (own_R2 p1)), .val (.int (own_R3 p1)), .val (.int (own_R4 p1)), .val (.ref b112), .val (.ref b113), .val (.ref b116), .val (.ref b122), .val (.ref b131), .val (.ref b143), .unset] [(.int (5 : Int32)), (.ref b160), (.ref b160)])) _
    refine XS.bipush X175.here hx rfl (hb hby at_215) ?_
    show Steps p.tables e below (T175.setTop (mkF m 217 #[.val (.int p1), .val (.int (own_U0 p1)), .val (.int (own_U1 p1)), .val (.int (own_U2 p1)), .val (.int (own_U3 p1)), .val (.int (own_R1 p1)), .val (.int (own_R2 p1)), .val (.int (own_R3 p1)), .val (.int (own_R4 p1)), .val (.ref b112), .val (.ref b113), .val (.ref b116), .val (.ref b122), .val (.ref b131), .val (.ref b143), .unset] [(.int (54 : Int32)), (.int (5 : Int32)), (.ref b160), (.ref b160)])) _
    refine st177 _ ?_
    show Steps p.tables e below (T177.setTop (mkF m 218 #[.val (.int p1), .val (.int (own_U0 p1)), .val (.int (own_U1 p1)), .val (.int (own_U2 p1)), .val (.int (own_U3 p1)), .val (.int (own_R1 p1)), .val (.int (own_R2 p1)), .val (.int (own_R3 p1)), .val (.int (own_R4 p1)), .val (.ref b112), .val (.ref b113), .val (.ref b116), .val (.ref b122), .val (.ref b131), .val (.ref b143), .unset] [(.ref b160)])) _
    refine XS.dup X177.here hx rfl (hb hby at_218) rfl rfl ?_
    show Steps p.tables e below (T177.setTop (mkF m 219 #[.val (.int p1), .val (.int (own_U0 p1)), .val (.int (own_U1 p1)), .val (.int (own_U2 p1)), .val (.int (own_U3 p1)), .val (.int (own_R1 p1)), .val (.int (own_R2 p1)), .val (.int (own_R3 p1)), .val (.int (own_R4 p1)), .val (.ref b112), .val (.ref b113), .val (.ref b116), .val (.ref b122), .val (.ref b131), .val (.ref b143), .unset] [(.ref b160), (.ref b160)])) _
    refine XS.bipush X177.here hx rfl (hb hby at_219) ?_
    show Steps p.tables e below (T177.setTop (mkF m 221 #[.val (.int p1), .val (.int (own_U0 p1)), .val (.int (own_U1 p1)), .val (.int (own_U2 p1)), .val (.int (own_U3 p1)), .val (.int (own_R1 p1)), .val (.int (own_R2 p1)), .val (.int (own_R3 p1)), .val (.int (own_R4 p1)), .val (.ref b112), .val (.ref b113), .val (.ref b116), .val (.ref b122), .val (.ref b131), .val (.ref b143), .unset] [(.int (6 : Int32)), (.ref b160), (.ref b160)])) _
    refine XS.bipush X177.here hx rfl (hb hby at_221) ?_
    show Steps p.tables e below (T177.setTop (mkF m 223 #[.val (.int p1), .val (.int (own_U0 p1)), .val (.int (own_U1 p1)), .val (.int (own_U2 p1)), .val (.int (own_U3 p1)), .val (.int (own_R1 p1)), .val (.int (own_R2 p1)), .val (.int (own_R3 p1)), .val (.int (own_R4 p1)), .val (.ref b112), .val (.ref b113), .val (.ref b116), .val (.ref b122), .val (.ref b131), .val (.ref b143), .unset] [(.int (55 : Int32)), (.int (6 : Int32)), (.ref b160), (.ref b160)])) _
    refine st179 _ ?_
    show Steps p.tables e below (T179.setTop (mkF m 224 #[.val (.int p1), .val (.int (own_U0 p1)), .val (.int (own_U1 p1)), .val (.int (own_U2 p1)), .val (.int (own_U3 p1)), .val (.int (own_R1 p1)), .val (.int (own_R2 p1)), .val (.int (own_R3 p1)), .val (.int (own_R4 p1)), .val (.ref b112), .val (.ref b113), .val (.ref b116), .val (.ref b122), .val (.ref b131), .val (.ref b143), .unset] [(.ref b160)])) _
    refine XS.dup X179.here hx rfl (hb hby at_224) rfl rfl ?_
    show Steps p.tables e below (T179.setTop (mkF m 225 #[.val (.int p1), .val (.int (own_U0 p1)), .val (.int (own_U1 p1)), .val (.int (own_U2 p1)), .val (.int (own_U3 p1)), .val (.int (own_R1 p1)), .val (.int (own_R2 p1)), .val (.int (own_R3 p1)), .val (.int (own_R4 p1)), .val (.ref b112), .val (.ref b113), .val (.ref b116), .val (.ref b122), .val (.ref b131), .val (.ref b143), .unset] [(.ref b160), (.ref b160)])) _
    refine XS.bipush X179.here hx rfl (hb hby at_225) ?_
    show Steps p.tables e below (T179.setTop (mkF m 227 #[.val (.int p1), .val (.int (own_U0 p1)), .val (.int (own_U1 p1)), .val (.int (own_U2 p1)), .val (.int (own_U3 p1)), .val (.int (own_R1 p1)), .val (.int (own_R2 p1)), .val (.int (own_R3 p1)), .val (.int (own_R4 p1)), .val (.ref b112), .val (.ref b113), .val (.ref b116), .val (.ref b122), .val (.ref b131), .val (.ref b143), .unset] [(.int (7 : Int32)), (.ref b160), (.ref b160)])) _
    refine XS.bipush X179.here hx rfl (hb hby at_227) ?_
    show Steps p.tables e below (T179.setTop (mkF m 229 #[.val (.int p1), .val (.int (own_U0 p1)), .val (.int (own_U1 p1)), .val (.int (own_U2 p1)), .val (.int (own_U3 p1)), .val (.int (own_R1 p1)), .val (.int (own_R2 p1)), .val (.int (own_R3 p1)), .val (.int (own_R4 p1)), .val (.ref b112), .val (.ref b113), .val (.ref b116), .val (.ref b122), .val (.ref b131), .val (.ref b143), .unset] [(.int (56 : Int32)), (.int (7 : Int32)), (.ref b160), (.ref b160)])) _
    refine st181 _ ?_
    show Steps p.tables e below (T181.setTop (mkF m 230 #[.val (.int p1), .val (.int (own_U0 p1)), .val (.int (own_U1 p1)), .val (.int (own_U2 p1)), .val (.int (own_U3 p1)), .val (.int (own_R1 p1)), .val (.int (own_R2 p1)), .val (.int (own_R3 p1)), .val (.int (own_R4 p1)), .val (.ref b112), .val (.ref b113), .val (.ref b116), .val (.ref b122), .val (.ref b131), .val (.ref b143), .unset] [(.ref b160)])) _
    refine XS.dup X181.here hx rfl (hb hby at_230) rfl rfl ?_
    show Steps p.tables e below (T181.setTop (mkF m 231 #[.val (.int p1), .val (.int (own_U0 p1)), .val (.int (own_U1 p1)), .val (.int (own_U2 p1)), .val (.int (own_U3 p1)), .val (.int (own_R1 p1)), .val (.int (own_R2 p1)), .val (.int (own_R3 p1)), .val (.int (own_R4 p1)), .val (.ref b112), .val (.ref b113), .val (.ref b116), .val (.ref b122), .val (.ref b131), .val (.ref b143), .unset] [(.ref b160), (.ref b160)])) _
    refine XS.bipush X181.here hx rfl (hb hby at_231) ?_
    show Steps p.tables e below (T181.setTop (mkF m 233 #[.val (.int p1), .val (.int (own_U0 p1)), .val (.int (own_U1 p1)), .val (.int (own_U2 p1)), .val (.int (own_U3 p1)), .val (.int (own_R1 p1)), .val (.int (own_R2 p1)), .val (.int (own_R3 p1)), .val (.int (own_R4 p1)), .val (.ref b112), .val (.ref b113), .val (.ref b116), .val (.ref b122), .val (.ref b131), .val (.ref b143), .unset] [(.int (8 : Int32)), (.ref b160), (.ref b160)])) _
    refine XS.bipush X181.here hx rfl (hb hby at_233) ?_
    show Steps p.tables e below (T181.setTop (mkF m 235 #[.val (.int p1), .val (.int (own_U0 p1)), .val (.int (own_U1 p1)), .val (.int (own_U2 p1)), .val (.int (own_U3 p1)), .val (.int (own_R1 p1)), .val (.int (own_R2 p1)), .val (.int (own_R3 p1)), .val (.int (own_R4 p1)), .val (.ref b112), .val (.ref b113), .val (.ref b116), .val (.ref b122), .val (.ref b131), .val (.ref b143), .unset] [(.int (57 : Int32)), (.int (8 : Int32)), (.ref b160), (.ref b160)])) _
    refine st183 _ ?_
    show Steps p.tables e below (T183.setTop (mkF m 236 #[.val (.int p1), .val (.int (own_U0 p1)), .val (.int (own_U1 p1)), .val (.int (own_U2 p1)), .val (.int (own_U3 p1)), .val (.int (own_R1 p1)), .val (.int (own_R2 p1)), .val (.int (own_R3 p1)), .val (.int (own_R4 p1)), .val (.ref b112), .val (.ref b113), .val (.ref b116), .val (.ref b122), .val (.ref b131), .val (.ref b143), .unset] [(.ref b160)])) _
    refine XS.astore X183.here hx rfl (hb hby at_236) rfl rfl (l' := #[.val (.int p1), .val (.int (own_U0 p1)), .val (.int (own_U1 p1)), .val (.int (own_U2 p1)), .val (.int (own_U3 p1)), .val (.int (own_R1 p1)), .val (.int (own_R2 p1)), .val (.int (own_R3 p1)), .val (.int (own_R4 p1)), .val (.ref b112), .val (.ref b113), .val (.ref b116), .val (.ref b122), .val (.ref b131), .val (.ref b143), .val (.ref b160)]) rfl ?_
    show Steps p.tables e below (T183.setTop (mkF m 238 #[.val (.int p1), .val (.int (own_U0 p1)), .val (.int (own_U1 p1)), .val (.int (own_U2 p1)), .val (.int (own_U3 p1)), .val (.int (own_R1 p1)), .val (.int (own_R2 p1)), .val (.int (own_R3 p1)), .val (.int (own_R4 p1)), .val (.ref b112), .val (.ref b113), .val (.ref b116), .val (.ref b122), .val (.ref b131), .val (.ref b143), .val (.ref b160)] [])) _
    refine XS.aload X183.here hx rfl (hb hby at_238) rfl rfl ?_
    show Steps p.tables e below (T183.setTop (mkF m 240 #[.val (.int p1), .val (.int (own_U0 p1)), .val (.int (own_U1 p1)), .val (.int (own_U2 p1)), .val (.int (own_U3 p1)), .val (.int (own_R1 p1)), .val (.int (own_R2 p1)), .val (.int (own_R3 p1)), .val (.int (own_R4 p1)), .val (.ref b112), .val (.ref b113), .val (.ref b116), .val (.ref b122), .val (.ref b131), .val (.ref b143), .val (.ref b160)] [(.ref b112)])) _
    refine st185 _ ?_
    show Steps p.tables e below (T185.setTop (mkF m 243 #[.val (.int p1), .val (.int (own_U0 p1)), .val (.int (own_U1 p1)), .val (.int (own_U2 p1)), .val (.int (own_U3 p1)), .val (.int (own_R1 p1)), .val (.int (own_R2 p1)), .val (.int (own_R3 p1)), .val (.int (own_R4 p1)), .val (.ref b112), .val (.ref b113), .val (.ref b116), .val (.ref b122), .val (.ref b131), .val (.ref b143), .val (.ref b160)] [(.int (0 : Int32))])) _
    refine XS.ifNo X185.here hx rfl (hb hby at_243) rfl ((if0 _ _).trans (teq (by decide : (0 : Int32) = (0 : Int32))).2) ?_
    show Steps p.tables e below (T185.setTop (mkF m 246 #[.val (.int p1), .val (.int (own_U0 p1)), .val (.int (own_U1 p1)), .val (.int (own_U2 p1)), .val (.int (own_U3 p1)), .val (.int (own_R1 p1)), .val (.int (own_R2 p1)), .val (.int (own_R3 p1)), .val (.int (own_R4 p1)), .val (.ref b112), .val (.ref b113), .val (.ref b116), .val (.ref b122), .val (.ref b131), .val (.ref b143), .val (.ref b160)] [])) _
    refine XS.aload X185.here hx rfl (hb hby at_246) rfl rfl ?_
    show Steps p.tables e below (T185.setTop (mkF m 248 #[.val (.int p1), .val (.int (own_U0 p1)), .val (.int (own_U1 p1)), .val (.int (own_U2 p1)), .val (.int (own_U3 p1)), .val (.int (own_R1 p1)), .val (.int (own_R2 p1)), .val (.int (own_R3 p1)), .val (.int (own_R4 p1)), .val (.ref b112), .val (.ref b113), .val (.ref b116), .val (.ref b122), .val (.ref b131), .val (.ref b143), .val (.ref b160)] [(.ref b113)])) _
    refine st187 _ ?_
    show Steps p.tables e below (T187.setTop (mkF m 251 #[.val (.int p1), .val (.int (own_U0 p1)), .val (.int (own_U1 p1)), .val (.int (own_U2 p1)), .val (.int (own_U3 p1)), .val (.int (own_R1 p1)), .val (.int (own_R2 p1)), .val (.int (own_R3 p1)), .val (.int (own_R4 p1)), .val (.ref b112), .val (.ref b113), .val (.ref b116), .val (.ref b122), .val (.ref b131), .val (.ref b143), .val (.ref b160)] [(.int (own_byte (0 : Int32) (nar .byte (own_B0 p1))))])) _
    refine XS.iload X187.here hx rfl (hb hby at_251) rfl ?_
    show Steps p.tables e below (T187.setTop (mkF m 253 #[.val (.int p1), .val (.int (own_U0 p1)), .val (.int (own_U1 p1)), .val (.int (own_U2 p1)), .val (.int (own_U3 p1)), .val (.int (own_R1 p1)), .val (.int (own_R2 p1)), .val (.int (own_R3 p1)), .val (.int (own_R4 p1)), .val (.ref b112), .val (.ref b113), .val (.ref b116), .val (.ref b122), .val (.ref b131), .val (.ref b143), .val (.ref b160)] [(.int (own_R1 p1)), (.int (own_byte (0 : Int32) (nar .byte (own_B0 p1))))])) _
    refine XS.icmpNo X187.here hx rfl (hb hby at_253) rfl (teq (own_q1 p1)).2 ?_
    show Steps p.tables e below (T187.setTop (mkF m 256 #[.val (.int p1), .val (.int (own_U0 p1)), .val (.int (own_U1 p1)), .val (.int (own_U2 p1)), .val (.int (own_U3 p1)), .val (.int (own_R1 p1)), .val (.int (own_R2 p1)), .val (.int (own_R3 p1)), .val (.int (own_R4 p1)), .val (.ref b112), .val (.ref b113), .val (.ref b116), .val (.ref b122), .val (.ref b131), .val (.ref b143), .val (.ref b160)] [])) _
    refine XS.aload X187.here hx rfl (hb hby at_256) rfl rfl ?_
    show Steps p.tables e below (T187.setTop (mkF m 258 #[.val (.int p1), .val (.int (own_U0 p1)), .val (.int (own_U1 p1)), .val (.int (own_U2 p1)), .val (.int (own_U3 p1)), .val (.int (own_R1 p1)), .val (.int (own_R2 p1)), .val (.int (own_R3 p1)), .val (.int (own_R4 p1)), .val (.ref b112), .val (.ref b113), .val (.ref b116), .val (.ref b122), .val (.ref b131), .val (.ref b143), .val (.ref b160)] [(.ref b116)])) _
    refine st189 _ ?_
    show Steps p.tables e below (T189.setTop (mkF m 261 #[.val (.int p1), .val (.int (own_U0 p1)), .val (.int (own_U1 p1)), .val (.int (own_U2 p1)), .val (.int (own_U3 p1)), .val (.int (own_R1 p1)), .val (.int (own_R2 p1)), .val (.int (own_R3 p1)), .val (.int (own_R4 p1)), .val (.ref b112), .val (.ref b113), .val (.ref b116), .val (.ref b122), .val (.ref b131), .val (.ref b143), .val (.ref b160)] [(.int (own_byte (own_byte (0 : Int32) (nar .byte (own_B0 p1))) (nar .byte (own_B1 p1))))])) _
    refine XS.iload X189.here hx rfl (hb hby at_261) rfl ?_
    show Steps p.tables e below (T189.setTop (mkF m 263 #[.val (.int p1), .val (.int (own_U0 p1)), .val (.int (own_U1 p1)), .val (.int (own_U2 p1)), .val (.int (own_U3 p1)), .val (.int (own_R1 p1)), .val (.int (own_R2 p1)), .val (.int (own_R3 p1)), .val (.int (own_R4 p1)), .val (.ref b112), .val (.ref b113), .val (.ref b116), .val (.ref b122), .val (.ref b131), .val (.ref b143), .val (.ref b160)] [(.int (own_R2 p1)), (.int (own_byte (own_byte (0 : Int32) (nar .byte (own_B0 p1))) (nar .byte (own_B1 p1))))])) _
    refine XS.icmpNo X189.here hx rfl (hb hby at_263) rfl (teq (own_q2 p1)).2 ?_
    show Steps p.tables e below (T189.setTop (mkF m 266 #[.val (.int p1), .val (.int (own_U0 p1)), .val (.int (own_U1 p1)), .val (.int (own_U2 p1)), .val (.int (own_U3 p1)), .val (.int (own_R1 p1)), .val (.int (own_R2 p1)), .val (.int (own_R3 p1)), .val (.int (own_R4 p1)), .val (.ref b112), .val (.ref b113), .val (.ref b116), .val (.ref b122), .val (.ref b131), .val (.ref b143), .val (.ref b160)] [])) _
    refine XS.aload X189.here hx rfl (hb hby at_266) rfl rfl ?_
    show Steps p.tables e below (T189.setTop (mkF m 268 #[.val (.int p1), .val (.int (own_U0 p1)), .val (.int (own_U1 p1)), .val (.int (own_U2 p1)), .val (.int (own_U3 p1)), .val (.int (own_R1 p1)), .val (.int (own_R2 p1)), .val (.int (own_R3 p1)), .val (.int (own_R4 p1)), .val (.ref b112), .val (.ref b113), .val (.ref b116), .val (.ref b122), .val (.ref b131), .val (.ref b143), .val (.ref b160)] [(.ref b122)])) _
    refine st191 _ ?_
    show Steps p.tables e below (T191.setTop (mkF m 271 #[.val (.int p1), .val (.int (own_U0 p1)), .val (.int (own_U1 p1)), .val (.int (own_U2 p1)), .val (.int (own_U3 p1)), .val (.int (own_R1 p1)), .val (.int (own_R2 p1)), .val (.int (own_R3 p1)), .val (.int (own_R4 p1)), .val (.ref b112), .val (.ref b113), .val (.ref b116), .val (.ref b122), .val (.ref b131), .val (.ref b143), .val (.ref b160)] [(.int (own_byte (own_byte (own_byte (0 : Int32) (nar .byte (own_B0 p1))) (nar .byte (own_B1 p1))) (nar .byte (own_B2 p1))))])) _
    refine XS.iload X191.here hx rfl (hb hby at_271) rfl ?_
    show Steps p.tables e below (T191.setTop (mkF m 273 #[.val (.int p1), .val (.int (own_U0 p1)), .val (.int (own_U1 p1)), .val (.int (own_U2 p1)), .val (.int (own_U3 p1)), .val (.int (own_R1 p1)), .val (.int (own_R2 p1)), .val (.int (own_R3 p1)), .val (.int (own_R4 p1)), .val (.ref b112), .val (.ref b113), .val (.ref b116), .val (.ref b122), .val (.ref b131), .val (.ref b143), .val (.ref b160)] [(.int (own_R3 p1)), (.int (own_byte (own_byte (own_byte (0 : Int32) (nar .byte (own_B0 p1))) (nar .byte (own_B1 p1))) (nar .byte (own_B2 p1))))])) _
    refine XS.icmpNo X191.here hx rfl (hb hby at_273) rfl (teq (own_q3 p1)).2 ?_
    show Steps p.tables e below (T191.setTop (mkF m 276 #[.val (.int p1), .val (.int (own_U0 p1)), .val (.int (own_U1 p1)), .val (.int (own_U2 p1)), .val (.int (own_U3 p1)), .val (.int (own_R1 p1)), .val (.int (own_R2 p1)), .val (.int (own_R3 p1)), .val (.int (own_R4 p1)), .val (.ref b112), .val (.ref b113), .val (.ref b116), .val (.ref b122), .val (.ref b131), .val (.ref b143), .val (.ref b160)] [])) _
    refine XS.aload X191.here hx rfl (hb hby at_276) rfl rfl ?_
    show Steps p.tables e below (T191.setTop (mkF m 278 #[.val (.int p1), .val (.int (own_U0 p1)), .val (.int (own_U1 p1)), .val (.int (own_U2 p1)), .val (.int (own_U3 p1)), .val (.int (own_R1 p1)), .val (.int (own_R2 p1)), .val (.int (own_R3 p1)), .val (.int (own_R4 p1)), .val (.ref b112), .val (.ref b113), .val (.ref b116), .val (.ref b122), .val (.ref b131), .val (.ref b143), .val (.ref b160)] [(.ref b131)])) _
    refine st193 _ ?_
    show Steps p.tables e below (T193.setTop (mkF m 281 #[.val (.int p1), .val (.int (own_U0 p1)), .val (.int (own_U1 p1)), .val (.int (own_U2 p1)), .val (.int (own_U3 p1)), .val (.int (own_R1 p1)), .val (.int (own_R2 p1)), .val (.int (own_R3 p1)), .val (.int (own_R4 p1)), .val (.ref b112), .val (.ref b113), .val (.ref b116), .val (.ref b122), .val (.ref b131), .val (.ref b143), .val (.ref b160)] [(.int (own_byte (own_byte (own_byte (own_byte (0 : Int32) (nar .byte (own_B0 p1))) (nar .byte (own_B1 p1))) (nar .byte (own_B2 p1))) (nar .byte (own_B3 p1))))])) _
    refine XS.iload X193.here hx rfl (hb hby at_281) rfl ?_
    show Steps p.tables e below (T193.setTop (mkF m 283 #[.val (.int p1), .val (.int (own_U0 p1)), .val (.int (own_U1 p1)), .val (.int (own_U2 p1)), .val (.int (own_U3 p1)), .val (.int (own_R1 p1)), .val (.int (own_R2 p1)), .val (.int (own_R3 p1)), .val (.int (own_R4 p1)), .val (.ref b112), .val (.ref b113), .val (.ref b116), .val (.ref b122), .val (.ref b131), .val (.ref b143), .val (.ref b160)] [(.int (own_R4 p1)), (.int (own_byte (own_byte (own_byte (own_byte (0 : Int32) (nar .byte (own_B0 p1))) (nar .byte (own_B1 p1))) (nar .byte (own_B2 p1))) (nar .byte (own_B3 p1))))])) _
    refine XS.icmpNo X193.here hx rfl (hb hby at_283) rfl (teq (own_q4 p1)).2 ?_
    show Steps p.tables e below (T193.setTop (mkF m 286 #[.val (.int p1), .val (.int (own_U0 p1)), .val (.int (own_U1 p1)), .val (.int (own_U2 p1)), .val (.int (own_U3 p1)), .val (.int (own_R1 p1)), .val (.int (own_R2 p1)), .val (.int (own_R3 p1)), .val (.int (own_R4 p1)), .val (.ref b112), .val (.ref b113), .val (.ref b116), .val (.ref b122), .val (.ref b131), .val (.ref b143), .val (.ref b160)] [])) _
    refine XS.aload X193.here hx rfl (hb hby at_286) rfl rfl ?_
    show Steps p.tables e below (T193.setTop (mkF m 288 #[.val (.int p1), .val (.int (own_U0 p1)), .val (.int (own_U1 p1)), .val (.int (own_U2 p1)), .val (.int (own_U3 p1)), .val (.int (own_R1 p1)), .val (.int (own_R2 p1)), .val (.int (own_R3 p1)), .val (.int (own_R4 p1)), .val (.ref b112), .val (.ref b113), .val (.ref b116), .val (.ref b122), .val (.ref b131), .val (.ref b143), .val (.ref b160)] [(.ref b143)])) _
    refine st195 _ ?_
    show Steps p.tables e below (T195.setTop (mkF m 291 #[.val (.int p1), .val (.int (own_U0 p1)), .val (.int (own_U1 p1)), .val (.int (own_U2 p1)), .val (.int (own_U3 p1)), .val (.int (own_R1 p1)), .val (.int (own_R2 p1)), .val (.int (own_R3 p1)), .val (.int (own_R4 p1)), .val (.ref b112), .val (.ref b113), .val (.ref b116), .val (.ref b122), .val (.ref b131), .val (.ref b143), .val (.ref b160)] [(.int (own_byte (own_byte (own_byte (own_byte (own_byte (own_byte (0 : Int32) (nar .byte (own_B0 p1))) (nar .byte (own_B1 p1))) (nar .byte (own_B2 p1))) (nar .byte (own_B3 p1))) (nar .byte (own_B4 p1))) (nar .byte (own_B5 p1))))])) _
    refine XS.ifNo X195.here hx rfl (hb hby at_291) rfl ((if0 _ _).trans (teq (own_q6 p1)).2) ?_
    show Steps p.tables e below (T195.setTop (mkF m 294 #[.val (.int p1), .val (.int (own_U0 p1)), .val (.int (own_U1 p1)), .val (.int (own_U2 p1)), .val (.int (own_U3 p1)), .val (.int (own_R1 p1)), .val (.int (own_R2 p1)), .val (.int (own_R3 p1)), .val (.int (own_R4 p1)), .val (.ref b112), .val (.ref b113), .val (.ref b116), .val (.ref b122), .val (.ref b131), .val (.ref b143), .val (.ref b160)] [])) _
    refine XS.aload X195.here hx rfl (hb hby at_294) rfl rfl ?_
    show Steps p.tables e below (T195.setTop (mkF m 296 #[.val (.int p1), .val (.int (own_U0 p1)), .val (.int (own_U1 p1)), .val (.int (own_U2 p1)), .val (.int (own_U3 p1)), .val (.int (own_R1 p1)), .val (.int (own_R2 p1)), .val (.int (own_R3 p1)), .val (.int (own_R4 p1)), .val (.ref b112), .val (.ref b113), .val (.ref b116), .val (.ref b122), .val (.ref b131), .val (.ref b143), .val (.ref b160)] [(.ref b160)])) _
    refine st196 _ ?_
    show Steps p.tables e below (T196.setTop (mkF m 299 #[.val (.int p1), .val (.int (own_U0 p1)), .val (.int (own_U1 p1)), .val (.int (own_U2 p1)), .val (.int (own_U3 p1)), .val (.int (own_R1 p1)), .val (.int (own_R2 p1)), .val (.int (own_R3 p1)), .val (.int (own_R4 p1)), .val (.ref b112), .val (.ref b113), .val (.ref b116), .val (.ref b122), .val (.ref b131), .val (.ref b143), .val (.ref b160)] [(.int (own_byte (own_byte (own_byte (own_byte (own_byte (own_byte (own_byte (own_byte (own_byte (0 : Int32) (49 : Int32)) (50 : Int32)) (51 : Int32)) (52 : Int32)) (53 : Int32)) (54 : Int32)) (55 : Int32)) (56 : Int32)) (57 : Int32)))])) _
    refine X196.ldcInt hx hown (mvT hZ (hw _ (List.mem_of_getElem? (i := 13) rfl))) (g := (mkF m 299 #[.val (.int p1), .val (.int (own_U0 p1)), .val (.int (own_U1 p1)), .val (.int (own_U2 p1)), .val (.int (own_U3 p1)), .val (.int (own_R1 p1)), .val (.int (own_R2 p1)), .val (.int (own_R3 p1)), .val (.int (own_R4 p1)), .val (.ref b112), .val (.ref b113), .val (.ref b116), .val (.ref b122), .val (.ref b131), .val (.ref b143), .val (.ref b160)] [(.int (own_byte (own_byte (own_byte (own_byte (own_byte (own_byte (own_byte (own_byte (own_byte (0 : Int32) (49 : Int32)) (50 : Int32)) (51 : Int32)) (52 : Int32)) (53 : Int32)) (54 : Int32)) (55 : Int32)) (56 : Int32)) (57 : Int32)))])) rfl (hb hby at_299) _ ?_
    show Steps p.tables e below (T196.setTop (mkF m 301 #[.val (.int p1), .val (.int (own_U0 p1)), .val (.int (own_U1 p1)), .val (.int (own_U2 p1)), .val (.int (own_U3 p1)), .val (.int (own_R1 p1)), .val (.int (own_R2 p1)), .val (.int (own_R3 p1)), .val (.int (own_R4 p1)), .val (.ref b112), .val (.ref b113), .val (.ref b116), .val (.ref b122), .val (.ref b131), .val (.ref b143), .val (.ref b160)] [(.int (47933 : Int32)), (.int (own_byte (own_byte (own_byte (own_byte (own_byte (own_byte (own_byte (own_byte (own_byte (0 : Int32) (49 : Int32)) (50 : Int32)) (51 : Int32)) (52 : Int32)) (53 : Int32)) (54 : Int32)) (55 : Int32)) (56 : Int32)) (57 : Int32)))])) _
    refine XS.icmpNo X196.here hx rfl (hb hby at_301) rfl (teq (own_q9 p1)).2 ?_
    show Steps p.tables e below (T196.setTop (mkF m 304 #[.val (.int p1), .val (.int (own_U0 p1)), .val (.int (own_U1 p1)), .val (.int (own_U2 p1)), .val (.int (own_U3 p1)), .val (.int (own_R1 p1)), .val (.int (own_R2 p1)), .val (.int (own_R3 p1)), .val (.int (own_R4 p1)), .val (.ref b112), .val (.ref b113), .val (.ref b116), .val (.ref b122), .val (.ref b131), .val (.ref b143), .val (.ref b160)] [])) _
    refine XS.iconst X196.here hx rfl (hb hby at_304) ?_
    show Steps p.tables e below (T196.setTop (mkF m 305 #[.val (.int p1), .val (.int (own_U0 p1)), .val (.int (own_U1 p1)), .val (.int (own_U2 p1)), .val (.int (own_U3 p1)), .val (.int (own_R1 p1)), .val (.int (own_R2 p1)), .val (.int (own_R3 p1)), .val (.int (own_R4 p1)), .val (.ref b112), .val (.ref b113), .val (.ref b116), .val (.ref b122), .val (.ref b131), .val (.ref b143), .val (.ref b160)] [(.int (1 : Int32))])) _
    refine XS.goto X196.here hx rfl (pc0 := 305) (pc' := 309) rfl (hb hby at_305) (by decide) (by decide) ?_
    show Steps p.tables e below (T196.setTop (mkF m 309 #[.val (.int p1), .val (.int (own_U0 p1)), .val (.int (own_U1 p1)), .val (.int (own_U2 p1)), .val (.int (own_U3 p1)), .val (.int (own_R1 p1)), .val (.int (own_R2 p1)), .val (.int (own_R3 p1)), .val (.int (own_R4 p1)), .val (.ref b112), .val (.ref b113), .val (.ref b116), .val (.ref b122), .val (.ref b131), .val (.ref b143), .val (.ref b160)] [(.int (1 : Int32))])) _
    exact retN X196 hx (t := .boolean) Bd.returns (by simp) (hb hby at_309) hr
  · show LQ n0 _ T196.heap _
    exact ⟨rfl, N196, trivial⟩
set_option maxRecDepth 65536 in
set_option maxHeartbeats 40000000 in
theorem comes_1 {Post : Tables → Env → Array Value → State → Outcome → State → Prop} (hpost : ∀ tb e args s v u, (limb_1_1.after args s (.returned v) u = true ∧ limb_1_2.after args s (.returned v) u = true ∧ True) → FrameEnd s (.returned v) u (Jvm.fieldLocs frame_1_writes args s ++ Jvm.arrayLocs frame_1_arrays args s ++ Jvm.staticLocs frame_1_statics s) 24 128 → Post tb e args s (.returned v) u) :
    ArmFor flags0 classFile x code maxLocals ret World_1 tables_1 room_1 Calls_1 rest_1 Pre_1 Post := by
  intro l hfl _ _ p e ha hc hk s m args below hf hA hF happ hP
  obtain ⟨hcalls, hrest, hpre⟩ := hP
  obtain ⟨-, -, -, hnamed, -, -, -, hat⟩ := (Spec.applies_iff hf).mp happ
  obtain ⟨hg, hn⟩ := and_e (Cond.before_iff.mp (show (Jvm.Cond.and given_1 narrow_1).before args s = true from hpre))
  obtain ⟨gA0, gB0⟩ := and_e hg
  obtain ⟨w0, rfl⟩ : ∃ w0 : Value, args = #[w0] := by
    have hs : args.size = 1 := by simpa [Cond.value, given_1] using gA0
    obtain ⟨L⟩ := args
    match L, hs with
    | [w0], _ => exact ⟨w0, rfl⟩
  have hw := fun d (hd : d ∈ tables_1) => atoms_spec (ws := Jvm.Cond.code x code maxLocals ret :: tables_1) hat d (List.mem_cons_of_mem _ hd)
  have hfit : Fit s := fun {y c} hc i hi => by
    obtain ⟨ha, rfl⟩ := Array.getElem?_eq_some_iff.mp hc
    have q := List.all_eq_true.mp ((Array.all_eq_true_iff_forall_mem.mp hF) _ (Array.getElem_mem ha)) i (List.mem_range.mpr hi)
    simpa [Array.getElem?_eq_getElem hi] using q
  obtain ⟨i0, ei0⟩ := is_v gB0
  obtain rfl : w0 = (.int i0) := Option.some.inj ei0
  have EN : own_St s (fun n => [].getD n 0) (fun n => [].getD n 0) := trivial
  obtain ⟨n, o, h1, h2, h3, _, L, rfl, hQ, hq⟩ := rm0 l s _ hw tables_1 s.heap s.heap.size i0 (fun n => [].getD n 0) (fun n => [].getD n 0) EN (Old.start s) p e ha hc hk s m _ below hf ((Spec.applies_iff_loose hf).mp happ).1 ⟨rfl, State.Warmed39.refl s, rfl⟩ trivial
  obtain ⟨rfl, N, -⟩ := hQ
  refine ⟨n, _, h1, h2, h3, hpost _ _ _ _ _ _ ⟨Cond.after_iff.mpr rfl, Cond.after_iff.mpr (eq_i res_at (Term.int_eval (1)) rfl), trivial⟩ ⟨hq.1, hq.2.1, (hq.2.2.sift fun y hy => Or.inr (N y hy)).mono (by decide) (by decide)⟩⟩
theorem main_1_1 : Claimed_1_1 := comes_1 fun _ _ _ _ _ _ h hF => ⟨h.1, hF⟩
theorem main_1_2 : Claimed_1_2 := comes_1 fun _ _ _ _ _ _ h hF => ⟨h.2.1, hF⟩
end Jvm.Pilot.@@N@@
namespace Jvm.Pilot.@@N@@
open Jvm Jvm.ClassFile Sem Op Lib Jvm.Free Jvm.Stand Jvm.Pilot.@@N@@.Jvm.D
/-! MADE BY PROGRAM (witnessworld.py) out of the Statement's table words and the real class files: 9 classes; the members and pool entries that the words name. The judged class is class 1, her method 3. -/
namespace start1
open Jvm.ClassFile
def u (s : String) : CpInfo := .utf8 (stringToUtf16 s)
/-- a pool by its gaps: so many unusable entries, then the entry; so many at the end -/
def gap : Nat → List CpInfo → List CpInfo
  | 0, r => r
  | n + 1, r => .unusable :: gap n r
def poolList (es : List (Nat × CpInfo)) (last : Nat) : List CpInfo := es.foldr (fun e r => gap e.1 (e.2 :: r)) (gap last [])
def pool (es : List (Nat × CpInfo)) (last : Nat) : Array CpInfo := ⟨poolList es last⟩
def fileOf (pool : Array CpInfo) (this : Nat) (attrs : Array Attribute := #[]) (ms : Array MethodInfo := #[]) (fl : Nat := 33) (sup : Nat := 0) (ifs : Array Nat := #[]) (fds : Array FieldInfo := #[]) : ClassFile where
  minorVersion := 0
  majorVersion := 65
  constantPool := pool
  accessFlags := fl
  thisClass := this
  superClass := sup
  interfaces := ifs
  fields := fds
  methods := ms
  attributes := attrs
def plain (name : String) (sup : Option ClassId) : Class where
  name := name
  kind := .ordinary
  loader := none
  accessFlags := 33
  super := sup
  interfaces := #[]
  cf := none
  fields := #[]
  methods := #[]
  instanceTypes := #[]
  staticTypes := #[]
  resolved := #[]
  callSites := []
  init := .initialized
  statics := none
  mirror := none

def pool0 : Array CpInfo := pool [(5, u "<init>"), (0, u "()V"), (1, .class_ 10), (1, u "java/lang/Object")] 113

def k0m0 : Method := { name := "<init>", desc := "()V", sig := { parameters := [], returnType := none }, accessFlags := 1, code := none }
/-- java/lang/Object -/
def k0 : Class := { plain "java/lang/Object" none with
  accessFlags := 33
  interfaces := #[]
  cf := some (fileOf pool0 8 #[] #[{ accessFlags := 1, nameIndex := 5, descriptorIndex := 6, attributes := #[] }] 33 0 #[] #[])
  fields := #[]
  methods := #[k0m0]
  instanceTypes := #[]
  staticTypes := #[]
  resolved := Array.replicate 124 none
  statics := none }

def pool1 : Array CpInfo := pool [(2, .class_ 4), (1, u "java/lang/Object"), (0, u "<init>"), (0, u "()V"), (0, .integer 49345), (0, .integer 49537), (0, .integer 49921), (0, .integer 50689), (0, .integer 52225), (0, .integer 55297), (0, .integer 61441), (0, .integer 40961), (0, .methodref 16 17), (0, .class_ 18), (0, .nameAndType 19 20), (0, u "com/example/dongl/dongl/crypto/Crc16ArcPinLaw"), (0, u "t"), (0, u "(I)I"), (0, .methodref 16 22), (0, .nameAndType 23 24), (0, u "step"), (0, u "(II)I"), (0, .methodref 26 27), (0, .class_ 28), (0, .nameAndType 29 30), (0, u "com/example/dongl/dongl/crypto/Crc16"), (0, u "arc"), (0, u "([B)I"), (0, .integer 47933), (3, u "law"), (0, u "(I)Z")] 4

def k1m0 : Method := { name := "<init>", desc := "()V", sig := { parameters := [], returnType := none }, accessFlags := 2, code := none }
def k1c1 : Code := { maxStack := 2, maxLocals := 2, code := method_2_code, exceptionTable := #[], attributes := #[] }
def k1m1 : Method := { name := "t", desc := "(I)I", sig := { parameters := [.int], returnType := some .int }, accessFlags := 10, code := some k1c1 }
def k1c2 : Code := { maxStack := 3, maxLocals := 2, code := method_3_code, exceptionTable := #[], attributes := #[] }
def k1m2 : Method := { name := "step", desc := "(II)I", sig := { parameters := [.int, .int], returnType := some .int }, accessFlags := 10, code := some k1c2 }
def k1c3 : Code := { maxStack := 5, maxLocals := 16, code := code, exceptionTable := #[], attributes := #[] }
def k1m3 : Method := { name := "law", desc := "(I)Z", sig := { parameters := [.int], returnType := some .boolean }, accessFlags := 9, code := some k1c3 }
/-- com/example/dongl/dongl/crypto/Crc16ArcPinLaw -/
def k1 : Class := { plain "com/example/dongl/dongl/crypto/Crc16ArcPinLaw" (some 0) with
  accessFlags := 49
  interfaces := #[]
  cf := some (fileOf pool1 16 #[] #[{ accessFlags := 2, nameIndex := 5, descriptorIndex := 6, attributes := #[] }, { accessFlags := 10, nameIndex := 19, descriptorIndex := 20, attributes := #[] }, { accessFlags := 10, nameIndex := 23, descriptorIndex := 24, attributes := #[] }, { accessFlags := 9, nameIndex := 35, descriptorIndex := 36, attributes := #[] }] 49 2 #[] #[])
  fields := #[]
  methods := #[k1m0, k1m1, k1m2, k1m3]
  instanceTypes := #[]
  staticTypes := #[]
  resolved := Array.replicate 41 none
  statics := none }

def pool2 : Array CpInfo := pool [(2, .class_ 4), (1, u "java/lang/Object"), (0, u "<init>"), (0, u "()V"), (2, .class_ 10), (0, u "com/example/dongl/dongl/crypto/Crc16"), (0, .integer 40961), (0, u "REFLECTED_POLYNOMIAL"), (0, u "I"), (3, u "arc"), (0, u "([B)I")] 5

def k2m0 : Method := { name := "<init>", desc := "()V", sig := { parameters := [], returnType := none }, accessFlags := 2, code := none }
def k2c1 : Code := { maxStack := 3, maxLocals := 7, code := prog_22_method_2_code, exceptionTable := #[], attributes := #[] }
def k2m1 : Method := { name := "arc", desc := "([B)I", sig := { parameters := [(.array .byte)], returnType := some .int }, accessFlags := 8, code := some k2c1 }
/-- com/example/dongl/dongl/crypto/Crc16 -/
def k2 : Class := { plain "com/example/dongl/dongl/crypto/Crc16" (some 0) with
  accessFlags := 48
  interfaces := #[]
  cf := some (fileOf pool2 9 #[] #[{ accessFlags := 2, nameIndex := 5, descriptorIndex := 6, attributes := #[] }, { accessFlags := 8, nameIndex := 17, descriptorIndex := 18, attributes := #[] }] 48 2 #[] #[{ accessFlags := 26, nameIndex := 12, descriptorIndex := 13, attributes := #[] }])
  fields := #[{ name := "REFLECTED_POLYNOMIAL", type := .int, accessFlags := 26, slot := 0, constantValue := 0 }]
  methods := #[k2m0, k2m1]
  instanceTypes := #[]
  staticTypes := #[.int]
  resolved := Array.replicate 24 none
  statics := none }

def pool3 : Array CpInfo := pool [(1, u "java/lang/Cloneable"), (0, .class_ 1), (0, u "java/lang/Object"), (0, .class_ 3)] 3

/-- java/lang/Cloneable -/
def k3 : Class := { plain "java/lang/Cloneable" (some 0) with
  accessFlags := 1537
  interfaces := #[]
  cf := some (fileOf pool3 2 #[] #[] 1537 4 #[] #[])
  fields := #[]
  methods := #[]
  instanceTypes := #[]
  staticTypes := #[]
  resolved := Array.replicate 8 none
  statics := none }

def pool4 : Array CpInfo := pool [(1, u "java/io/Serializable"), (0, .class_ 1), (0, u "java/lang/Object"), (0, .class_ 3)] 3

/-- java/io/Serializable -/
def k4 : Class := { plain "java/io/Serializable" (some 0) with
  accessFlags := 1537
  interfaces := #[]
  cf := some (fileOf pool4 2 #[] #[] 1537 4 #[] #[])
  fields := #[]
  methods := #[]
  instanceTypes := #[]
  staticTypes := #[]
  resolved := Array.replicate 8 none
  statics := none }

/-- the primitive byte -/
def k5 : Class := { plain "byte" none with kind := .primitive 'B', accessFlags := 0x411 }
/-- [B -/
def k6 : Class := { plain "[B" (some 0) with kind := .array 5 .byte, interfaces := #[3, 4], accessFlags := 1041 }

/-- the primitive int -/
def k7 : Class := { plain "int" none with kind := .primitive 'I', accessFlags := 0x411 }
/-- [I -/
def k8 : Class := { plain "[I" (some 0) with kind := .array 7 .int, interfaces := #[3, 4], accessFlags := 1041 }

def heap : Heap := #[]
def classes : Array Class := #[k0, k1, k2, k3, k4, k5, k6, k7, k8]
def interned : List (Array UInt16 × Addr) := []
def slotsUsed : Nat := 0
def theMethod : MethodId := ⟨1, 3⟩
def args0 : Array Value := #[.int 5]
def aboutOver (below : List Frame) : State where
  vm := { classes := classes, interned := interned.toArray }
  heap := heap
  slotsUsed := slotsUsed
  threads := #[{ frames := .invoking theMethod args0 :: below }]
def below0 : List Frame := [.native { method := ⟨0, 0⟩, args := #[] }]
def about1 : State := aboutOver below0
def p0 : Program := .bare "" "" ""
def e0 : Env := launch0.env 0 0 0
theorem w_frames : about1.frames = Frame.invoking theMethod args0 :: below0 := rfl
set_option maxRecDepth 65536 in
theorem w_args : argsFit about1.vm theMethod args0 = true := by decide +kernel
set_option maxRecDepth 65536 in
theorem w_heap : heapFits about1 = true := by decide +kernel
set_option maxRecDepth 65536 in
theorem w_runnable : about1.curStatus? = some .runnable := by decide +kernel
set_option maxRecDepth 65536 in
theorem w_alone : about1.alone = true := by decide +kernel
set_option maxRecDepth 65536 in
theorem w_named : about1.methodNamed? x = some theMethod := by decide +kernel
set_option maxRecDepth 65536 in
theorem w_hears : about1.hears theMethod below0 = true := by decide +kernel
set_option maxRecDepth 65536 in
theorem w_ripe : about1.ripe theMethod args0 below0 = true := by decide +kernel
theorem w_running : about1.status = .running := rfl
set_option maxRecDepth 65536 in
theorem w_room : about1.hasRoom e0.platform room_1 = true :=
  launch0.hasRoom_least _ room_1 (by decide +kernel) (by decide +kernel) (by decide +kernel) (by decide +kernel) (by decide +kernel) (by decide +kernel)
theorem allAtoms_all (ts : List Jvm.Cond) (a : Array Jvm.Value) (st : Jvm.State) : (allAtoms ts).before a st = ts.all (fun c => c.before a st) := by
  induction ts with
  | nil => rfl
  | cons c t ih =>
    show (Jvm.Cond.and c (allAtoms t)).before a st = _
    rw [Jvm.Cond.before_and, ih, List.all_cons]
def words1 : List Jvm.Cond := Jvm.Cond.code x code maxLocals ret :: tables_1
/-- a 'code' word, met by the world's own term for the bytes: nothing is compared byte by byte -/
theorem code_word {y : MethodName} {bytes : ByteArray} {mx : Nat} {rt : Option FieldType} {a : Array Value} {s : State} {m : MethodId} {meth : Method} {c : Code} (h1 : s.methodNamed? y = some m) (h2 : s.vm.method? m = some meth) (h3 : meth.code = some c) (h4 : c.code = bytes)
    (h5 : (c.maxLocals == mx && c.exceptionTable.isEmpty && decide (c.maxStack ≤ mostOperands) && decide (meth.sig.returnType = rt) && !meth.locks && decide (parseMethodDescriptor y.desc = some meth.sig)) = true) : (Jvm.Cond.code y bytes mx rt).before a s = true := by
  simp only [Bool.and_eq_true, beq_iff_eq, Bool.not_eq_true', decide_eq_true_eq] at h5
  obtain ⟨⟨⟨⟨⟨g1, g2⟩, g3⟩, g4⟩, g5⟩, g6⟩ := h5
  simp [Cond.before, Cond.holds, Cond.value, h1, h2, h3, h4, g1, g2, g3, g4, g5, g6]
def isCode : Jvm.Cond → Bool
  | .code _ _ _ _ => true
  | _ => false
theorem all_split {L : List Jvm.Cond} {P : Jvm.Cond → Bool} (h1 : L.all (fun c => isCode c || P c) = true) (h2 : ∀ c ∈ L.filter isCode, P c = true) : L.all P = true := by
  refine List.all_eq_true.mpr fun c hc => ?_
  have h := List.all_eq_true.mp h1 c hc
  rcases Bool.eq_false_or_eq_true (isCode c) with hi | hi
  · exact h2 c (List.mem_filter.mpr ⟨hc, hi⟩)
  · simpa [hi] using h
set_option maxRecDepth 65536 in
theorem w_c0 : (Jvm.Cond.code x code maxLocals ret).before args0 about1 = true := code_word (m := ⟨1, 3⟩) (meth := k1m3) (c := k1c3) (by decide +kernel) rfl rfl rfl (by decide +kernel)
set_option maxRecDepth 65536 in
theorem w_c1 : (Jvm.Cond.code ({ cls := "com/example/dongl/dongl/crypto/Crc16ArcPinLaw", name := "step", desc := "(II)I" } : Jvm.MethodName) method_3_code (2 : Nat) (Option.some Jvm.ClassFile.FieldType.int)).before args0 about1 = true := code_word (m := ⟨1, 2⟩) (meth := k1m2) (c := k1c2) (by decide +kernel) rfl rfl rfl (by decide +kernel)
set_option maxRecDepth 65536 in
theorem w_c2 : (Jvm.Cond.code ({ cls := "com/example/dongl/dongl/crypto/Crc16ArcPinLaw", name := "t", desc := "(I)I" } : Jvm.MethodName) method_2_code (2 : Nat) (Option.some Jvm.ClassFile.FieldType.int)).before args0 about1 = true := code_word (m := ⟨1, 1⟩) (meth := k1m1) (c := k1c1) (by decide +kernel) rfl rfl rfl (by decide +kernel)
set_option maxRecDepth 65536 in
theorem w_c3 : (Jvm.Cond.code ({ cls := "com/example/dongl/dongl/crypto/Crc16", name := "arc", desc := "([B)I" } : Jvm.MethodName) prog_22_method_2_code (7 : Nat) (Option.some Jvm.ClassFile.FieldType.int)).before args0 about1 = true := code_word (m := ⟨2, 1⟩) (meth := k2m1) (c := k2c1) (by decide +kernel) rfl rfl rfl (by decide +kernel)
def codes1 : List Jvm.Cond := [Jvm.Cond.code x code maxLocals ret, Jvm.Cond.code ({ cls := "com/example/dongl/dongl/crypto/Crc16ArcPinLaw", name := "step", desc := "(II)I" } : Jvm.MethodName) method_3_code (2 : Nat) (Option.some Jvm.ClassFile.FieldType.int), Jvm.Cond.code ({ cls := "com/example/dongl/dongl/crypto/Crc16ArcPinLaw", name := "t", desc := "(I)I" } : Jvm.MethodName) method_2_code (2 : Nat) (Option.some Jvm.ClassFile.FieldType.int), Jvm.Cond.code ({ cls := "com/example/dongl/dongl/crypto/Crc16", name := "arc", desc := "([B)I" } : Jvm.MethodName) prog_22_method_2_code (7 : Nat) (Option.some Jvm.ClassFile.FieldType.int)]
set_option maxRecDepth 65536 in
theorem codes_eq : words1.filter isCode = codes1 := rfl
theorem w_codes : ∀ c ∈ words1.filter isCode, c.before args0 about1 = true := by
  rw [codes_eq]
  intro c hc
  simp only [codes1, List.mem_cons, List.not_mem_nil, or_false] at hc
  rcases hc with rfl | rfl | rfl | rfl
  · exact w_c0
  · exact w_c1
  · exact w_c2
  · exact w_c3
set_option maxRecDepth 65536 in
theorem w_t1 : words1.all (fun c => isCode c || c.before args0 about1) = true := by decide +kernel
theorem w_tables : (allAtoms (Jvm.Cond.code x code maxLocals ret :: tables_1)).before args0 about1 = true := by
  rw [allAtoms_all]
  show words1.all (fun c => c.before args0 about1) = true
  refine all_split ?_ w_codes
  rw [w_t1]
set_option maxRecDepth 65536 in
theorem w_case : (Jvm.Cond.and given_1 narrow_1).before args0 about1 = true := by decide +kernel
theorem w_applies : (headSpec (Jvm.Cond.code x code maxLocals ret :: tables_1) room_1).applies x e0.platform about1 = true :=
  (Spec.applies_iff w_frames).mpr ⟨w_running, w_runnable, w_alone, w_named, w_hears, w_ripe, w_room, w_tables⟩
theorem atStart : AtStart classFile x code maxLocals ret World_1 tables_1 room_1 Calls_1 rest_1 Pre_1 launch0 p0 e0 about1 theMethod args0 below0 :=
  ⟨lists_1, trivial, launch0.admits_env _ _ _, launch0.least_env, fairChoices_fair.cas, fairChoices_fair.clock, w_frames, w_args, w_heap, w_applies, trivial, trivial, w_case⟩
end start1
theorem witness_1 : WitnessClaimed_1 := ⟨start1.p0, start1.e0, start1.about1, start1.theMethod, start1.args0, start1.below0, start1.atStart⟩
end Jvm.Pilot.@@N@@
