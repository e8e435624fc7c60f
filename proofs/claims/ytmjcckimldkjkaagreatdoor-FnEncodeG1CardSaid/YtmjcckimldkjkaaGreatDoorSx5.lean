/- Part 5 of the proof: for every message and domain the law FnEncodeG1 returns true (a verified symbolic evaluator, contracts of each function reached, the law, its row and card). Conditions: those of the given statement, none besides. -/
import Derived.Laws.StructEq
import Derived.Laws.Tables
import Derived.Laws.Cover2
import Derived.Test.YtmjcckimldkjkaaGreatDoorSx4
namespace Go.Sx
open Go Go.Proofs Go.Num
set_option maxRecDepth 100000
theorem vc_apx (a0 a1 a2 a3 n : Int) (K : SV → Mem → Prop) : (execF cx0 u0 Tryz.f87 64 [.ptr 1 (.lit 0), .int .i64 (.sym n)] (memL [(1, ⟨true, w4 a0 a1 a2 a3⟩)]) K) =
 (((((decide (n ≤ (64 : Int))) = Bool.true) → (K (Go.Sx.SV.int Go.IntKind.u64 (Go.Sx.A.sym a0)) (Go.Sx.memL [((1 : Nat), (Go.Sx.Reg.mk Bool.true (Go.Sx.Ct.cells [(Go.Sx.SV.int Go.IntKind.u64 (Go.Sx.A.sym a0)), (Go.Sx.SV.int Go.IntKind.u64 (Go.Sx.A.sym a1)), (Go.Sx.SV.int Go.IntKind.u64 (Go.Sx.A.sym a2)), (Go.Sx.SV.int Go.IntKind.u64 (Go.Sx.A.sym a3))])))]))) ∧
 (((decide (n ≤ (64 : Int))) = Bool.false) → (∀ (x0 : Int), ((x0 = (Go.Sx.band Go.IntKind.u64 (2147483647 : Int) a0)) → (∀ (x1 : Int), ((x1 = (Go.IntKind.wrap Go.IntKind.i64 (n - (1 : Int)))) → (∀ (x2 : Int), ((x2 = (Go.IntKind.wrap Go.IntKind.i64 (Int.tdiv x1 (64 : Int)))) → (∀ (x3 : Int), ((x3 = (Go.IntKind.wrap Go.IntKind.i64 (x2 * (64 : Int)))) → (∀ (x4 : Int), ((x4 = (Go.IntKind.wrap Go.IntKind.i64 (n - x3))) → (∀ (x5 : Int), ((x5 = (if ((33 : Int) < x4) then (33 : Int) else x4)) → (∀ (x6 : Int), ((x6 = (Go.IntKind.wrap Go.IntKind.i64 (x4 - x5))) → (((0 : Int) ≤ x6) ∧
 (∀ (x7 : Int), ((x7 = (Go.Sx.shlv Go.IntKind.u64 (1 : Int) (Int.toNat x6))) → (∀ (x8 : Int), ((x8 = (Go.IntKind.wrap Go.IntKind.u64 (x7 - (1 : Int)))) → (∀ (x9 : Int), ((x9 = (Go.Sx.bxor Go.IntKind.u64 (18446744073709551615 : Int) x8)) → ((((0 : Int) ≤ x2) ∧
 (x2 < (4 : Int))) ∧
 (((((Int.toNat x2) * (1 : Nat)) + (1 : Nat)) ≤ (List.length [a0, a1, a2, a3])) ∧
 (∀ (x10 : Int), ((x10 = (List.getD [a0, a1, a2, a3] ((Int.toNat x2) * (1 : Nat)) (0 : Int))) → (∀ (x11 : Int), ((x11 = (Go.Sx.band Go.IntKind.u64 x10 x9)) → (∀ (x12 : Int), ((x12 = (Go.IntKind.wrap Go.IntKind.i64 ((64 : Int) - x4))) → (((0 : Int) ≤ x12) ∧
 (∀ (x13 : Int), ((x13 = (Go.Sx.shlv Go.IntKind.u64 x11 (Int.toNat x12))) → (∀ (x14 : Int), ((x14 = (Go.IntKind.wrap Go.IntKind.i64 ((31 : Int) + x5))) → (((0 : Int) ≤ x14) ∧
 (∀ (x15 : Int), ((x15 = (Go.Sx.shlv Go.IntKind.u64 (1 : Int) (Int.toNat x14))) → (∀ (x16 : Int), ((x16 = (Go.IntKind.wrap Go.IntKind.u64 (x15 - (1 : Int)))) → (∀ (x17 : Int), ((x17 = (Go.Sx.bxor Go.IntKind.u64 (18446744073709551615 : Int) x16)) → (∀ (x18 : Int), ((x18 = (Go.IntKind.wrap Go.IntKind.i64 (x2 - (1 : Int)))) → ((((0 : Int) ≤ x18) ∧
 (x18 < (4 : Int))) ∧
 (((((Int.toNat x18) * (1 : Nat)) + (1 : Nat)) ≤ (List.length [a0, a1, a2, a3])) ∧
 (∀ (x19 : Int), ((x19 = (List.getD [a0, a1, a2, a3] ((Int.toNat x18) * (1 : Nat)) (0 : Int))) → (∀ (x20 : Int), ((x20 = (Go.Sx.band Go.IntKind.u64 x17 x19)) → (((0 : Int) ≤ x5) ∧
 (∀ (x21 : Int), ((x21 = (Go.Sx.shrv Go.IntKind.u64 x20 (Int.toNat x5))) → (∀ (x22 : Int), ((x22 = (Go.Sx.bor Go.IntKind.u64 x0 x21)) → (∀ (x23 : Int), ((x23 = (Go.Sx.bor Go.IntKind.u64 x22 x13)) → (K (Go.Sx.SV.int Go.IntKind.u64 (Go.Sx.A.sym x23)) (Go.Sx.memL [((1 : Nat), (Go.Sx.Reg.mk Bool.true (Go.Sx.Ct.cells [(Go.Sx.SV.int Go.IntKind.u64 (Go.Sx.A.sym a0)), (Go.Sx.SV.int Go.IntKind.u64 (Go.Sx.A.sym a1)), (Go.Sx.SV.int Go.IntKind.u64 (Go.Sx.A.sym a2)), (Go.Sx.SV.int Go.IntKind.u64 (Go.Sx.A.sym a3))])))]))))))))))))))))))))))))))))))))))))))))))))))))))))))))))))) := by kernel_rfl
theorem vc_apl (a0 a1 a2 a3 n : Int) (K : SV → Mem → Prop) : (execF cx0 u0 Tryz.f94 64 [.ptr 1 (.lit 0), .int .i64 (.sym n)] (memL [(1, ⟨true, w4 a0 a1 a2 a3⟩)]) K) =
 (((((decide (n ≤ (64 : Int))) = Bool.true) → (K (Go.Sx.SV.int Go.IntKind.u64 (Go.Sx.A.sym a0)) (Go.Sx.memL [((1 : Nat), (Go.Sx.Reg.mk Bool.true (Go.Sx.Ct.cells [(Go.Sx.SV.int Go.IntKind.u64 (Go.Sx.A.sym a0)), (Go.Sx.SV.int Go.IntKind.u64 (Go.Sx.A.sym a1)), (Go.Sx.SV.int Go.IntKind.u64 (Go.Sx.A.sym a2)), (Go.Sx.SV.int Go.IntKind.u64 (Go.Sx.A.sym a3))])))]))) ∧
 (((decide (n ≤ (64 : Int))) = Bool.false) → (∀ (x0 : Int), ((x0 = (Go.Sx.band Go.IntKind.u64 (4294967295 : Int) a0)) → (∀ (x1 : Int), ((x1 = (Go.IntKind.wrap Go.IntKind.i64 (n - (1 : Int)))) → (∀ (x2 : Int), ((x2 = (Go.IntKind.wrap Go.IntKind.i64 (Int.tdiv x1 (64 : Int)))) → (∀ (x3 : Int), ((x3 = (Go.IntKind.wrap Go.IntKind.i64 (x2 * (64 : Int)))) → (∀ (x4 : Int), ((x4 = (Go.IntKind.wrap Go.IntKind.i64 (n - x3))) → (∀ (x5 : Int), ((x5 = (if ((32 : Int) < x4) then (32 : Int) else x4)) → (∀ (x6 : Int), ((x6 = (Go.IntKind.wrap Go.IntKind.i64 (x4 - x5))) → (((0 : Int) ≤ x6) ∧
 (∀ (x7 : Int), ((x7 = (Go.Sx.shlv Go.IntKind.u64 (1 : Int) (Int.toNat x6))) → (∀ (x8 : Int), ((x8 = (Go.IntKind.wrap Go.IntKind.u64 (x7 - (1 : Int)))) → (∀ (x9 : Int), ((x9 = (Go.Sx.bxor Go.IntKind.u64 (18446744073709551615 : Int) x8)) → ((((0 : Int) ≤ x2) ∧
 (x2 < (4 : Int))) ∧
 (((((Int.toNat x2) * (1 : Nat)) + (1 : Nat)) ≤ (List.length [a0, a1, a2, a3])) ∧
 (∀ (x10 : Int), ((x10 = (List.getD [a0, a1, a2, a3] ((Int.toNat x2) * (1 : Nat)) (0 : Int))) → (∀ (x11 : Int), ((x11 = (Go.Sx.band Go.IntKind.u64 x10 x9)) → (∀ (x12 : Int), ((x12 = (Go.IntKind.wrap Go.IntKind.i64 ((64 : Int) - x4))) → (((0 : Int) ≤ x12) ∧
 (∀ (x13 : Int), ((x13 = (Go.Sx.shlv Go.IntKind.u64 x11 (Int.toNat x12))) → (∀ (x14 : Int), ((x14 = (Go.IntKind.wrap Go.IntKind.i64 ((32 : Int) + x5))) → (((0 : Int) ≤ x14) ∧
 (∀ (x15 : Int), ((x15 = (Go.Sx.shlv Go.IntKind.u64 (1 : Int) (Int.toNat x14))) → (∀ (x16 : Int), ((x16 = (Go.IntKind.wrap Go.IntKind.u64 (x15 - (1 : Int)))) → (∀ (x17 : Int), ((x17 = (Go.Sx.bxor Go.IntKind.u64 (18446744073709551615 : Int) x16)) → (∀ (x18 : Int), ((x18 = (Go.IntKind.wrap Go.IntKind.i64 (x2 - (1 : Int)))) → ((((0 : Int) ≤ x18) ∧
 (x18 < (4 : Int))) ∧
 (((((Int.toNat x18) * (1 : Nat)) + (1 : Nat)) ≤ (List.length [a0, a1, a2, a3])) ∧
 (∀ (x19 : Int), ((x19 = (List.getD [a0, a1, a2, a3] ((Int.toNat x18) * (1 : Nat)) (0 : Int))) → (∀ (x20 : Int), ((x20 = (Go.Sx.band Go.IntKind.u64 x17 x19)) → (((0 : Int) ≤ x5) ∧
 (∀ (x21 : Int), ((x21 = (Go.Sx.shrv Go.IntKind.u64 x20 (Int.toNat x5))) → (∀ (x22 : Int), ((x22 = (Go.Sx.bor Go.IntKind.u64 x0 x21)) → (∀ (x23 : Int), ((x23 = (Go.Sx.bor Go.IntKind.u64 x22 x13)) → (K (Go.Sx.SV.int Go.IntKind.u64 (Go.Sx.A.sym x23)) (Go.Sx.memL [((1 : Nat), (Go.Sx.Reg.mk Bool.true (Go.Sx.Ct.cells [(Go.Sx.SV.int Go.IntKind.u64 (Go.Sx.A.sym a0)), (Go.Sx.SV.int Go.IntKind.u64 (Go.Sx.A.sym a1)), (Go.Sx.SV.int Go.IntKind.u64 (Go.Sx.A.sym a2)), (Go.Sx.SV.int Go.IntKind.u64 (Go.Sx.A.sym a3))])))]))))))))))))))))))))))))))))))))))))))))))))))))))))))))))))) := by kernel_rfl
theorem wd_nat {x : Nat} (h : x < 2 ^ 64) : Wd (x : Int) := by unfold Wd; omega
theorem shl_nat {x k : Nat} (hk : k ≤ 64) : shlv .u64 (x : Int) k = ((x * 2 ^ k % 2 ^ 64 : Nat) : Int) := by
 unfold shlv
 rw [wu64, show min k IntKind.u64.bits = k by simp [IntKind.bits]; omega, Int.natCast_emod, Int.natCast_mul, Int.natCast_pow]
 rfl
theorem mask_eq {k : Nat} (hk : k ≤ 64) {x7 x8 x9 : Int} (h7 : x7 = shlv .u64 1 k) (h8 : x8 = IntKind.u64.wrap (x7 - 1)) (h9 : x9 = bxor .u64 18446744073709551615 x8) : x9 = (((2 ^ 64 - 1) ^^^ (2 ^ k - 1) : Nat) : Int) ∧ Wd x9 := by
 have hp : 0 < 2 ^ k := Nat.pow_pos (by omega)
 have hle : 2 ^ k ≤ 2 ^ 64 := Nat.pow_le_pow_right (by omega) hk
 have e7 := shl_nat (x := 1) hk
 rw [Nat.one_mul] at e7
 have e8 : x8 = ((2 ^ k - 1 : Nat) : Int) := by
  rw [h8, h7, show (1 : Int) = ((1 : Nat) : Int) from rfl, e7, wu64]
  by_cases hk6 : 2 ^ k = 2 ^ 64
  ·rw [hk6]
   decide
  ·rw [Nat.mod_eq_of_lt (by omega)]
   omega
 obtain ⟨e, w⟩ := bxor_eq wd_max (show Wd x8 by rw [e8]; exact wd_nat (by omega))
 rw [← h9] at e w
 refine ⟨?_, w⟩
 rw [e, e8, Int.toNat_natCast]
 rfl
theorem lm_nat (X i : Nat) : lm X i = ((X / 2 ^ (64 * i) % 2 ^ 64 : Nat) : Int) := by
 unfold lm
 rw [Nat.pow_mul]
theorem lm_getD (X : Nat) : ∀ k, k < 4 → [lm X 0, lm X 1, lm X 2, lm X 3].getD k 0 = lm X k
 | 0, _ => rfl
 | 1, _ => rfl
 | 2, _ => rfl
 | 3, _ => rfl
 | k + 4, h => absurd h (by omega)
theorem apx_walk {X n lo : Nat} (hlo : lo ≤ 32) (hlo0 : 31 ≤ lo) {L : Int} (hL : L = 2 ^ lo - 1) (hn : 64 < n) (hn2 : n ≤ 256) (hV : X < 2 ^ n) {K : Int → Prop} (hK : K ((apx lo n X : Nat) : Int)) :
  ∀ x0, x0 = band .u64 L (lm X 0) → ∀ x1, x1 = IntKind.i64.wrap ((n : Int) - 1) → ∀ x2, x2 = IntKind.i64.wrap (Int.tdiv x1 64) → ∀ x3, x3 = IntKind.i64.wrap (x2 * 64) → ∀ x4, x4 = IntKind.i64.wrap ((n : Int) - x3) → ∀ x5, x5 = (if ((64 - lo : Nat) : Int) < x4 then ((64 - lo : Nat) : Int) else x4) → ∀ x6, x6 = IntKind.i64.wrap (x4 - x5) → 0 ≤ x6 ∧
  ∀ x7, x7 = shlv .u64 1 x6.toNat → ∀ x8, x8 = IntKind.u64.wrap (x7 - 1) → ∀ x9, x9 = bxor .u64 18446744073709551615 x8 → (0 ≤ x2 ∧ x2 < 4) ∧ x2.toNat * 1 + 1 ≤ [lm X 0, lm X 1, lm X 2, lm X 3].length ∧
  ∀ x10, x10 = [lm X 0, lm X 1, lm X 2, lm X 3].getD (x2.toNat * 1) 0 → ∀ x11, x11 = band .u64 x10 x9 → ∀ x12, x12 = IntKind.i64.wrap (64 - x4) → 0 ≤ x12 ∧
  ∀ x13, x13 = shlv .u64 x11 x12.toNat → ∀ x14, x14 = IntKind.i64.wrap ((lo : Int) + x5) → 0 ≤ x14 ∧
  ∀ x15, x15 = shlv .u64 1 x14.toNat → ∀ x16, x16 = IntKind.u64.wrap (x15 - 1) → ∀ x17, x17 = bxor .u64 18446744073709551615 x16 → ∀ x18, x18 = IntKind.i64.wrap (x2 - 1) → (0 ≤ x18 ∧ x18 < 4) ∧ x18.toNat * 1 + 1 ≤ [lm X 0, lm X 1, lm X 2, lm X 3].length ∧
  ∀ x19, x19 = [lm X 0, lm X 1, lm X 2, lm X 3].getD (x18.toNat * 1) 0 → ∀ x20, x20 = band .u64 x17 x19 → 0 ≤ x5 ∧ ∀ x21, x21 = shrv .u64 x20 x5.toNat → ∀ x22, x22 = bor .u64 x0 x21 → ∀ x23, x23 = bor .u64 x22 x13 → K x23 := by
 have key := apx_nat (V := X) (n := n) (lo := lo) (q := (n - 1) / 64) (A := n - 64 * ((n - 1) / 64)) (U := min (n - 64 * ((n - 1) / 64)) (64 - lo)) hlo hlo0 hn hV rfl rfl rfl rfl rfl
 intro x0 h0 x1 h1 x2 h2 x3 h3 x4 h4 x5 h5 x6 h6
 rw [wrap64 (by omega) (by omega)] at h1
 rw [Int.tdiv_eq_ediv_of_nonneg (by omega), wrap64 (by omega) (by omega)] at h2
 rw [wrap64 (by omega) (by omega)] at h3
 rw [wrap64 (by omega) (by omega)] at h4
 generalize hq : (n - 1) / 64 = q at key
 generalize hA : n - 64 * q = A at key
 generalize hU : min A (64 - lo) = U at key
 have e2 : x2 = q := by omega
 have e4 : x4 = A := by omega
 have e5 : x5 = U := by rw [h5]; split <;> omega
 rw [wrap64 (by omega) (by omega)] at h6
 have e6 : x6.toNat = A - U := by omega
 refine ⟨by omega, ?_⟩
 intro x7 h7 x8 h8 x9 h9
 rw [e6] at h7
 obtain ⟨m9, w9⟩ := mask_eq (by omega) h7 h8 h9
 refine ⟨⟨by omega, by omega⟩, by simp only [List.length_cons, List.length_nil]; omega, ?_⟩
 intro x10 h10 x11 h11 x12 h12
 rw [show x2.toNat * 1 = q by omega, lm_getD X q (by omega), lm_nat] at h10
 rw [wrap64 (by omega) (by omega)] at h12
 have hw64 : X / 2 ^ (64 * q) % 2 ^ 64 < 2 ^ 64 := Nat.mod_lt _ (Nat.pow_pos (by omega))
 have e11 : x11 = ((X / 2 ^ (64 * q) % 2 ^ 64 / 2 ^ (A - U) * 2 ^ (A - U) : Nat) : Int) := by
  obtain ⟨e, _⟩ := band_eq (show Wd x10 by rw [h10]; exact wd_nat hw64) w9
  rw [h11, e, h10, m9, Int.toNat_natCast, Int.toNat_natCast, and_high hw64 (by omega)]
 refine ⟨by omega, ?_⟩
 intro x13 h13 x14 h14
 rw [e11, show x12.toNat = 64 - A by omega, shl_nat (by omega)] at h13
 rw [wrap64 (by omega) (by omega)] at h14
 refine ⟨by omega, ?_⟩
 intro x15 h15 x16 h16 x17 h17 x18 h18
 rw [show x14.toNat = lo + U by omega] at h15
 obtain ⟨m17, w17⟩ := mask_eq (by omega) h15 h16 h17
 rw [wrap64 (by omega) (by omega)] at h18
 refine ⟨⟨by omega, by omega⟩, by simp only [List.length_cons, List.length_nil]; omega, ?_⟩
 intro x19 h19 x20 h20
 rw [show x18.toNat * 1 = q - 1 by omega, lm_getD X (q - 1) (by omega), lm_nat] at h19
 have hv64 : X / 2 ^ (64 * (q - 1)) % 2 ^ 64 < 2 ^ 64 := Nat.mod_lt _ (Nat.pow_pos (by omega))
 have e20 : x20 = ((X / 2 ^ (64 * (q - 1)) % 2 ^ 64 / 2 ^ (lo + U) * 2 ^ (lo + U) : Nat) : Int) := by
  obtain ⟨e, _⟩ := band_eq w17 (show Wd x19 by rw [h19]; exact wd_nat hv64)
  rw [h20, e, h19, m17, Int.toNat_natCast, Int.toNat_natCast, Nat.and_comm, and_high hv64 (by omega)]
 refine ⟨by omega, ?_⟩
 intro x21 h21 x22 h22 x23 h23
 have hle20 : X / 2 ^ (64 * (q - 1)) % 2 ^ 64 / 2 ^ (lo + U) * 2 ^ (lo + U) < 2 ^ 64 := Nat.lt_of_le_of_lt (Nat.div_mul_le_self _ _) hv64
 have e21 : x21 = ((X / 2 ^ (64 * (q - 1)) % 2 ^ 64 / 2 ^ (lo + U) * 2 ^ (lo + U) / 2 ^ U : Nat) : Int) := by
  rw [h21, e20, show x5.toNat = U by omega, shr64 (Int.natCast_nonneg _) (by omega), Int.natCast_ediv, Int.natCast_pow]
  rfl
 have e0 : x0 = ((X % 2 ^ lo : Nat) : Int) := by
  have hm : Wd (lm X 0) := lm_wd X 0
  have : band .u64 L (lm X 0) = band .u64 (lm X 0) L := by
   unfold band
   rw [BitVec.and_comm]
  rw [h0, this, hL, band_mask hm (by omega), lm_nat, Nat.mul_zero, Nat.pow_zero, Nat.div_one, show ((2 : Int) ^ lo) = ((2 ^ lo : Nat) : Int) by rw [Int.natCast_pow]; rfl, ← Int.natCast_emod]
  congr 1
  exact Nat.mod_mod_of_dvd X (Nat.pow_dvd_pow 2 (by omega))
 have hlt0 : X % 2 ^ lo < 2 ^ 64 := Nat.lt_of_lt_of_le (Nat.mod_lt _ (Nat.pow_pos (by omega))) (Nat.pow_le_pow_right (by omega) (by omega))
 have hlt21 : X / 2 ^ (64 * (q - 1)) % 2 ^ 64 / 2 ^ (lo + U) * 2 ^ (lo + U) / 2 ^ U < 2 ^ 64 := Nat.lt_of_le_of_lt (Nat.div_le_self _ _) hle20
 obtain ⟨e22, w22⟩ := bor_eq (show Wd x0 by rw [e0]; exact wd_nat hlt0) (show Wd x21 by rw [e21]; exact wd_nat hlt21)
 rw [← h22] at e22 w22
 obtain ⟨e23, _⟩ := bor_eq w22 (show Wd x13 by rw [h13]; exact wd_nat (Nat.mod_lt _ (Nat.pow_pos (by omega))))
 rw [← h23] at e23
 rw [e23, e22, e0, e21, h13, Int.toNat_natCast, Int.toNat_natCast, Int.toNat_natCast, Int.toNat_natCast, key]
 exact hK
def rApx : R0 := fun args l =>
 match args, l with
 | [.ptr 1 (.lit 0), .int .i64 (.sym n)], [(1, ⟨true, x⟩)] => r4 x fun a b c d => some (some ((Wd a ∧ Wd b ∧ Wd c ∧ Wd d) ∧ (0 ≤ n ∧ n ≤ 256) ∧ (V4 a b c d).toNat < 2 ^ n.toNat), .int .u64 (.sym ((apx 31 n.toNat (V4 a b c d).toNat : Nat) : Int)))
 | _, _ => none
theorem apx_ok (args : List SV) (l : List (Nat × Reg)) (p : Ob) (v : SV) (h : rApx args l = some (p, v)) (hp : p.ok) : ∃ U, execF cx0 U Tryz.f87 64 args (memL l) fun v' _ => v' = v := by
 unfold rApx at h
 split at h
 ·rename_i n x
  obtain ⟨a, b, c, d, rfl, q⟩ := r4_ex h
  simp only [Option.some.injEq, Prod.mk.injEq] at q
  obtain ⟨rfl, rfl⟩ := q
  obtain ⟨hw, ⟨hn0, hn1⟩, hV⟩ : (Wd a ∧ Wd b ∧ Wd c ∧ Wd d) ∧ (0 ≤ n ∧ n ≤ 256) ∧ (V4 a b c d).toNat < 2 ^ n.toNat := hp
  obtain ⟨ea, eb, ec, ed, hl⟩ := ws_of hw.1 hw.2.1 hw.2.2.1 hw.2.2.2
  generalize hX : (V4 a b c d).toNat = X at *
  obtain ⟨m, rfl⟩ := Int.eq_ofNat_of_zero_le hn0
  simp only [Int.toNat_natCast] at *
  refine ⟨u0, ?_⟩
  rw [vc_apx a b c d m]
  refine ⟨fun hc => ?_, fun hc => ?_⟩
  ·simp only [decide_eq_true_eq] at hc
   have h64 : X < 2 ^ 64 := Nat.lt_of_lt_of_le hV (Nat.pow_le_pow_right (by omega) (by omega))
   have e : apx 31 m X = X := by unfold apx; rw [if_pos (by omega)]
   rw [e, ea, lm_nat, Nat.mul_zero, Nat.pow_zero, Nat.div_one, Nat.mod_eq_of_lt h64]
  ·simp only [decide_eq_false_iff_not] at hc
   subst ea eb ec ed
   exact apx_walk (lo := 31) (L := 2147483647) (by omega) (by omega) (by decide) (by omega) (by omega) hV (K := fun z => SV.int .u64 (.sym z) = SV.int .u64 (.sym ((apx 31 m X : Nat) : Int))) rfl
 ·cases h
def cApx : Rd Tryz.prog := mkR mixed 87 Tryz.func87 (by decide) (by kernel_rfl) [] [.ptr 4 true, .num] rApx apx_ok
def rApl : R0 := fun args l =>
 match args, l with
 | [.ptr 1 (.lit 0), .int .i64 (.sym n)], [(1, ⟨true, x⟩)] => r4 x fun a b c d => some (some ((Wd a ∧ Wd b ∧ Wd c ∧ Wd d) ∧ (0 ≤ n ∧ n ≤ 256) ∧ (V4 a b c d).toNat < 2 ^ n.toNat), .int .u64 (.sym ((apx 32 n.toNat (V4 a b c d).toNat : Nat) : Int)))
 | _, _ => none
theorem apl_ok (args : List SV) (l : List (Nat × Reg)) (p : Ob) (v : SV) (h : rApl args l = some (p, v)) (hp : p.ok) : ∃ U, execF cx0 U Tryz.f94 64 args (memL l) fun v' _ => v' = v := by
 unfold rApl at h
 split at h
 ·rename_i n x
  obtain ⟨a, b, c, d, rfl, q⟩ := r4_ex h
  simp only [Option.some.injEq, Prod.mk.injEq] at q
  obtain ⟨rfl, rfl⟩ := q
  obtain ⟨hw, ⟨hn0, hn1⟩, hV⟩ : (Wd a ∧ Wd b ∧ Wd c ∧ Wd d) ∧ (0 ≤ n ∧ n ≤ 256) ∧ (V4 a b c d).toNat < 2 ^ n.toNat := hp
  obtain ⟨ea, eb, ec, ed, hl⟩ := ws_of hw.1 hw.2.1 hw.2.2.1 hw.2.2.2
  generalize hX : (V4 a b c d).toNat = X at *
  obtain ⟨m, rfl⟩ := Int.eq_ofNat_of_zero_le hn0
  simp only [Int.toNat_natCast] at *
  refine ⟨u0, ?_⟩
  rw [vc_apl a b c d m]
  refine ⟨fun hc => ?_, fun hc => ?_⟩
  ·simp only [decide_eq_true_eq] at hc
   have h64 : X < 2 ^ 64 := Nat.lt_of_lt_of_le hV (Nat.pow_le_pow_right (by omega) (by omega))
   have e : apx 32 m X = X := by unfold apx; rw [if_pos (by omega)]
   rw [e, ea, lm_nat, Nat.mul_zero, Nat.pow_zero, Nat.div_one, Nat.mod_eq_of_lt h64]
  ·simp only [decide_eq_false_iff_not] at hc
   subst ea eb ec ed
   exact apx_walk (lo := 32) (L := 4294967295) (by omega) (by omega) (by decide) (by omega) (by omega) hV (K := fun z => SV.int .u64 (.sym z) = SV.int .u64 (.sym ((apx 32 m X : Nat) : Int))) rfl
 ·cases h
def cApl : Rd Tryz.prog := mkR mixed 94 Tryz.func94 (by decide) (by kernel_rfl) [] [.ptr 4 true, .num] rApl apl_ok
def cxLg : Cx Tryz.prog := { rds := [cBl, cIz, cApl, cUd, cSub], efs := [kLc, kNl], eqs := [] }
structure LgI where
 a0 : Int
 a1 : Int
 a2 : Int
 a3 : Int
 b0 : Int
 b1 : Int
 b2 : Int
 b3 : Int
 l : Int
 s0 : Int
 s1 : Int
 s2 : Int
 s3 : Int
def LgI.m (i : LgI) : Nat := (V4 i.a0 i.a1 i.a2 i.a3).toNat + (V4 i.b0 i.b1 i.b2 i.b3).toNat
def LgS (z a b : Nat) (l : Int) : Prop :=
 (z = 0 ∧ a = 0 ∧ b = qN) ∨ ((a ≤ qN ∧ b ≤ qN ∧ b % 2 = 1 ∧ Nat.Coprime b a) ∧ (l = 1 ∨ l = -1) ∧ J z qN = l * J a b)
def LgQ (z : Nat) (i : LgI) : Prop := ∃ a b, Ws i.a0 i.a1 i.a2 i.a3 a ∧ Ws i.b0 i.b1 i.b2 i.b3 b ∧ LgS z a b i.l
def liLg (S : LgI → Prop) : LI where
 ι := LgI
 keep := [2, 3, 4, 7]
 keepR := []
 F := fun i => ⟨[(8, .int .i64 (.sym i.l))], [(545, ⟨false, w4 i.a0 i.a1 i.a2 i.a3⟩), (569, ⟨false, w4 i.b0 i.b1 i.b2 i.b3⟩), (601, ⟨false, w4 i.s0 i.s1 i.s2 i.s3⟩)]⟩
 I := fun _ i => S i
 μ := fun i => i.m
structure PrI where
 j : Nat
 s : PS
 l : Int
def pk (f g : Int) : Int := IntKind.i64.wrap (f + 4294967296 * g)
def liPr (T : Int → Int → Int → Nat → PS → Int → Prop) : LI where
 ι := PrI
 keep := [2, 3, 4, 7]
 keepR := [545, 569, 601]
 F := fun i => ⟨[(5, .int .i64 (.sym (pk i.s.f0 i.s.g0))), (6, .int .i64 (.sym (pk i.s.f1 i.s.g1))), (8, .int .i64 (.sym i.l)), (10, .int .u64 (.sym (i.s.x : Nat))), (11, .int .u64 (.sym (i.s.y : Nat))), (33, i64n i.j)], []⟩
 I := fun st i => T (st.int 10) (st.int 11) (st.int 8) i.j i.s i.l
 μ := fun i => 31 - i.j
def uLg (S : LgI → Prop) (T : Int → Int → Int → Nat → PS → Int → Prop) : Nat → Lp := fun n => match n with | 0 => .inv (liLg S) | 2 => .inv (liPr T) | _ => .un 0
def PrT (m : Nat) (x0 y0 l0 : Int) (j : Nat) (s : PS) (l : Int) : Prop := j ≤ m ∧ s = prun j ⟨x0.toNat, y0.toNat, 1, 0, 0, 1⟩ ∧ l = l0 * psgns j ⟨x0.toNat, y0.toNat, 1, 0, 0, 1⟩
theorem wrap64_eq (y : Int) : IntKind.i64.wrap y = if y % 18446744073709551616 ≥ 9223372036854775808 then y % 18446744073709551616 - 18446744073709551616 else y % 18446744073709551616 := by
 show (if (true && decide (y % 18446744073709551616 ≥ 9223372036854775808)) = true then y % 18446744073709551616 - 18446744073709551616 else y % 18446744073709551616) = _
 simp only [Bool.true_and, decide_eq_true_eq]
theorem wrap64_add (y t : Int) : IntKind.i64.wrap (y + 18446744073709551616 * t) = IntKind.i64.wrap y := by
 rw [wrap64_eq, wrap64_eq, Int.add_mul_emod_self_left]
theorem pk_dbl (f g : Int) : IntKind.i64.wrap (pk f g * 2) = pk (2 * f) (2 * g) := by
 unfold pk
 obtain ⟨t, ht⟩ := wrap64_ex (f + 4294967296 * g)
 have : (f + 4294967296 * g + 18446744073709551616 * t) * 2 = (2 * f + 4294967296 * (2 * g)) + 18446744073709551616 * (2 * t) := by omega
 rw [ht, this, wrap64_add]
theorem pk_dif (f g f' g' : Int) : IntKind.i64.wrap (pk f g - pk f' g') = pk (f - f') (g - g') := by
 unfold pk
 obtain ⟨t, ht⟩ := wrap64_ex (f + 4294967296 * g)
 obtain ⟨u, hu⟩ := wrap64_ex (f' + 4294967296 * g')
 have : f + 4294967296 * g + 18446744073709551616 * t - (f' + 4294967296 * g' + 18446744073709551616 * u) = ((f - f') + 4294967296 * (g - g')) + 18446744073709551616 * (t - u) := by omega
 rw [ht, hu, this, wrap64_add]
theorem shift_nat {r k i : Nat} (hk0 : 1 ≤ k) (hk : k ≤ 63) : (r / 2 ^ (64 * i) % 2 ^ 64 / 2 ^ k) ||| (r / 2 ^ (64 * (i + 1)) % 2 ^ 64 * 2 ^ (64 - k) % 2 ^ 64) = r / 2 ^ k / 2 ^ (64 * i) % 2 ^ 64 := by
 have p2 : ∀ k, 0 < 2 ^ k := fun k => Nat.pow_pos (by omega)
 have e1 : r / 2 ^ (64 * (i + 1)) = r / 2 ^ (64 * i) / 2 ^ 64 := by rw [Nat.div_div_eq_div_mul, ← Nat.pow_add, Nat.mul_add]
 have e2 : r / 2 ^ k / 2 ^ (64 * i) = r / 2 ^ (64 * i) / 2 ^ k := by rw [Nat.div_div_eq_div_mul, Nat.div_div_eq_div_mul, Nat.mul_comm]
 rw [e1, e2]
 generalize r / 2 ^ (64 * i) = q
 have s64 : (2 : Nat) ^ 64 = 2 ^ (64 - k) * 2 ^ k := by rw [← Nat.pow_add]; congr 1; omega
 have h1 : q / 2 ^ 64 % 2 ^ 64 * 2 ^ (64 - k) % 2 ^ 64 = 2 ^ (64 - k) * (q / 2 ^ 64 % 2 ^ k) := by
  have hd : 2 ^ k ∣ 2 ^ 64 := Nat.pow_dvd_pow 2 (by omega)
  rw [← Nat.mod_mod_of_dvd (q / 2 ^ 64) hd]
  generalize q / 2 ^ 64 % 2 ^ 64 = h
  rw [Nat.mul_comm h]
  conv => lhs; rw [s64]
  rw [Nat.mul_mod_mul_left]
 have h2 : q % 2 ^ 64 / 2 ^ k < 2 ^ (64 - k) := by
  rw [Nat.div_lt_iff_lt_mul (p2 _), ← s64]
  exact Nat.mod_lt _ (p2 _)
 rw [h1, or_sum h2]
 have h3 : q / 2 ^ k % 2 ^ 64 = q / 2 ^ k % 2 ^ (64 - k) + 2 ^ (64 - k) * (q / 2 ^ k / 2 ^ (64 - k) % 2 ^ k) := by rw [s64, Nat.mod_mul]
 have h4 : q / 2 ^ k / 2 ^ (64 - k) = q / 2 ^ 64 := by rw [Nat.div_div_eq_div_mul, ← Nat.pow_add]; congr 2; omega
 have h5 : q % 2 ^ 64 / 2 ^ k = q / 2 ^ k % 2 ^ (64 - k) := by rw [s64, Nat.mul_comm, Nat.mod_mul_right_div_self]
 rw [h3, h4, h5]
theorem shift_word {r k i : Nat} (hk0 : 1 ≤ k) (hk : k ≤ 63) {x y w : Int} (hx : x = shrv .u64 (lm r i) k) (hy : y = shlv .u64 (lm r (i + 1)) (64 - k)) (hw : w = bor .u64 x y) : w = lm (r / 2 ^ k) i := by
 have l0 : r / 2 ^ (64 * i) % 2 ^ 64 < 2 ^ 64 := Nat.mod_lt _ (Nat.pow_pos (by omega))
 have ex : x = ((r / 2 ^ (64 * i) % 2 ^ 64 / 2 ^ k : Nat) : Int) := by
  rw [hx, lm_nat, shr64 (Int.natCast_nonneg _) (by omega), Int.natCast_ediv, Int.natCast_pow]
  rfl
 have ey : y = ((r / 2 ^ (64 * (i + 1)) % 2 ^ 64 * 2 ^ (64 - k) % 2 ^ 64 : Nat) : Int) := by rw [hy, lm_nat, shl_nat (by omega)]
 obtain ⟨e, _⟩ := bor_eq (show Wd x by rw [ex]; exact wd_nat (Nat.lt_of_le_of_lt (Nat.div_le_self _ _) l0)) (show Wd y by rw [ey]; exact wd_nat (Nat.mod_lt _ (Nat.pow_pos (by omega))))
 rw [hw, e, ex, ey, Int.toNat_natCast, Int.toNat_natCast, shift_nat hk0 hk, lm_nat]
theorem lm4 {r : Nat} (h : r < 2135987035920910082395021706169552114602704522356652769947041607822219725780640550022962086936576) : lm r 4 = ((r / 115792089237316195423570985008687907853269984665640564039457584007913129639936 : Nat) : Int) := by
 unfold lm
 simp only [Nat.reducePow]
 omega
theorem band_top {w : Nat} (h : w < 2 ^ 64) : band .u64 (w : Int) 9223372036854775808 ≠ 0 ↔ 9223372036854775808 ≤ w := by
 obtain ⟨e, _⟩ := band_eq (wd_nat h) (show Wd 9223372036854775808 by unfold Wd; omega)
 have a := and_high h (k := 63) (by omega)
 rw [show (2 ^ 64 - 1) ^^^ (2 ^ 63 - 1) = 2 ^ 63 by decide] at a
 rw [e, Int.toNat_natCast, show (9223372036854775808 : Int).toNat = 2 ^ 63 from rfl, a]
 omega
theorem sign_bit {z : Int} (h0 : -1067993517960455041197510853084776057301352261178326384973520803911109862890320275011481043468288 ≤ z) (h1 : z < 1067993517960455041197510853084776057301352261178326384973520803911109862890320275011481043468288) {x : Int} (hx : x = band .u64 (lm (m5 z) 4) 9223372036854775808) : x ≠ 0 ↔ z < 0 := by
 have hl := m5_lt z
 rw [hx, lm4 hl, band_top (by omega)]
 unfold m5
 omega
theorem m5_pos {z : Int} (h0 : 0 ≤ z) (h1 : z < 2135987035920910082395021706169552114602704522356652769947041607822219725780640550022962086936576) : m5 z = z.natAbs := by unfold m5; omega
theorem m5_neg {z : Int} (h0 : z < 0) (h1 : -2135987035920910082395021706169552114602704522356652769947041607822219725780640550022962086936576 < z) : m5 (-(V4 (lm (m5 z) 0) (lm (m5 z) 1) (lm (m5 z) 2) (lm (m5 z) 3) + lm (m5 z) 4 * 115792089237316195423570985008687907853269984665640564039457584007913129639936)) = z.natAbs := by
 rw [lm5_val (m5_lt z)]
 unfold m5
 omega
theorem psgn_pm (s : PS) : psgn s = 1 ∨ psgn s = -1 := by
 unfold psgn e2 Num.e4
 split <;> (try split) <;> (try split) <;> (try split) <;> first | exact .inl rfl | exact .inr rfl
theorem psgns_pm (s : PS) : ∀ n, psgns n s = 1 ∨ psgns n s = -1
 | 0 => .inl rfl
 | n + 1 => by
  rw [psgns]
  rcases psgns_pm s n with h | h <;> rcases psgn_pm (prun n s) with g | g <;> rw [h, g] <;> decide
def NegW (r : Nat) : Nat := m5 (-(V4 (lm r 0) (lm r 1) (lm r 2) (lm r 3) + lm r 4 * 115792089237316195423570985008687907853269984665640564039457584007913129639936))
def LeafP (T : Nat → PS → Int → Prop) (j : Nat) (R : Prop) (c0 c1 l x y jn : Int) : Prop :=
 ∃ i : PrI, T i.j i.s i.l ∧ (((c0 = pk i.s.f0 i.s.g0 ∧ c1 = pk i.s.f1 i.s.g1 ∧ l = i.l ∧ x = (i.s.x : Nat) ∧ y = (i.s.y : Nat) ∧ jn = (i.j : Nat)) ∧ R) ∧ 31 - i.j < 31 - j)
def EndP (T : Nat → PS → Int → Prop) (j : Nat) (R : Prop) (c0 cc l x y : Int) : Prop :=
 ∀ c1, c1 = IntKind.i64.wrap (cc * 2) → ∀ jn, jn = IntKind.i64.wrap ((j : Int) + 1) → LeafP T j R c0 c1 l x y jn
def SgnP (y l : Int) (K : Int → Prop) : Prop :=
 ∀ b, b = band .u64 y 7 → ((b == 3) = true → ∀ l', l' = IntKind.i64.wrap (0 - l) → K l') ∧ ((b == 3) = false → ((b == 5) = true → ∀ l', l' = IntKind.i64.wrap (0 - l) → K l') ∧ ((b == 5) = false → K l))
def OddP (x y p0 p1 l : Int) (K : Int → Int → Int → Prop) : Prop :=
 ∀ a, a = IntKind.u64.wrap (y - x) → ∀ b, b = IntKind.u64.wrap (Int.tdiv a 2) → ∀ c, c = IntKind.i64.wrap (p1 - p0) → SgnP x l fun l' => K c b l'
def RoundP (T : Nat → PS → Int → Prop) (j : Nat) (R : Prop) (x y p0 p1 l : Int) : Prop :=
 ∀ e, e = band .u64 x 1 → ((e == 0) = true → ∀ h, h = IntKind.u64.wrap (Int.tdiv x 2) → SgnP y l fun l' => EndP T j R p0 p1 l' h y) ∧
  ((e == 0) = false → (Wd x ∧ Wd y ∧ (0 : Int) ≤ 0 ∧ (0 : Int) ≤ 1) ∧ ∀ d, d = difLo x y 0 → ∀ b, b = difHi x y 0 →
   ((b == 1) = true → ∀ u, u = band .u64 y 3 → ((u == 3) = true → ∀ v, v = band .u64 x 3 → ((v == 3) = true → ∀ l', l' = IntKind.i64.wrap (0 - l) → OddP x y p0 p1 l' fun c b l' => EndP T j R c p0 l' b x) ∧ ((v == 3) = false → OddP x y p0 p1 l fun c b l' => EndP T j R c p0 l' b x)) ∧
    ((u == 3) = false → OddP x y p0 p1 l fun c b l' => EndP T j R c p0 l' b x)) ∧
   ((b == 1) = false → ∀ h, h = IntKind.u64.wrap (Int.tdiv d 2) → ∀ c, c = IntKind.i64.wrap (p0 - p1) → SgnP y l fun l' => EndP T j R c p1 l' h y))
def ShP (r k : Nat) (K : Int → Int → Int → Int → Prop) : Prop :=
 ∀ a, a = shrv .u64 (lm r 0) k → ∀ b, b = shlv .u64 (lm r 1) (64 - k) → ∀ w0, w0 = bor .u64 a b → ∀ a, a = shrv .u64 (lm r 1) k → ∀ b, b = shlv .u64 (lm r 2) (64 - k) → ∀ w1, w1 = bor .u64 a b →
 ∀ a, a = shrv .u64 (lm r 2) k → ∀ b, b = shlv .u64 (lm r 3) (64 - k) → ∀ w2, w2 = bor .u64 a b → ∀ a, a = shrv .u64 (lm r 3) k → ∀ b, b = shlv .u64 (lm r 4) (64 - k) → ∀ w3, w3 = bor .u64 a b → K w0 w1 w2 w3
def WdR (r : Nat) : Prop := (Wd (lm r 0) ∧ Wd (lm r 1) ∧ Wd (lm r 2) ∧ Wd (lm r 3)) ∧ Wd (lm r 4)
def CombP (x0 x1 x2 x3 b0 b1 b2 b3 : Int) (p : Int) (K : Nat → Prop) : Prop :=
 ∀ f, f = udF p → ∀ g, g = udG p → (((Wd x0 ∧ Wd x1 ∧ Wd x2 ∧ Wd x3) ∧ Wd b0 ∧ Wd b1 ∧ Wd b2 ∧ Wd b3) ∧ I64 f ∧ I64 g) ∧ ∀ r, r = m5 (V4 x0 x1 x2 x3 * f + V4 b0 b1 b2 b3 * g) → K r
def LgEnd (S : LgI → Prop) (i0 : LgI) (x0 x1 x2 x3 l w0 w1 w2 w3 v0 v1 v2 v3 : Int) : Prop :=
 ∃ i : LgI, S i ∧ ((l = i.l ∧ (w0 = i.a0 ∧ w1 = i.a1 ∧ w2 = i.a2 ∧ w3 = i.a3) ∧ (v0 = i.b0 ∧ v1 = i.b1 ∧ v2 = i.b2 ∧ v3 = i.b3) ∧ x0 = i.s0 ∧ x1 = i.s1 ∧ x2 = i.s2 ∧ x3 = i.s3) ∧ i.m < i0.m)
def LgB (S : LgI → Prop) (i : LgI) (x0 x1 x2 x3 p1 l w0 w1 w2 w3 : Int) : Prop :=
 CombP x0 x1 x2 x3 i.b0 i.b1 i.b2 i.b3 p1 fun r => ∀ t, t = band .u64 (lm r 4) 9223372036854775808 → ((t != 0) = true → WdR r ∧ ∀ r', r' = NegW r → ShP r' 30 fun v0 v1 v2 v3 => LgEnd S i x0 x1 x2 x3 l w0 w1 w2 w3 v0 v1 v2 v3) ∧
  ((t != 0) = false → ShP r 30 fun v0 v1 v2 v3 => LgEnd S i x0 x1 x2 x3 l w0 w1 w2 w3 v0 v1 v2 v3)
def AfterP (S : LgI → Prop) (i : LgI) (y p0 p1 l : Int) : Prop :=
 ∀ x0, x0 = i.a0 → ∀ x1, x1 = i.a1 → ∀ x2, x2 = i.a2 → ∀ x3, x3 = i.a3 → CombP x0 x1 x2 x3 i.b0 i.b1 i.b2 i.b3 p0 fun r => ∀ t, t = band .u64 (lm r 4) 9223372036854775808 →
  ((t != 0) = true → WdR r ∧ ∀ r', r' = NegW r → ∀ u, u = band .u64 y 3 → ((u == 3) = true → ∀ l', l' = IntKind.i64.wrap (0 - l) → ShP r' 30 fun w0 w1 w2 w3 => LgB S i x0 x1 x2 x3 p1 l' w0 w1 w2 w3) ∧ ((u == 3) = false → ShP r' 30 fun w0 w1 w2 w3 => LgB S i x0 x1 x2 x3 p1 l w0 w1 w2 w3)) ∧
  ((t != 0) = false → ShP r 30 fun w0 w1 w2 w3 => LgB S i x0 x1 x2 x3 p1 l w0 w1 w2 w3)
def WdA (i : LgI) : Prop := Wd i.a0 ∧ Wd i.a1 ∧ Wd i.a2 ∧ Wd i.a3
def WdB (i : LgI) : Prop := Wd i.b0 ∧ Wd i.b1 ∧ Wd i.b2 ∧ Wd i.b3
def VA (i : LgI) : Int := V4 i.a0 i.a1 i.a2 i.a3
def VB (i : LgI) : Int := V4 i.b0 i.b1 i.b2 i.b3
def R4 (i : LgI) : Prop := (i.a0 = i.a0 ∧ i.a1 = i.a1 ∧ i.a2 = i.a2 ∧ i.a3 = i.a3) ∧ (i.b0 = i.b0 ∧ i.b1 = i.b1 ∧ i.b2 = i.b2 ∧ i.b3 = i.b3) ∧ i.s0 = i.s0 ∧ i.s1 = i.s1 ∧ i.s2 = i.s2 ∧ i.s3 = i.s3
def FinM (i : LgI) : Mem := memL [(545, ⟨false, w4 i.a0 i.a1 i.a2 i.a3⟩), (569, ⟨false, w4 i.b0 i.b1 i.b2 i.b3⟩), (601, ⟨false, w4 i.s0 i.s1 i.s2 i.s3⟩)]
def SloP (k : PrI) (c0 c1 l x y j : Int) : Prop := c0 = pk k.s.f0 k.s.g0 ∧ c1 = pk k.s.f1 k.s.g1 ∧ l = k.l ∧ x = (k.s.x : Nat) ∧ y = (k.s.y : Nat) ∧ j = ((k.j : Nat) : Int)
theorem vc_lg (S : LgI → Prop) (T : Int → Int → Int → Nat → PS → Int → Prop) (z0 z1 z2 z3 : Int) (K : SV → Mem → Prop) : (execF cxLg (uLg S T) Tryz.f56 64 [.ptr 1 (.lit 0)] (memL [(1, ⟨true, w4 z0 z1 z2 z3⟩)]) K) =
 (∀ x0, x0 = z0 → ∀ x1, x1 = z1 → ∀ x2, x2 = z2 → ∀ x3, x3 = z3 →
  (∃ i : LgI, S i ∧ 1 = i.l ∧ (x0 = i.a0 ∧ x1 = i.a1 ∧ x2 = i.a2 ∧ x3 = i.a3) ∧ (4332616871279656263 = i.b0 ∧ 10917124144477883021 = i.b1 ∧ 13281191951274694749 = i.b2 ∧ 3486998266802970665 = i.b3) ∧ 0 = i.s0 ∧ 0 = i.s1 ∧ 0 = i.s2 ∧ 0 = i.s3) ∧
  ∀ i : LgI, S i → WdA i ∧
   ((!decide (VA i = 0)) = true → WdA i ∧ ∀ n0, n0 = ((bl (VA i).toNat : Nat) : Int) → WdB i ∧ ∀ n1, n1 = ((bl (VB i).toNat : Nat) : Int) → ∀ n, n = (if n1 > n0 then n1 else n0) →
    (WdA i ∧ (0 ≤ n ∧ n ≤ 256) ∧ (VA i).toNat < 2 ^ n.toNat) ∧ ∀ xa, xa = ((apx 32 n.toNat (VA i).toNat : Nat) : Int) → (WdB i ∧ (0 ≤ n ∧ n ≤ 256) ∧ (VB i).toNat < 2 ^ n.toNat) ∧ ∀ xb, xb = ((apx 32 n.toNat (VB i).toNat : Nat) : Int) →
    (∃ k : PrI, T xa xb i.l k.j k.s k.l ∧ SloP k 1 4294967296 i.l xa xb 0 ∧ R4 i) ∧
    ∀ k : PrI, T xa xb i.l k.j k.s k.l →
     (decide (((k.j : Nat) : Int) < 30) = true → RoundP (T xa xb i.l) k.j (R4 i) (k.s.x : Nat) (k.s.y : Nat) (pk k.s.f0 k.s.g0) (pk k.s.f1 k.s.g1) k.l) ∧
     (decide (((k.j : Nat) : Int) < 30) = false → AfterP S i (k.s.y : Nat) (pk k.s.f0 k.s.g0) (pk k.s.f1 k.s.g1) k.l)) ∧
   ((!decide (VA i = 0)) = false → ((i.b0 == 1) = true → ∀ u, u = bor .u64 i.b1 i.b2 → ∀ v, v = bor .u64 u i.b3 → ((v == 0) = true → K (.int .i64 (.sym i.l)) (FinM i)) ∧ ((v == 0) = false → K (.int .i64 (.lit 0)) (FinM i))) ∧
    ((i.b0 == 1) = false → K (.int .i64 (.lit 0)) (FinM i)))) := by kernel_rfl
theorem band_nat (x : Nat) (hx : x < 2 ^ 64) {n : Nat} (hn : n ≤ 64) {L : Int} (hL : L = 2 ^ n - 1) : band .u64 (x : Int) L = ((x % 2 ^ n : Nat) : Int) := by
 rw [hL, band_mask (wd_nat hx) hn, Int.natCast_emod, Int.natCast_pow]
 rfl
theorem neg_l {l l' : Int} (h : l = 1 ∨ l = -1) (h' : l' = IntKind.i64.wrap (0 - l)) : l' = -l := by
 rw [wrap64 (by omega) (by omega)] at h'
 omega
theorem SgnP.of {y : Nat} (hy : y < 2 ^ 64) {l : Int} {K : Int → Prop} (hl : l = 1 ∨ l = -1) (h : K (l * e2 y)) : SgnP y l K := by
 intro b hb
 rw [band_nat y hy (n := 3) (by omega) (by decide)] at hb
 simp only [beq_iff_eq, beq_eq_false_iff_ne, ne_eq]
 refine ⟨fun h3 l' hl' => ?_, fun h3 => ⟨fun h5 l' hl' => ?_, fun h5 => ?_⟩⟩
 ·have e : e2 y = -1 := by unfold e2; rw [if_pos (by omega)]
  rw [e] at h
  rw [neg_l hl hl', show -l = l * -1 by omega]
  exact h
 ·have e : e2 y = -1 := by unfold e2; rw [if_pos (by omega)]
  rw [e] at h
  rw [neg_l hl hl', show -l = l * -1 by omega]
  exact h
 ·have e : e2 y = 1 := by unfold e2; rw [if_neg (by omega)]
  rw [e, Int.mul_one] at h
  exact h
theorem EndP.of {m j : Nat} {xa xb l0 l : Int} {s : PS} {R : Prop} {c0 cc l' x y : Int} (hT : PrT m xa xb l0 j s l) (hj : j < m) (hm : m ≤ 31) (h0 : c0 = pk (pstep s).f0 (pstep s).g0) (h1 : IntKind.i64.wrap (cc * 2) = pk (pstep s).f1 (pstep s).g1) (h2 : l' = l * psgn s)
  (h3 : x = ((pstep s).x : Nat)) (h4 : y = ((pstep s).y : Nat)) (hR : R) : EndP (PrT m xa xb l0) j R c0 cc l' x y := by
 intro c1 hc jn hjn
 rw [wrap64 (by omega) (by omega)] at hjn
 obtain ⟨_, hs, hl⟩ := hT
 refine ⟨⟨j + 1, pstep s, l'⟩, ⟨hj, ?_, ?_⟩, ⟨⟨h0, by rw [hc, h1], rfl, h3, h4, by simp only; omega⟩, hR⟩, by simp only; omega⟩
 ·simp only
  rw [prun, ← hs]
 ·simp only
  rw [h2, hl, psgns, ← hs, Int.mul_assoc]
theorem half_nat {x : Nat} (hx : x < 2 ^ 64) {h : Int} (hh : h = IntKind.u64.wrap (Int.tdiv (x : Int) 2)) : h = ((x / 2 : Nat) : Int) := by
 rw [Int.tdiv_eq_ediv_of_nonneg (by omega), wu64] at hh
 omega
theorem RoundP.of {m j : Nat} {xa xb l0 : Int} {s : PS} {l : Int} {R : Prop} (hT : PrT m xa xb l0 j s l) (hj : j < m) (hm : m ≤ 31) (hx : s.x < 2 ^ 64) (hy : s.y < 2 ^ 64) (hl : l = 1 ∨ l = -1) (hR : R) :
  RoundP (PrT m xa xb l0) j R (s.x : Nat) (s.y : Nat) (pk s.f0 s.g0) (pk s.f1 s.g1) l := by
 intro e he
 rw [band_nat s.x hx (n := 1) (by omega) (by decide)] at he
 simp only [beq_iff_eq, beq_eq_false_iff_ne, ne_eq]
 refine ⟨fun h0 h hh => ?_, fun h0 => ⟨⟨wd_nat hx, wd_nat hy, Int.le_refl _, by decide⟩, fun d hd b hb => ⟨fun h1 => ?_, fun h1 => ?_⟩⟩⟩
 ·have hx2 : s.x % 2 = 0 := by omega
  have ep : pstep s = ⟨s.x / 2, s.y, s.f0, s.g0, 2 * s.f1, 2 * s.g1⟩ := by unfold pstep; rw [if_pos hx2]
  have es : psgn s = e2 s.y := by unfold psgn; rw [if_pos hx2]
  refine SgnP.of hy hl (EndP.of hT hj hm ?_ ?_ ?_ ?_ ?_ hR)
  ·rw [ep]
  ·rw [ep, pk_dbl]
  ·rw [es]
  ·rw [ep]; exact half_nat hx hh
  ·rw [ep]
 ·have hx2 : s.x % 2 = 1 := by omega
  have hlt : s.x < s.y := by
   unfold difHi at hb
   split at hb <;> omega
  have ep : pstep s = ⟨(s.y - s.x) / 2, s.x, s.f1 - s.f0, s.g1 - s.g0, 2 * s.f0, 2 * s.g0⟩ := by unfold pstep; rw [if_neg (by omega), if_pos hlt]
  have es : psgn s = Num.e4 s.x s.y * e2 s.x := by unfold psgn; rw [if_neg (by omega), if_pos hlt]
  have odd : ∀ l' : Int, l' = l * Num.e4 s.x s.y → OddP (s.x : Nat) (s.y : Nat) (pk s.f0 s.g0) (pk s.f1 s.g1) l' fun c b l' => EndP (PrT m xa xb l0) j R c (pk s.f0 s.g0) l' b (s.x : Nat) := by
   intro l' hl' a ha b hb c hc
   have hlp : l' = 1 ∨ l' = -1 := by
    rw [hl']
    unfold Num.e4
    rcases hl with hl | hl <;> split <;> omega
   have ea : a = ((s.y - s.x : Nat) : Int) := by rw [ha, wu64]; omega
   refine SgnP.of hx hlp (EndP.of hT hj hm ?_ ?_ ?_ ?_ ?_ hR)
   ·rw [ep, hc, pk_dif]
   ·rw [ep, pk_dbl]
   ·rw [es, hl', Int.mul_assoc]
   ·rw [ep]
    rw [ea] at hb
    exact half_nat (by omega) hb
   ·rw [ep]
  intro u hu
  rw [band_nat s.y hy (n := 2) (by omega) (by decide)] at hu
  refine ⟨fun h3 v hv => ⟨fun h4 l' hl' => ?_, fun h4 => ?_⟩, fun h3 => ?_⟩
  ·rw [band_nat s.x hx (n := 2) (by omega) (by decide)] at hv
   refine odd l' ?_
   rw [neg_l hl hl']
   unfold Num.e4
   rw [if_pos (by omega)]
   omega
  ·rw [band_nat s.x hx (n := 2) (by omega) (by decide)] at hv
   refine odd l ?_
   unfold Num.e4
   rw [if_neg (by omega), Int.mul_one]
  ·refine odd l ?_
   unfold Num.e4
   rw [if_neg (by omega), Int.mul_one]
 ·have hx2 : s.x % 2 = 1 := by omega
  have hge : ¬ s.x < s.y := by
   unfold difHi at hb
   split at hb <;> omega
  have ep : pstep s = ⟨(s.x - s.y) / 2, s.y, s.f0 - s.f1, s.g0 - s.g1, 2 * s.f1, 2 * s.g1⟩ := by unfold pstep; rw [if_neg (by omega), if_neg hge]
  have es : psgn s = e2 s.y := by unfold psgn; rw [if_neg (by omega), if_neg hge]
  intro h hh c hc
  have ed : d = ((s.x - s.y : Nat) : Int) := by rw [hd]; unfold difLo; omega
  refine SgnP.of hy hl (EndP.of hT hj hm ?_ ?_ ?_ ?_ ?_ hR)
  ·rw [ep, hc, pk_dif]
  ·rw [ep, pk_dbl]
  ·rw [es]
  ·rw [ep]
   rw [ed] at hh
   exact half_nat (by omega) hh
  ·rw [ep]
theorem ShP.of {r k : Nat} {K : Int → Int → Int → Int → Prop} (hk0 : 1 ≤ k) (hk : k ≤ 63) (h : K (lm (r / 2 ^ k) 0) (lm (r / 2 ^ k) 1) (lm (r / 2 ^ k) 2) (lm (r / 2 ^ k) 3)) : ShP r k K := by
 intro a ha b hb w0 h0 a' ha' b' hb' w1 h1 a2 ha2 b2 hb2 w2 h2 a3 ha3 b3 hb3 w3 h3
 rw [shift_word hk0 hk ha hb h0, shift_word hk0 hk ha' hb' h1, shift_word hk0 hk ha2 hb2 h2, shift_word hk0 hk ha3 hb3 h3]
 exact h
theorem CombP.of {x0 x1 x2 x3 b0 b1 b2 b3 f g : Int} {a b : Nat} {K : Nat → Prop} (hx : Ws x0 x1 x2 x3 a) (hb : Ws b0 b1 b2 b3 b) (hf : -2147483648 < f ∧ f ≤ 2147483648) (hg : -2147483648 < g ∧ g ≤ 2147483648) (h : ∀ r, r = m5 (f * a + g * b) → K r) : CombP x0 x1 x2 x3 b0 b1 b2 b3 (pk f g) K := by
 obtain ⟨ef, eg⟩ := ud_of hf.1 hf.2 hg.1 hg.2
 intro f' hf' g' hg'
 have e1 : f' = f := hf'.trans ef
 have e2 : g' = g := hg'.trans eg
 rw [e1, e2]
 refine ⟨⟨⟨hx.wd, hb.wd⟩, by unfold I64; omega, by unfold I64; omega⟩, fun r hr => h r ?_⟩
 rw [hr, hx.val, hb.val, Int.mul_comm f, Int.mul_comm g]
theorem sign_of {m r : Nat} {A z : Int} (hz : ((2 ^ m : Nat) : Int) * A = z) (hm : m ≤ 31) (hA : A.natAbs ≤ 115792089237316195423570985008687907853269984665640564039457584007913129639936) (hr : r = m5 z) {t : Int} (ht : t = band .u64 (lm r 4) 9223372036854775808) :
  (t ≠ 0 ↔ A < 0) ∧ (A < 0 → NegW r / 2 ^ m = A.natAbs) ∧ (0 ≤ A → r / 2 ^ m = A.natAbs) ∧ r < 2135987035920910082395021706169552114602704522356652769947041607822219725780640550022962086936576 := by
 have hp : 0 < 2 ^ m := Nat.pow_pos (by omega)
 have hp2 : 2 ^ m ≤ 2 ^ 31 := Nat.pow_le_pow_right (by omega) hm
 have h1 := natAbs_of_mul hz
 have h2 : 2 ^ m * A.natAbs ≤ 2 ^ 31 * 115792089237316195423570985008687907853269984665640564039457584007913129639936 := Nat.mul_le_mul hp2 hA
 have hsg : z < 0 ↔ A < 0 := by
  constructor
  ·intro h
   apply Classical.byContradiction
   intro hn
   have := Int.mul_nonneg (show (0 : Int) ≤ ((2 ^ m : Nat) : Int) from Int.natCast_nonneg _) (show 0 ≤ A by omega)
   omega
  ·intro h
   have := Int.mul_neg_of_pos_of_neg (show (0 : Int) < ((2 ^ m : Nat) : Int) by omega) h
   omega
 have hb := sign_bit (z := z) (by omega) (by omega) (show t = band .u64 (lm (m5 z) 4) 9223372036854775808 by rw [← hr]; exact ht)
 refine ⟨hb.trans hsg, fun h => ?_, fun h => ?_, by rw [hr]; exact m5_lt z⟩
 ·unfold NegW
  rw [hr, m5_neg (hsg.2 h) (by omega), ← h1, Nat.mul_div_cancel_left _ hp]
 ·have : ¬ z < 0 := fun q => by have := hsg.1 q; omega
  rw [hr, m5_pos (by omega) (by omega), ← h1, Nat.mul_div_cancel_left _ hp]
theorem wdr (r : Nat) : WdR r := ⟨⟨lm_wd _ _, lm_wd _ _, lm_wd _ _, lm_wd _ _⟩, lm_wd _ _⟩
theorem ws_lm {x : Nat} (h : x < 115792089237316195423570985008687907853269984665640564039457584007913129639936) : Ws (lm x 0) (lm x 1) (lm x 2) (lm x 3) x := ⟨rfl, rfl, rfl, rfl, h⟩
theorem fac_bd {f g : Int} {p x0 y0 : Nat} {s : PS} (hl : Lin p x0 y0 s) (hp : p ≤ 2147483648) : ((-2147483648 < s.f0 ∧ s.f0 ≤ 2147483648) ∧ (-2147483648 < s.g0 ∧ s.g0 ≤ 2147483648)) ∧ (-2147483648 < s.f1 ∧ s.f1 ≤ 2147483648) ∧ (-2147483648 < s.g1 ∧ s.g1 ≤ 2147483648) := by
 have h0 := hl.s0
 have h1 := hl.s1
 have h2 := hl.lo
 omega
theorem apx_lt {lo n a : Nat} (hlo : lo ≤ 32) (h : a < 2 ^ n) : apx lo n a < 2 ^ 64 := by
 unfold apx
 split
 ·rename_i hn
  exact Nat.lt_of_lt_of_le h (Nat.pow_le_pow_right (by omega) hn)
 ·rename_i hn
  have h1 : a / 2 ^ (n - (64 - lo)) < 2 ^ (64 - lo) := by
   rw [Nat.div_lt_iff_lt_mul (Nat.pow_pos (by omega)), ← Nat.pow_add, show 64 - lo + (n - (64 - lo)) = n by omega]
   exact h
  have h2 := Nat.mod_lt a (show 0 < 2 ^ lo from Nat.pow_pos (by omega))
  have h3 : 2 ^ lo * (a / 2 ^ (n - (64 - lo)) + 1) ≤ 2 ^ lo * 2 ^ (64 - lo) := Nat.mul_le_mul_left _ h1
  rw [← Nat.pow_add, show lo + (64 - lo) = 64 by omega, Nat.mul_add] at h3
  omega
theorem prun_lt {x0 y0 : Nat} {f g f' g' : Int} (hx : x0 < 2 ^ 64) (hy : y0 < 2 ^ 64) : ∀ n, (prun n ⟨x0, y0, f, g, f', g'⟩).x < 2 ^ 64 ∧ (prun n ⟨x0, y0, f, g, f', g'⟩).y < 2 ^ 64
 | 0 => ⟨hx, hy⟩
 | n + 1 => by
  obtain ⟨h1, h2⟩ := prun_lt (f := f) (g := g) (f' := f') (g' := g') hx hy n
  rw [prun]
  generalize prun n ⟨x0, y0, f, g, f', g'⟩ = s at h1 h2 ⊢
  unfold pstep
  split
  ·simp only; omega
  ·split <;> simp only <;> omega
theorem AfterP.of {z a b n : Nat} {i : LgI} {s : PS} {l : Int} {A B : Int} (ha : Ws i.a0 i.a1 i.a2 i.a3 a) (hb : Ws i.b0 i.b1 i.b2 i.b3 b) (haq : a ≤ qN) (hbq : b ≤ qN) (ha0 : 0 < a) (hi : i.l = 1 ∨ i.l = -1) (hJ : J z qN = i.l * J a b)
  (hs : s = prun 30 ⟨apx 32 n a, apx 32 n b, 1, 0, 0, 1⟩) (hl : l = i.l * psgns 30 ⟨apx 32 n a, apx 32 n b, 1, 0, 0, 1⟩) (hL : Lin (2 ^ 30) (apx 32 n a) (apx 32 n b) s) (hO : Num.Out 32 30 n a b s A B) (han : a < 2 ^ n) (hbn : b < 2 ^ n) :
  AfterP (LgQ z) i (s.y : Nat) (pk s.f0 s.g0) (pk s.f1 s.g1) l := by
 obtain ⟨⟨f0b, g0b⟩, f1b, g1b⟩ := fac_bd (f := 0) (g := 0) hL (by decide)
 obtain ⟨hAle, hBle⟩ := hO.le qN haq hbq
 have hy4 : B % 4 = (s.y : Int) % 4 := by
  obtain ⟨t, ht⟩ := hO.low
  have : ((2 ^ (32 - 30) : Nat) : Int) * t = 4 * t := rfl
  rw [this] at ht
  omega
 have hy64 : s.y < 2 ^ 64 := by
  rw [hs]
  exact (prun_lt (apx_lt (by omega) han) (apx_lt (by omega) hbn) 30).2
 have hlp : l = 1 ∨ l = -1 := by
  rw [hl]
  rcases hi with h | h <;> rcases psgns_pm ⟨apx 32 n a, apx 32 n b, 1, 0, 0, 1⟩ 30 with g | g <;> rw [h, g] <;> decide
 have hsym := hO.symK (by decide)
 have hK : ∀ u v : Nat, K (u : Int) (v : Int) = J u v := fun u v => by unfold K; rw [Int.natAbs_natCast]
 rw [hK, hK] at hsym
 have hfin : J z qN = (l * (if A < 0 ∧ B % 4 = 3 then -1 else 1)) * J A.natAbs B.natAbs := by
  rw [hJ, hsym, hl]
  simp only [Int.mul_assoc]
 have endp : ∀ l' x0 x1 x2 x3 : Int, l' = l * (if A < 0 ∧ B % 4 = 3 then -1 else 1) → LgEnd (LgQ z) i x0 x1 x2 x3 l' (lm A.natAbs 0) (lm A.natAbs 1) (lm A.natAbs 2) (lm A.natAbs 3) (lm B.natAbs 0) (lm B.natAbs 1) (lm B.natAbs 2) (lm B.natAbs 3) := by
  intro l' x0 x1 x2 x3 hl'
  have wa : Ws (lm A.natAbs 0) (lm A.natAbs 1) (lm A.natAbs 2) (lm A.natAbs 3) A.natAbs := ws_lm (by unfold qN at hAle; omega)
  have wb : Ws (lm B.natAbs 0) (lm B.natAbs 1) (lm B.natAbs 2) (lm B.natAbs 3) B.natAbs := ws_lm (by unfold qN at hBle; omega)
  refine ⟨⟨lm A.natAbs 0, lm A.natAbs 1, lm A.natAbs 2, lm A.natAbs 3, lm B.natAbs 0, lm B.natAbs 1, lm B.natAbs 2, lm B.natAbs 3, l', x0, x1, x2, x3⟩, ⟨A.natAbs, B.natAbs, wa, wb, .inr ⟨⟨hAle, hBle, hO.odd, hO.cop⟩, ?_, ?_⟩⟩, ⟨rfl, ⟨rfl, rfl, rfl, rfl⟩, ⟨rfl, rfl, rfl, rfl⟩, rfl, rfl, rfl, rfl⟩, ?_⟩
  ·show l' = 1 ∨ l' = -1
   rw [hl']
   rcases hlp with h | h <;> split <;> omega
  ·show J z qN = l' * J A.natAbs B.natAbs
   rw [hl']
   exact hfin
  ·have hd := hO.dec ha0
   unfold LgI.m
   simp only
   rw [wa.val, wb.val, ha.val, hb.val]
   simp only [Int.toNat_natCast]
   exact hd
 have lgb : ∀ l' : Int, l' = l * (if A < 0 ∧ B % 4 = 3 then -1 else 1) → LgB (LgQ z) i i.a0 i.a1 i.a2 i.a3 (pk s.f1 s.g1) l' (lm A.natAbs 0) (lm A.natAbs 1) (lm A.natAbs 2) (lm A.natAbs 3) := by
  intro l' hl'
  refine CombP.of ha hb f1b g1b fun r hr t ht => ?_
  obtain ⟨q1, q2, q3, q4⟩ := sign_of hO.rb (by decide) (by unfold qN at hBle; omega) hr ht
  simp only [bne_iff_ne, bne_eq_false_iff_eq, ne_eq]
  refine ⟨fun h => ⟨wdr r, fun r' hr' => ?_⟩, fun h => ?_⟩
  ·refine ShP.of (by decide) (by decide) ?_
   rw [hr', q2 (q1.1 h)]
   exact endp l' _ _ _ _ hl'
  ·refine ShP.of (by decide) (by decide) ?_
   rw [q3 (by have := mt q1.2 (fun c => c h); omega)]
   exact endp l' _ _ _ _ hl'
 rintro _ rfl _ rfl _ rfl _ rfl
 refine CombP.of ha hb f0b g0b fun r hr t ht => ?_
 obtain ⟨q1, q2, q3, q4⟩ := sign_of hO.ra (by decide) (by unfold qN at hAle; omega) hr ht
 simp only [bne_iff_ne, bne_eq_false_iff_eq, ne_eq]
 refine ⟨fun h => ⟨wdr r, fun r' hr' u hu => ?_⟩, fun h => ?_⟩
 ·have hAn := q1.1 h
  rw [band_nat s.y hy64 (n := 2) (by omega) (by decide)] at hu
  simp only [beq_iff_eq, beq_eq_false_iff_ne, ne_eq]
  refine ⟨fun h3 l' hl' => ShP.of (by decide) (by decide) ?_, fun h3 => ShP.of (by decide) (by decide) ?_⟩
  ·rw [hr', q2 hAn]
   refine lgb l' ?_
   rw [neg_l hlp hl', if_pos ⟨hAn, by omega⟩]
   omega
  ·rw [hr', q2 hAn]
   refine lgb l ?_
   rw [if_neg (by omega), Int.mul_one]
 ·have hAn : ¬ A < 0 := fun c => (q1.2 c) h
  refine ShP.of (by decide) (by decide) ?_
  rw [q3 (by omega)]
  refine lgb l ?_
  rw [if_neg (by omega), Int.mul_one]
theorem q_ws : Ws 4332616871279656263 10917124144477883021 13281191951274694749 3486998266802970665 qN := by
 refine ⟨by decide, by decide, by decide, by decide, by unfold qN; omega⟩
theorem q_pri : Pri qN := pri_q
theorem q_odd : qN % 2 = 1 := by decide
theorem ws_zero {a b c d : Int} {x : Nat} (h : Ws a b c d x) (hv : V4 a b c d = 0) : x = 0 := by
 rw [h.val] at hv
 omega
theorem max_bl {a b : Nat} {n0 n1 n : Int} (ha : a ≤ qN) (hb : b ≤ qN) (h0 : n0 = ((bl a : Nat) : Int)) (h1 : n1 = ((bl b : Nat) : Int)) (hn : n = (if n1 > n0 then n1 else n0)) :
  (0 ≤ n ∧ n ≤ 256) ∧ a < 2 ^ n.toNat ∧ b < 2 ^ n.toNat ∧ (64 < n.toNat → 2 ^ (n.toNat - 1) ≤ a ∨ 2 ^ (n.toNat - 1) ≤ b) := by
 obtain ⟨a1, a2⟩ := bl_spec a
 obtain ⟨b1, b2⟩ := bl_spec b
 have la : bl a ≤ 254 := bl_le (by unfold qN at ha; omega)
 have lb : bl b ≤ 254 := bl_le (by unfold qN at hb; omega)
 have key : ∀ N, N = max (bl a) (bl b) → a < 2 ^ N ∧ b < 2 ^ N ∧ (64 < N → 2 ^ (N - 1) ≤ a ∨ 2 ^ (N - 1) ≤ b) := by
  intro N hN
  refine ⟨Nat.lt_of_lt_of_le a1 (Nat.pow_le_pow_right (by omega) (by omega)), Nat.lt_of_lt_of_le b1 (Nat.pow_le_pow_right (by omega) (by omega)), fun h => ?_⟩
  rcases Nat.le_total (bl a) (bl b) with hle | hle
  ·have : N = bl b := by omega
   rw [this]
   right
   omega
  ·have : N = bl a := by omega
   rw [this]
   left
   omega
 refine ⟨by split at hn <;> omega, key n.toNat (by split at hn <;> omega)⟩
def lgV (z : Nat) : Int := if z = 0 then 0 else J z qN
theorem lg_zero {z0 z1 z2 z3 : Int} {K : SV → Mem → Prop} (hz : Ws z0 z1 z2 z3 0) (hK : ∀ m, K (.int .i64 (.lit 0)) m) :
  execF cxLg (uLg (fun i => Ws i.a0 i.a1 i.a2 i.a3 0 ∧ Ws i.b0 i.b1 i.b2 i.b3 qN) (PrT 30)) Tryz.f56 64 [.ptr 1 (.lit 0)] (memL [(1, ⟨true, w4 z0 z1 z2 z3⟩)]) K := by
 rw [vc_lg]
 intro x0 g0 x1 g1 x2 g2 x3 g3
 rw [g0, g1, g2, g3]
 refine ⟨⟨⟨z0, z1, z2, z3, 4332616871279656263, 10917124144477883021, 13281191951274694749, 3486998266802970665, 1, 0, 0, 0, 0⟩, ⟨hz, q_ws⟩, rfl, ⟨rfl, rfl, rfl, rfl⟩, ⟨rfl, rfl, rfl, rfl⟩, rfl, rfl, rfl, rfl⟩, ?_⟩
 rintro i ⟨ha, hb⟩
 refine ⟨ha.wd, fun h => ?_, fun h => ⟨fun h1 => ?_, fun h1 => hK _⟩⟩
 ·have : VA i = 0 := ha.val
  rw [this] at h
  simp at h
 ·have e : i.b0 = lm qN 0 := hb.a
  rw [e] at h1
  exact absurd h1 (by decide)
theorem lg_walk {z : Nat} {z0 z1 z2 z3 : Int} {K : SV → Mem → Prop} (hz : El z0 z1 z2 z3 z) (h0 : z ≠ 0) (hK : ∀ l m, l = J z qN → K (.int .i64 (.sym l)) m) :
  execF cxLg (uLg (LgQ z) (PrT 30)) Tryz.f56 64 [.ptr 1 (.lit 0)] (memL [(1, ⟨true, w4 z0 z1 z2 z3⟩)]) K := by
 rw [vc_lg]
 intro x0 g0 x1 g1 x2 g2 x3 g3
 rw [g0, g1, g2, g3]
 have hzl := hz.lt
 refine ⟨⟨⟨z0, z1, z2, z3, 4332616871279656263, 10917124144477883021, 13281191951274694749, 3486998266802970665, 1, 0, 0, 0, 0⟩, ⟨z, qN, hz.ws, q_ws, .inr ⟨⟨by omega, Nat.le_refl _, q_odd, q_pri.cop (by omega) hzl⟩, .inl rfl, by rw [Int.one_mul]⟩⟩, rfl, ⟨rfl, rfl, rfl, rfl⟩, ⟨rfl, rfl, rfl, rfl⟩, rfl, rfl, rfl, rfl⟩, ?_⟩
 rintro i ⟨a, b, ha, hb, hS⟩
 have hS : (a ≤ qN ∧ b ≤ qN ∧ b % 2 = 1 ∧ Nat.Coprime b a) ∧ (i.l = 1 ∨ i.l = -1) ∧ J z qN = i.l * J a b := by
  rcases hS with h | h
  ·exact absurd h.1 h0
  ·exact h
 obtain ⟨⟨haq, hbq, hbo, hcop⟩, hl, hJ⟩ := hS
 have hva : VA i = a := ha.val
 have hvb : VB i = b := hb.val
 refine ⟨ha.wd, fun hne => ?_, fun he => ?_⟩
 ·have ha0 : 0 < a := by
   rw [hva] at hne
   simp only [Bool.not_eq_true', decide_eq_false_iff_not] at hne
   omega
  rw [hva, hvb]
  simp only [Int.toNat_natCast]
  refine ⟨ha.wd, fun n0 hn0 => ⟨hb.wd, fun n1 hn1 n hn => ?_⟩⟩
  obtain ⟨nb, hna, hnb, htop⟩ := max_bl haq hbq hn0 hn1 hn
  refine ⟨⟨ha.wd, nb, hna⟩, fun xa hxa => ⟨⟨hb.wd, nb, hnb⟩, fun xb hxb => ?_⟩⟩
  have exa : xa.toNat = apx 32 n.toNat a := by rw [hxa, Int.toNat_natCast]
  have exb : xb.toNat = apx 32 n.toNat b := by rw [hxb, Int.toNat_natCast]
  refine ⟨⟨⟨0, ⟨xa.toNat, xb.toNat, 1, 0, 0, 1⟩, i.l⟩, ⟨Nat.zero_le _, rfl, by rw [psgns, Int.mul_one]⟩, ⟨show 1 = pk 1 0 by decide, show 4294967296 = pk 0 1 by decide, rfl, by rw [hxa]; rfl, by rw [hxb]; rfl, rfl⟩, ⟨rfl, rfl, rfl, rfl⟩, ⟨rfl, rfl, rfl, rfl⟩, rfl, rfl, rfl, rfl⟩, ?_⟩
  rintro ⟨j, s, l⟩ hT
  have hT' := hT
  obtain ⟨hj, hs, hlj⟩ := hT'
  dsimp only at hj hs hlj ⊢
  rw [exa, exb] at hs hlj
  refine ⟨fun h => ?_, fun h => ?_⟩
  ·simp only [decide_eq_true_eq] at h
   have hlt := prun_lt (f := 1) (g := 0) (f' := 0) (g' := 1) (apx_lt (lo := 32) (by omega) hna) (apx_lt (lo := 32) (by omega) hnb) j
   rw [← hs] at hlt
   have hlp : l = 1 ∨ l = -1 := by
    rw [hlj]
    rcases hl with h | h <;> rcases psgns_pm ⟨apx 32 n.toNat a, apx 32 n.toNat b, 1, 0, 0, 1⟩ j with g | g <;> rw [h, g] <;> decide
   exact RoundP.of hT (by omega) (by decide) hlt.1 hlt.2 hlp ⟨⟨rfl, rfl, rfl, rfl⟩, ⟨rfl, rfl, rfl, rfl⟩, rfl, rfl, rfl, rfl⟩
  ·simp only [decide_eq_false_iff_not] at h
   have hj30 : j = 30 := by omega
   subst hj30
   obtain ⟨hL, A, B, hO⟩ := outer (lo := 32) (m := 30) (n := n.toNat) (a := a) (b := b) (by decide) (by decide) (by decide) htop hbo hcop
   rw [← hs] at hL hO
   exact AfterP.of ha hb haq hbq ha0 hl hJ hs hlj hL hO hna hnb
 ·have ha0 : a = 0 := by
   rw [hva] at he
   simp only [Bool.not_eq_false', decide_eq_true_eq] at he
   omega
  subst ha0
  obtain ⟨hb1, hk⟩ := K_zero hcop
  subst hb1
  have e0 : i.b0 = 1 := by rw [hb.a]; decide
  have e1 : i.b1 = 0 := by rw [hb.b]; decide
  have e2' : i.b2 = 0 := by rw [hb.c]; decide
  have e3 : i.b3 = 0 := by rw [hb.d]; decide
  have hl1 : i.l = J z qN := by
   rw [hJ, show J ((0 : Nat) : Int) 1 = 1 from rfl, Int.mul_one]
  rw [e0, e1, e2', e3]
  refine ⟨fun _ u hu v hv => ⟨fun _ => hK _ _ hl1, fun h => ?_⟩, fun h => absurd h (by decide)⟩
  have : v = 0 := by rw [hv, hu]; decide
  rw [this] at h
  exact absurd h (by decide)
def rLg : R0 := fun args l =>
 match args, l with
 | [.ptr 1 (.lit 0)], [(1, ⟨true, x⟩)] => r4 x fun a b c d => some (some ((Wd a ∧ Wd b ∧ Wd c ∧ Wd d) ∧ V4 a b c d < 21888242871839275222246405745257275088696311157297823662689037894645226208583), .int .i64 (.sym (lgV (V4 a b c d).toNat)))
 | _, _ => none
theorem lg_ok (args : List SV) (l : List (Nat × Reg)) (p : Ob) (v : SV) (h : rLg args l = some (p, v)) (hp : p.ok) : ∃ U, execF cxLg U Tryz.f56 64 args (memL l) fun v' _ => ∀ β u, Den β v' u → Den β v u := by
 unfold rLg at h
 split at h
 ·obtain ⟨a, b, c, d, rfl, q⟩ := r4_ex h
  simp only [Option.some.injEq, Prod.mk.injEq] at q
  obtain ⟨rfl, rfl⟩ := q
  obtain ⟨⟨ha, hb, hc, hd⟩, hlt⟩ : (Wd a ∧ Wd b ∧ Wd c ∧ Wd d) ∧ V4 a b c d < 21888242871839275222246405745257275088696311157297823662689037894645226208583 := hp
  have hz := El.of_words ha hb hc hd hlt
  by_cases h0 : (V4 a b c d).toNat = 0
  ·have hw := hz.ws
   rw [h0] at hw ⊢
   exact ⟨_, lg_zero hw fun m β u hu => by simpa [Den, A.val, lgV] using hu⟩
  ·exact ⟨_, lg_walk hz h0 fun l m hl β u hu => by
    have e : lgV (V4 a b c d).toNat = l := by unfold lgV; rw [if_neg h0, hl]
    rw [e]
    exact hu⟩
 ·cases h
def cLgd : Rd Tryz.prog := mkQ mixed 56 Tryz.func56 (by decide) (by kernel_rfl) [] [.ptr 4 true] rLg lg_ok
structure IvI where
 a0 : Int
 a1 : Int
 a2 : Int
 a3 : Int
 b0 : Int
 b1 : Int
 b2 : Int
 b3 : Int
 u0 : Int
 u1 : Int
 u2 : Int
 u3 : Int
 v0 : Int
 v1 : Int
 v2 : Int
 v3 : Int
 s0 : Int
 s1 : Int
 s2 : Int
 s3 : Int
 p0 : Int
 p1 : Int
 p2 : Int
 p3 : Int
 n : Int
def IvI.m (i : IvI) : Nat := 2 * ((V4 i.a0 i.a1 i.a2 i.a3).toNat + (V4 i.b0 i.b1 i.b2 i.b3).toNat) + (i.n % 2).toNat
def liIv (S : IvI → Prop) : LI where
 ι := IvI
 keep := [0, 1, 5, 6, 7, 15, 16]
 keepR := [1]
 F := fun i => ⟨[(10, .int .i64 (.sym i.p0)), (11, .int .i64 (.sym i.p1)), (12, .int .i64 (.sym i.p2)), (13, .int .i64 (.sym i.p3)), (14, .int .u64 (.sym i.n))],
  [(545, ⟨false, w4 i.a0 i.a1 i.a2 i.a3⟩), (569, ⟨false, w4 i.b0 i.b1 i.b2 i.b3⟩), (593, ⟨false, w4 i.u0 i.u1 i.u2 i.u3⟩), (665, ⟨false, w4 i.v0 i.v1 i.v2 i.v3⟩), (673, ⟨false, w4 i.s0 i.s1 i.s2 i.s3⟩)]⟩
 I := fun _ i => S i
 μ := fun i => i.m
structure PvI where
 j : Nat
 s : PS
def liPv (T : Int → Int → Nat → PS → Prop) : LI where
 ι := PvI
 keep := [0, 1, 5, 6, 7, 10, 11, 12, 13, 14, 15, 16]
 keepR := [1, 545, 569, 593, 665, 673]
 F := fun i => ⟨[(8, .int .i64 (.sym (pk i.s.f0 i.s.g0))), (9, .int .i64 (.sym (pk i.s.f1 i.s.g1))), (18, .int .u64 (.sym (i.s.x : Nat))), (19, .int .u64 (.sym (i.s.y : Nat))), (47, i64n i.j)], []⟩
 I := fun st i => T (st.int 18) (st.int 19) i.j i.s
 μ := fun i => 32 - i.j
structure WvI where
 v0 : Int
 v1 : Int
 v2 : Int
 v3 : Int
 n : Int
def liWv (W : WvI → Prop) : LI where
 ι := WvI
 keep := [0, 1, 5, 7, 15]
 keepR := [1, 545, 593]
 F := fun i => ⟨[(14, .int .u64 (.sym i.n))], [(665, ⟨false, w4 i.v0 i.v1 i.v2 i.v3⟩)]⟩
 I := fun _ i => W i
 μ := fun i => 18 - i.n.toNat
def uIv (S : IvI → Prop) (T : Int → Int → Nat → PS → Prop) (W : WvI → Prop) : Nat → Lp := fun n => match n with | 0 => .inv (liIv S) | 2 => .inv (liPv T) | 4 => .inv (liWv W) | _ => .un 0
structure IeI where
 n : Nat
 z0 : Int
 z1 : Int
 z2 : Int
 z3 : Int
def liIe (S : IeI → Prop) : LI where
 ι := IeI
 keep := [0, 3, 5]
 keepR := [513, 537]
 F := fun i => ⟨[(6, .int .i64 (.sym ((i.n : Nat) - 1)))], [(1, ⟨false, w4 i.z0 i.z1 i.z2 i.z3⟩)]⟩
 I := fun _ i => S i
 μ := fun i => i.n
def uIe (S : IeI → Prop) : Nat → Lp := fun n => match n with | 0 => .inv (liIe S) | _ => .un 0
def cxIe : Cx Tryz.prog := { rds := [], efs := [kSet, kSqr, kMulA], eqs := [] }
theorem vc_ie (S : IeI → Prop) (z0 z1 z2 z3 a0 a1 a2 a3 : Int) (K : SV → Mem → Prop) : (execF cxIe (uIe S) Tryz.f93 64 [.ptr 1 (.lit 0), .agg [.int .u64 (.sym a0), .int .u64 (.sym a1), .int .u64 (.sym a2), .int .u64 (.sym a3)]] (memL [(1,
 ⟨false, w4 z0 z1 z2 z3⟩)]) K) = ((∃ d : IeI, S d ∧ 252 = ((IeI.n d : Nat) : Int) - 1 ∧ (a0 = a0 ∧ a1 = a1 ∧ a2 = a2 ∧ a3 = a3) ∧ a0 = IeI.z0 d ∧ a1 = IeI.z1 d ∧ a2 = IeI.z2 d ∧ a3 = IeI.z3 d) ∧ ∀ a : IeI, S a → (decide (((IeI.n a : Nat) :
 Int) - 1 ≥ 0) = true → ∃ l m : Nat, (Ws (IeI.z0 a) (IeI.z1 a) (IeI.z2 a) (IeI.z3 a) l ∧ El (IeI.z0 a) (IeI.z1 a) (IeI.z2 a) (IeI.z3 a) m) ∧ ∀ n : Nat, n = mmul l m → ∀ f g h i : Int, El f g h i n → ∀ e, e = IntKind.wrap IntKind.i64
 (Int.tdiv (((IeI.n a : Nat) : Int) - 1) (64 : Int)) → (0 ≤ e ∧ e < 4) ∧ (Int.toNat e * 1 + 1 ≤ 4 ∧ ∀ o : Int, o = List.getD [(4332616871279656261 : Int), (10917124144477883021 : Int), (13281191951274694749 : Int), (3486998266802970665 :
 Int)] (Int.toNat e * 1) (0 : Int) → ∀ j, j = Int.tmod (((IeI.n a : Nat) : Int) - 1) (64 : Int) → (0 ≤ j ∧ ∀ p, p = shrv .u64 o (Int.toNat j) → ∀ k, k = band .u64 p (1 : Int) → ((k == 1) = true → ∃ q r : Nat, (Ws f g h i q ∧ El a0 a1 a2 a3
 r) ∧ ∀ s : Nat, s = mmul q r → ∀ t u v w : Int, El t u v w s → ∀ x, x = IntKind.wrap IntKind.i64 (((IeI.n a : Nat) : Int) - 1 - 1) → ∃ b : IeI, S b ∧ (x = ((IeI.n b : Nat) : Int) - 1 ∧ (a0 = a0 ∧ a1 = a1 ∧ a2 = a2 ∧ a3 = a3) ∧ t = IeI.z0 b
 ∧ u = IeI.z1 b ∧ v = IeI.z2 b ∧ w = IeI.z3 b) ∧ IeI.n b < IeI.n a) ∧ ((k == 1) = false → ∀ y, y = IntKind.wrap IntKind.i64 (((IeI.n a : Nat) : Int) - 1 - 1) → ∃ c : IeI, S c ∧ (y = ((IeI.n c : Nat) : Int) - 1 ∧ (a0 = a0 ∧ a1 = a1 ∧ a2 = a2
 ∧ a3 = a3) ∧ f = IeI.z0 c ∧ g = IeI.z1 c ∧ h = IeI.z2 c ∧ i = IeI.z3 c) ∧ IeI.n c < IeI.n a)))) ∧ (decide (((IeI.n a : Nat) : Int) - 1 ≥ 0) = false → K (.ptr 1 (.lit 0)) (memL [(1, ⟨false, .cells [.int .u64 (.sym (IeI.z0 a)), .int .u64
 (.sym (IeI.z1 a)), .int .u64 (.sym (IeI.z2 a)), .int .u64 (.sym (IeI.z3 a))]⟩), (513, ⟨false, .cells [.int .u64 (.sym a0), .int .u64 (.sym a1), .int .u64 (.sym a2), .int .u64 (.sym a3)]⟩), (537, ⟨false, .cells [.int .u64 (.lit
 4332616871279656261), .int .u64 (.lit 10917124144477883021), .int .u64 (.lit 13281191951274694749), .int .u64 (.lit 3486998266802970665)]⟩)]))) := by kernel_rfl
theorem word_bit {E p : Nat} : E / 2 ^ (64 * (p / 64)) % 2 ^ 64 / 2 ^ (p % 64) % 2 = E / 2 ^ p % 2 := by
 have e : 2 ^ p = 2 ^ (64 * (p / 64)) * 2 ^ (p % 64) := by rw [← Nat.pow_add]; congr 1; omega
 rw [e, ← Nat.div_div_eq_div_mul]
 generalize E / 2 ^ (64 * (p / 64)) = q
 have hs : p % 64 < 64 := Nat.mod_lt _ (by decide)
 generalize p % 64 = s at hs
 have e2 : (2 : Nat) ^ 64 = 2 ^ s * (2 * 2 ^ (63 - s)) := by rw [← Nat.pow_succ', ← Nat.pow_add]; congr 1; omega
 rw [e2, Nat.mod_mul_right_div_self, Nat.mod_mul_right_mod]
theorem bit_word {E p : Nat} (hp : p < 256) {x9 x10 x11 x12 x13 : Int} (h9 : x9 = IntKind.i64.wrap (Int.tdiv (p : Int) 64)) (h10 : x10 = [lm E 0, lm E 1, lm E 2, lm E 3].getD (x9.toNat * 1) 0) (h11 : x11 = Int.tmod (p : Int) 64) (h12 : x12 = shrv .u64 x10 x11.toNat) (h13 : x13 = band .u64 x12 1) :
  (0 ≤ x9 ∧ x9 < 4) ∧ 0 ≤ x11 ∧ x13 = ((E / 2 ^ p % 2 : Nat) : Int) := by
 rw [Int.tdiv_eq_ediv_of_nonneg (by omega), wrap64 (by omega) (by omega)] at h9
 rw [Int.tmod_eq_emod_of_nonneg (by omega)] at h11
 have e9 : x9.toNat = p / 64 := by omega
 have e11 : x11.toNat = p % 64 := by omega
 rw [e9, Nat.mul_one, lm_getD E _ (by omega), lm_nat] at h10
 rw [e11, h10, shr64 (Int.natCast_nonneg _) (by omega)] at h12
 have hlt : E / 2 ^ (64 * (p / 64)) % 2 ^ 64 / 2 ^ (p % 64) < 2 ^ 64 := Nat.lt_of_le_of_lt (Nat.div_le_self _ _) (Nat.mod_lt _ (Nat.pow_pos (by omega)))
 have e12 : x12 = ((E / 2 ^ (64 * (p / 64)) % 2 ^ 64 / 2 ^ (p % 64) : Nat) : Int) := by rw [h12, Int.natCast_ediv, Int.natCast_pow]; rfl
 refine ⟨by omega, by omega, ?_⟩
 rw [h13, e12, band_nat _ hlt (n := 1) (by omega) (by decide), Nat.pow_one, word_bit]
def qm2 : Nat := 21888242871839275222246405745257275088696311157297823662689037894645226208581
def IeQ (X : Nat) (i : IeI) : Prop := i.n ≤ 253 ∧ El i.z0 i.z1 i.z2 i.z3 (mont (X ^ (qm2 / 2 ^ i.n)))
theorem ie_walk {X : Nat} {z0 z1 z2 z3 a0 a1 a2 a3 : Int} {K : SV → Mem → Prop} (hx : El a0 a1 a2 a3 (mont X)) (hK : ∀ y0 y1 y2 y3, El y0 y1 y2 y3 (mont (X ^ qm2)) → ∀ g h, K (.ptr 1 (.lit 0)) (memL [(1, ⟨false, w4 y0 y1 y2 y3⟩), (513, g), (537, h)])) :
  execF cxIe (uIe (IeQ X)) Tryz.f93 64 [.ptr 1 (.lit 0), .agg [.int .u64 (.sym a0), .int .u64 (.sym a1), .int .u64 (.sym a2), .int .u64 (.sym a3)]] (memL [(1, ⟨false, w4 z0 z1 z2 z3⟩)]) K := by
 rw [vc_ie]
 have e253 : qm2 / 2 ^ 253 = 1 := by decide +kernel
 refine ⟨⟨⟨253, a0, a1, a2, a3⟩, ⟨Nat.le_refl _, ?_⟩, show (252 : Int) = ((253 : Nat) : Int) - 1 by decide, ⟨rfl, rfl, rfl, rfl⟩, rfl, rfl, rfl, rfl⟩, ?_⟩
 ·show El a0 a1 a2 a3 (mont (X ^ (qm2 / 2 ^ 253)))
  rw [e253, Nat.pow_one]
  exact hx
 rintro ⟨n, y0, y1, y2, y3⟩ ⟨hn, hz⟩
 dsimp only at hn hz ⊢
 refine ⟨fun h => ?_, fun h => ?_⟩
 ·simp only [decide_eq_true_eq] at h
  obtain ⟨p, rfl⟩ : ∃ p, n = p + 1 := ⟨n - 1, by omega⟩
  rw [show (((p + 1 : Nat) : Int) - 1) = (p : Int) by omega]
  refine ⟨_, _, ⟨hz.ws, hz⟩, ?_⟩
  intro r4 hr4 y05 y16 y27 y38 hy
  rw [mont_mul, ← Nat.pow_add] at hr4
  have eL : [(4332616871279656261 : Int), 10917124144477883021, 13281191951274694749, 3486998266802970665] = [lm qm2 0, lm qm2 1, lm qm2 2, lm qm2 3] := by decide +kernel
  intro x9 h9
  have bw := fun x10 x11 x12 x13 => bit_word (E := qm2) (p := p) (by omega) (x10 := x10) (x11 := x11) (x12 := x12) (x13 := x13) h9
  have b0 := bw _ _ _ _ rfl rfl rfl rfl
  refine ⟨b0.1, by omega, ?_⟩
  intro x10 h10 x11 h11
  rw [eL] at h10
  refine ⟨(bw x10 x11 _ _ h10 h11 rfl rfl).2.1, ?_⟩
  intro x12 h12 x13 h13
  obtain ⟨_, _, e13⟩ := bw x10 x11 x12 x13 h10 h11 h12 h13
  have eh : qm2 / 2 ^ p = 2 * (qm2 / 2 ^ (p + 1)) + qm2 / 2 ^ p % 2 := by
   rw [Nat.pow_succ, ← Nat.div_div_eq_div_mul]
   omega
  refine ⟨fun hb => ⟨_, _, ⟨hy.ws, hx⟩, ?_⟩, fun hb => ?_⟩
  ·have hb : x13 = 1 := by simpa using hb
   intro r16 hr16 w0 w1 w2 w3 hw x21 h21
   rw [wrap64 (by omega) (by omega)] at h21
   rw [hr4, mont_mul] at hr16
   refine ⟨⟨p, w0, w1, w2, w3⟩, ⟨by simp only; omega, ?_⟩, ⟨by simp only; omega, ⟨rfl, rfl, rfl, rfl⟩, rfl, rfl, rfl, rfl⟩, by simp only; omega⟩
   show El w0 w1 w2 w3 (mont (X ^ (qm2 / 2 ^ p)))
   rw [hr16, ← Nat.pow_succ] at hw
   rw [eh, show qm2 / 2 ^ p % 2 = 1 by omega, show 2 * (qm2 / 2 ^ (p + 1)) + 1 = qm2 / 2 ^ (p + 1) + qm2 / 2 ^ (p + 1) + 1 by omega]
   exact hw
  ·have hb : ¬ x13 = 1 := by simpa using hb
   intro x23 h23
   rw [wrap64 (by omega) (by omega)] at h23
   refine ⟨⟨p, y05, y16, y27, y38⟩, ⟨by simp only; omega, ?_⟩, ⟨by simp only; omega, ⟨rfl, rfl, rfl, rfl⟩, rfl, rfl, rfl, rfl⟩, by simp only; omega⟩
   show El y05 y16 y27 y38 (mont (X ^ (qm2 / 2 ^ p)))
   rw [hr4] at hy
   rw [eh, show qm2 / 2 ^ p % 2 = 0 by omega, show 2 * (qm2 / 2 ^ (p + 1)) + 0 = qm2 / 2 ^ (p + 1) + qm2 / 2 ^ (p + 1) by omega]
   exact hy
 ·simp only [decide_eq_false_iff_not] at h
  have hn0 : n = 0 := by omega
  subst hn0
  rw [Nat.pow_zero, Nat.div_one] at hz
  exact hK _ _ _ _ hz _ _
def IeR (X : Nat) (y0 y1 y2 y3 : Int) : Prop := El y0 y1 y2 y3 (mont (X ^ qm2))
def gIe : G0 := fun args l K =>
 match args, l with
 | [.ptr 1 (.lit 0), .agg [.int .u64 (.sym a0), .int .u64 (.sym a1), .int .u64 (.sym a2), .int .u64 (.sym a3)]], [(1, ⟨false, z⟩)] => c4 z fun _ _ _ _ => ∃ X, El a0 a1 a2 a3 (mont X) ∧ ∀ y0 y1 y2 y3, IeR X y0 y1 y2 y3 → K (.ptr 1 (.lit 0)) (memL [(1, ⟨false, w4 y0 y1 y2 y3⟩)])
 | _, _ => False
theorem ie_good : Good gIe := by
 constructor
 ·intro args l K K' hk h
  unfold gIe at h ⊢
  split at h
  ·exact c4_mono (fun _ _ _ _ h => h.elim fun X h => ⟨X, h.1, fun y0 y1 y2 y3 hy => hk _ _ (h.2 y0 y1 y2 y3 hy)⟩) h
  ·exact h.elim
 ·intro args l K h
  unfold gIe at h
  split at h
  ·obtain ⟨_, _, _, _, _, h⟩ := c4_ex h
   obtain ⟨X, _, h⟩ := h
   exact ⟨_, _, h _ _ _ _ (show IeR X _ _ _ _ from El.of (mont_lt _))⟩
  ·exact h.elim
theorem ie_ok (args : List SV) (l : List (Nat × Reg)) (K : SV → Mem → Prop) (hup : KUp K) (h : gIe args l K) : ∃ U, execF cxIe U Tryz.f93 64 args (memL l) K := by
 unfold gIe at h
 split at h
 ·rename_i a0 a1 a2 a3 zz
  obtain ⟨z0, z1, z2, z3, rfl, q0⟩ := c4_ex h
  obtain ⟨X, hx, hK⟩ := q0
  exact ⟨_, ie_walk hx fun y0 y1 y2 y3 hy g h => hup.le (memL_sub [1, 513, 537] rfl (by decide) (by
    intro x hx
    simp only [List.mem_cons, List.not_mem_nil, or_false] at hx ⊢
    simp [hx])) (hK y0 y1 y2 y3 hy)⟩
 ·exact h.elim
def kIe : Ef Tryz.prog := mkE mixed 93 Tryz.func93 (by decide) (by kernel_rfl) [] [.ptr 4 false, .num] gIe ie_good ie_ok
end Go.Sx
namespace Go.Sx
open Go Go.Proofs
def L4 (v : Nat) (P : Int → Int → Int → Int → Prop) : Prop := ∀ x0, x0 = lm v 0 → ∀ x1, x1 = lm v 1 → ∀ x2, x2 = lm v 2 → ∀ x3, x3 = lm v 3 → P x0 x1 x2 x3
def B4 (a b c d : Int) (P : Int → Int → Int → Int → Prop) : Prop := ∀ x0, x0 = a → ∀ x1, x1 = b → ∀ x2, x2 = c → ∀ x3, x3 = d → P x0 x1 x2 x3
def B1 (a : Int) (P : Int → Prop) : Prop := ∀ x, x = a → P x
def W4 (a b c d : Int) : Prop := Wd a ∧ Wd b ∧ Wd c ∧ Wd d
def Z4 (a b c d : Int) : Prop := a = 0 ∧ b = 0 ∧ c = 0 ∧ d = 0
def N4 (a b c d : Int) : Nat := (V4 a b c d).toNat
def A4 (a b c d e f g h : Int) : Nat := ((V4 a b c d + V4 e f g h) % 21888242871839275222246405745257275088696311157297823662689037894645226208583).toNat
def qI : Int := 21888242871839275222246405745257275088696311157297823662689037894645226208583
def U (x : Int) : SV := .int .u64 (.sym x)
theorem L4_eq (v : Nat) (P : Int → Int → Int → Int → Prop) : L4 v P = P (lm v 0) (lm v 1) (lm v 2) (lm v 3) := by unfold L4; simp only [forall_eq]
theorem B4_eq (a b c d : Int) (P : Int → Int → Int → Int → Prop) : B4 a b c d P = P a b c d := by unfold B4; simp only [forall_eq]
theorem B1_eq (a : Int) (P : Int → Prop) : B1 a P = P a := by unfold B1; simp only [forall_eq]
end Go.Sx
namespace Go.Sx
open Go Go.Proofs Go.Num
set_option maxRecDepth 100000
def cxIv : Cx Tryz.prog := { rds := [cBl, cIz, cIo, cApx, cUd, cSub], efs := [kLc, kNl, kLn, kMulA, kSet, kIe], eqs := [] }
def Q4 (a b c d : Int) : Prop := a = a ∧ b = b ∧ c = c ∧ d = d
def E4 (a b c d a' b' c' d' : Int) : Prop := a = a' ∧ b = b' ∧ c = c' ∧ d = d'
def IvLeaf (S : IvI → Prop) (i0 : IvI) (R : Prop) (p0 p1 p2 p3 n w0 w1 w2 w3 x0 x1 x2 x3 u0 u1 u2 u3 v0 v1 v2 v3 s0 s1 s2 s3 : Int) : Prop :=
 ∃ i : IvI, S i ∧ (((p0 = i.p0 ∧ p1 = i.p1 ∧ p2 = i.p2 ∧ p3 = i.p3 ∧ n = i.n) ∧ R ∧ E4 w0 w1 w2 w3 i.a0 i.a1 i.a2 i.a3 ∧ E4 x0 x1 x2 x3 i.b0 i.b1 i.b2 i.b3 ∧ E4 u0 u1 u2 u3 i.u0 i.u1 i.u2 i.u3 ∧ E4 v0 v1 v2 v3 i.v0 i.v1 i.v2 i.v3 ∧ E4 s0 s1 s2 s3 i.s0 i.s1 i.s2 i.s3) ∧ i.m < i0.m)
def IvTail (S : IvI → Prop) (i : IvI) (R : Prop) (y0 y1 y2 y3 c0 g0 f1 c1 w0 w1 w2 w3 x0 x1 x2 x3 : Int) : Prop :=
 ∀ t, t = band .u64 i.n 1 →
  ((t == 1) = true → ∀ h, h = IntKind.i64.wrap (c0 * i.p0) → ∀ h', h' = IntKind.i64.wrap (g0 * i.p1) → ∀ a, a = IntKind.i64.wrap (h + h') → ∀ h, h = IntKind.i64.wrap (c0 * i.p2) → ∀ h', h' = IntKind.i64.wrap (g0 * i.p3) → ∀ b, b = IntKind.i64.wrap (h + h') →
   ∀ h, h = IntKind.i64.wrap (f1 * i.p0) → ∀ h', h' = IntKind.i64.wrap (c1 * i.p1) → ∀ c, c = IntKind.i64.wrap (h + h') → ∀ h, h = IntKind.i64.wrap (f1 * i.p2) → ∀ h', h' = IntKind.i64.wrap (c1 * i.p3) → ∀ d, d = IntKind.i64.wrap (h + h') →
   ∀ q0, q0 = i.u0 → ∀ q1, q1 = i.u1 → ∀ q2, q2 = i.u2 → ∀ q3, q3 = i.u3 → ((W4 i.u0 i.u1 i.u2 i.u3 ∧ W4 i.v0 i.v1 i.v2 i.v3) ∧ I64 a ∧ I64 b) ∧ ∀ u0 u1 u2 u3, W4 u0 u1 u2 u3 → ((W4 q0 q1 q2 q3 ∧ W4 i.v0 i.v1 i.v2 i.v3) ∧ I64 c ∧ I64 d) ∧ ∀ v0 v1 v2 v3, W4 v0 v1 v2 v3 →
   ∀ n, n = IntKind.u64.wrap (i.n + 1) → IvLeaf S i R i.p0 i.p1 i.p2 i.p3 n w0 w1 w2 w3 x0 x1 x2 x3 u0 u1 u2 u3 v0 v1 v2 v3 q0 q1 q2 q3) ∧
  ((t == 1) = false → ∀ n, n = IntKind.u64.wrap (i.n + 1) → IvLeaf S i R c0 f1 g0 c1 n w0 w1 w2 w3 x0 x1 x2 x3 i.u0 i.u1 i.u2 i.u3 i.v0 i.v1 i.v2 i.v3 y0 y1 y2 y3)
def CombF (x0 x1 x2 x3 b0 b1 b2 b3 : Int) (p : Int) (K : Int → Int → Nat → Prop) : Prop :=
 ∀ f, f = udF p → ∀ g, g = udG p → ((W4 x0 x1 x2 x3 ∧ W4 b0 b1 b2 b3) ∧ I64 f ∧ I64 g) ∧ ∀ r, r = m5 (V4 x0 x1 x2 x3 * f + V4 b0 b1 b2 b3 * g) → K f g r
def SgSh (r : Nat) (f g : Int) (K : Int → Int → Int → Int → Int → Int → Prop) : Prop :=
 ∀ t, t = band .u64 (lm r 4) 9223372036854775808 → ((t != 0) = true → ∀ f', f' = IntKind.i64.wrap (0 - f) → ∀ g', g' = IntKind.i64.wrap (0 - g) → WdR r ∧ ∀ r', r' = NegW r → ShP r' 31 fun w0 w1 w2 w3 => K f' g' w0 w1 w2 w3) ∧
  ((t != 0) = false → ShP r 31 fun w0 w1 w2 w3 => K f g w0 w1 w2 w3)
def IvAfter (S : IvI → Prop) (i : IvI) (R : Prop) (p0 p1 : Int) : Prop :=
 ∀ y0, y0 = i.a0 → ∀ y1, y1 = i.a1 → ∀ y2, y2 = i.a2 → ∀ y3, y3 = i.a3 → CombF y0 y1 y2 y3 i.b0 i.b1 i.b2 i.b3 p0 fun f g r => SgSh r f g fun c0 g0 w0 w1 w2 w3 =>
  CombF y0 y1 y2 y3 i.b0 i.b1 i.b2 i.b3 p1 fun f g r => SgSh r f g fun f1 c1 x0 x1 x2 x3 => IvTail S i R y0 y1 y2 y3 c0 g0 f1 c1 w0 w1 w2 w3 x0 x1 x2 x3
def PvLeaf (T : Nat → PS → Prop) (i0 : IvI) (j : Nat) (R : Prop) (c0 c1 x y jn : Int) : Prop :=
 ∃ i : PvI, T i.j i.s ∧ (((i0.p0 = i0.p0 ∧ i0.p1 = i0.p1 ∧ i0.p2 = i0.p2 ∧ i0.p3 = i0.p3 ∧ i0.n = i0.n ∧ c0 = pk i.s.f0 i.s.g0 ∧ c1 = pk i.s.f1 i.s.g1 ∧ x = (i.s.x : Nat) ∧ y = (i.s.y : Nat) ∧ jn = (i.j : Nat)) ∧ R) ∧ 32 - i.j < 32 - j)
def PvEnd (T : Nat → PS → Prop) (i0 : IvI) (j : Nat) (R : Prop) (c0 cc x y : Int) : Prop :=
 ∀ c1, c1 = IntKind.i64.wrap (cc * 2) → ∀ jn, jn = IntKind.i64.wrap ((j : Int) + 1) → PvLeaf T i0 j R c0 c1 x y jn
def PvRound (T : Nat → PS → Prop) (i0 : IvI) (j : Nat) (R : Prop) (x y p0 p1 : Int) : Prop :=
 ∀ e, e = band .u64 x 1 → ((e == 0) = true → ∀ h, h = IntKind.u64.wrap (Int.tdiv x 2) → PvEnd T i0 j R p0 p1 h y) ∧
  ((e == 0) = false → (Wd x ∧ Wd y ∧ (0 : Int) ≤ 0 ∧ (0 : Int) ≤ 1) ∧ ∀ d, d = difLo x y 0 → ∀ b, b = difHi x y 0 →
   ((b == 1) = true → ∀ a, a = IntKind.u64.wrap (y - x) → ∀ h, h = IntKind.u64.wrap (Int.tdiv a 2) → ∀ c, c = IntKind.i64.wrap (p1 - p0) → PvEnd T i0 j R c p0 h x) ∧
   ((b == 1) = false → ∀ h, h = IntKind.u64.wrap (Int.tdiv d 2) → ∀ c, c = IntKind.i64.wrap (p0 - p1) → PvEnd T i0 j R c p1 h y))
def IvBody (S : IvI → Prop) (T : Int → Int → Nat → PS → Prop) (i : IvI) (R : Prop) : Prop :=
 W4 i.a0 i.a1 i.a2 i.a3 ∧ ∀ n0, n0 = ((bl (V4 i.a0 i.a1 i.a2 i.a3).toNat : Nat) : Int) → W4 i.b0 i.b1 i.b2 i.b3 ∧ ∀ n1, n1 = ((bl (V4 i.b0 i.b1 i.b2 i.b3).toNat : Nat) : Int) → ∀ n, n = (if n1 > n0 then n1 else n0) →
  (W4 i.a0 i.a1 i.a2 i.a3 ∧ (0 ≤ n ∧ n ≤ 256) ∧ (V4 i.a0 i.a1 i.a2 i.a3).toNat < 2 ^ n.toNat) ∧ ∀ xa, xa = ((apx 31 n.toNat (V4 i.a0 i.a1 i.a2 i.a3).toNat : Nat) : Int) →
  (W4 i.b0 i.b1 i.b2 i.b3 ∧ (0 ≤ n ∧ n ≤ 256) ∧ (V4 i.b0 i.b1 i.b2 i.b3).toNat < 2 ^ n.toNat) ∧ ∀ xb, xb = ((apx 31 n.toNat (V4 i.b0 i.b1 i.b2 i.b3).toNat : Nat) : Int) →
  (∃ k : PvI, T xa xb k.j k.s ∧ (i.p0 = i.p0 ∧ i.p1 = i.p1 ∧ i.p2 = i.p2 ∧ i.p3 = i.p3 ∧ i.n = i.n ∧ 1 = pk k.s.f0 k.s.g0 ∧ 4294967296 = pk k.s.f1 k.s.g1 ∧ xa = (k.s.x : Nat) ∧ xb = (k.s.y : Nat) ∧ 0 = ((k.j : Nat) : Int)) ∧
   R ∧ Q4 i.a0 i.a1 i.a2 i.a3 ∧ Q4 i.b0 i.b1 i.b2 i.b3 ∧ Q4 i.u0 i.u1 i.u2 i.u3 ∧ Q4 i.v0 i.v1 i.v2 i.v3 ∧ Q4 i.s0 i.s1 i.s2 i.s3) ∧
  ∀ k : PvI, T xa xb k.j k.s →
   (decide (((k.j : Nat) : Int) < 31) = true → PvRound (T xa xb) i k.j (R ∧ Q4 i.a0 i.a1 i.a2 i.a3 ∧ Q4 i.b0 i.b1 i.b2 i.b3 ∧ Q4 i.u0 i.u1 i.u2 i.u3 ∧ Q4 i.v0 i.v1 i.v2 i.v3 ∧ Q4 i.s0 i.s1 i.s2 i.s3) (k.s.x : Nat) (k.s.y : Nat) (pk k.s.f0 k.s.g0) (pk k.s.f1 k.s.g1)) ∧
   (decide (((k.j : Nat) : Int) < 31) = false → IvAfter S i R (pk k.s.f0 k.s.g0) (pk k.s.f1 k.s.g1))
def IvExit (W : WvI → Prop) (i : IvI) (R : Prop) (a0 a1 a2 a3 : Int) (K : SV → Mem → Prop) : Prop :=
 (∃ k : WvI, W k ∧ i.n = k.n ∧ R ∧ Q4 i.u0 i.u1 i.u2 i.u3 ∧ E4 i.v0 i.v1 i.v2 i.v3 k.v0 k.v1 k.v2 k.v3) ∧
 ∀ k : WvI, W k →
  (decide (k.n < 18) = true → ∃ x y, (Ws k.v0 k.v1 k.v2 k.v3 x ∧ El 4611686018427387904 0 0 0 y) ∧ ∀ r, r = mmul x y → ∀ y0 y1 y2 y3, El y0 y1 y2 y3 r → ∀ n, n = IntKind.u64.wrap (k.n + 2) →
   ∃ k' : WvI, W k' ∧ ((n = k'.n ∧ R ∧ Q4 i.u0 i.u1 i.u2 i.u3 ∧ E4 y0 y1 y2 y3 k'.v0 k'.v1 k'.v2 k'.v3) ∧ 18 - k'.n.toNat < 18 - k.n.toNat)) ∧
  (decide (k.n < 18) = false → ∃ x y, (Ws k.v0 k.v1 k.v2 k.v3 x ∧ El 11111708840330028223 3098618286181893933 756602578711705709 1041752015607019851 y) ∧ ∀ r, r = mmul x y → ∀ y0 y1 y2 y3, El y0 y1 y2 y3 r →
   ∃ x y, (Ws a0 a1 a2 a3 x ∧ El y0 y1 y2 y3 y) ∧ ∀ r, r = mmul x y → ∀ v0 v1 v2 v3, El v0 v1 v2 v3 r → W4 v0 v1 v2 v3 ∧
    ((!decide (V4 v0 v1 v2 v3 = one4)) = true → W4 a0 a1 a2 a3 ∧
     ((!decide (V4 a0 a1 a2 a3 = 0)) = true → ∀ x0, x0 = a0 → ∀ x1, x1 = a1 → ∀ x2, x2 = a2 → ∀ x3, x3 = a3 → ∃ X, El x0 x1 x2 x3 (mont X) ∧ ∀ w0 w1 w2 w3, IeR X w0 w1 w2 w3 →
      K (.ptr 1 (.lit 0)) (memL [(1, ⟨false, w4 w0 w1 w2 w3⟩), (545, ⟨false, .cells [.int .u64 (.lit 4611686018427387904), .int .u64 (.lit 0), .int .u64 (.lit 0), .int .u64 (.lit 0)]⟩), (593, ⟨false, w4 a0 a1 a2 a3⟩), (665, ⟨false, w4 v0 v1 v2 v3⟩),
       (809, ⟨false, .cells [.int .u64 (.lit 11111708840330028223), .int .u64 (.lit 3098618286181893933), .int .u64 (.lit 756602578711705709), .int .u64 (.lit 1041752015607019851)]⟩)])) ∧
     ((!decide (V4 a0 a1 a2 a3 = 0)) = false → K (.ptr 1 (.lit 0)) (memL [(1, ⟨false, w4 y0 y1 y2 y3⟩), (545, ⟨false, .cells [.int .u64 (.lit 4611686018427387904), .int .u64 (.lit 0), .int .u64 (.lit 0), .int .u64 (.lit 0)]⟩), (593, ⟨false, w4 a0 a1 a2 a3⟩), (665, ⟨false, w4 v0 v1 v2 v3⟩),
       (809, ⟨false, .cells [.int .u64 (.lit 11111708840330028223), .int .u64 (.lit 3098618286181893933), .int .u64 (.lit 756602578711705709), .int .u64 (.lit 1041752015607019851)]⟩)]))) ∧
    ((!decide (V4 v0 v1 v2 v3 = one4)) = false → K (.ptr 1 (.lit 0)) (memL [(1, ⟨false, w4 y0 y1 y2 y3⟩), (545, ⟨false, .cells [.int .u64 (.lit 4611686018427387904), .int .u64 (.lit 0), .int .u64 (.lit 0), .int .u64 (.lit 0)]⟩), (593, ⟨false, w4 a0 a1 a2 a3⟩), (665, ⟨false, w4 v0 v1 v2 v3⟩),
       (809, ⟨false, .cells [.int .u64 (.lit 11111708840330028223), .int .u64 (.lit 3098618286181893933), .int .u64 (.lit 756602578711705709), .int .u64 (.lit 1041752015607019851)]⟩)])))
theorem vc_iv (S : IvI → Prop) (T : Int → Int → Nat → PS → Prop) (W : WvI → Prop) (a0 a1 a2 a3 : Int) (K : SV → Mem → Prop) : (execF cxIv (uIv S T W) Tryz.f54 64 [.ptr 1 (.lit 0), .ptr 1 (.lit 0)] (memL [(1, ⟨false, w4 a0 a1 a2 a3⟩)]) K) =
 (∀ x0, x0 = a0 → ∀ x1, x1 = a1 → ∀ x2, x2 = a2 → ∀ x3, x3 = a3 →
  (∃ i : IvI, S i ∧ (0 = i.p0 ∧ 0 = i.p1 ∧ 0 = i.p2 ∧ 0 = i.p3 ∧ 0 = i.n) ∧ Q4 a0 a1 a2 a3 ∧ E4 x0 x1 x2 x3 i.a0 i.a1 i.a2 i.a3 ∧ E4 4332616871279656263 10917124144477883021 13281191951274694749 3486998266802970665 i.b0 i.b1 i.b2 i.b3 ∧
   E4 1 0 0 0 i.u0 i.u1 i.u2 i.u3 ∧ E4 0 0 0 0 i.v0 i.v1 i.v2 i.v3 ∧ E4 0 0 0 0 i.s0 i.s1 i.s2 i.s3) ∧
  ∀ i : IvI, S i → ∀ e, e = band .u64 i.n 1 →
   ((e == 1) = true → IvBody S T i (Q4 a0 a1 a2 a3)) ∧
   ((e == 1) = false → W4 i.a0 i.a1 i.a2 i.a3 ∧
    ((!decide (V4 i.a0 i.a1 i.a2 i.a3 = 0)) = true → IvBody S T i (Q4 a0 a1 a2 a3)) ∧
    ((!decide (V4 i.a0 i.a1 i.a2 i.a3 = 0)) = false → IvExit W i (Q4 a0 a1 a2 a3) a0 a1 a2 a3 K))) := by kernel_rfl
def PvT (m : Nat) (x0 y0 : Int) (j : Nat) (s : PS) : Prop := j ≤ m ∧ s = prun j ⟨x0.toNat, y0.toNat, 1, 0, 0, 1⟩
theorem PvEnd.of {m j : Nat} {xa xb : Int} {s : PS} {i0 : IvI} {R : Prop} {c0 cc x y : Int} (hT : PvT m xa xb j s) (hj : j < m) (hm : m ≤ 31) (h0 : c0 = pk (pstep s).f0 (pstep s).g0) (h1 : IntKind.i64.wrap (cc * 2) = pk (pstep s).f1 (pstep s).g1)
  (h3 : x = ((pstep s).x : Nat)) (h4 : y = ((pstep s).y : Nat)) (hR : R) : PvEnd (PvT m xa xb) i0 j R c0 cc x y := by
 intro c1 hc jn hjn
 rw [wrap64 (by omega) (by omega)] at hjn
 obtain ⟨_, hs⟩ := hT
 refine ⟨⟨j + 1, pstep s⟩, ⟨hj, ?_⟩, ⟨⟨rfl, rfl, rfl, rfl, rfl, h0, by rw [hc, h1], h3, h4, by simp only; omega⟩, hR⟩, by simp only; omega⟩
 simp only
 rw [prun, ← hs]
theorem PvRound.of {m j : Nat} {xa xb : Int} {s : PS} {i0 : IvI} {R : Prop} (hT : PvT m xa xb j s) (hj : j < m) (hm : m ≤ 31) (hx : s.x < 2 ^ 64) (hy : s.y < 2 ^ 64) (hR : R) :
  PvRound (PvT m xa xb) i0 j R (s.x : Nat) (s.y : Nat) (pk s.f0 s.g0) (pk s.f1 s.g1) := by
 intro e he
 rw [band_nat s.x hx (n := 1) (by omega) (by decide)] at he
 simp only [beq_iff_eq, beq_eq_false_iff_ne, ne_eq]
 refine ⟨fun h0 h hh => ?_, fun h0 => ⟨⟨wd_nat hx, wd_nat hy, Int.le_refl _, by decide⟩, fun d hd b hb => ⟨fun h1 => ?_, fun h1 => ?_⟩⟩⟩
 ·have hx2 : s.x % 2 = 0 := by omega
  have ep : pstep s = ⟨s.x / 2, s.y, s.f0, s.g0, 2 * s.f1, 2 * s.g1⟩ := by unfold pstep; rw [if_pos hx2]
  exact PvEnd.of hT hj hm (by rw [ep]) (by rw [ep, pk_dbl]) (by rw [ep]; exact half_nat hx hh) (by rw [ep]) hR
 ·have hx2 : s.x % 2 = 1 := by omega
  have hlt : s.x < s.y := by
   unfold difHi at hb
   split at hb <;> omega
  have ep : pstep s = ⟨(s.y - s.x) / 2, s.x, s.f1 - s.f0, s.g1 - s.g0, 2 * s.f0, 2 * s.g0⟩ := by unfold pstep; rw [if_neg (by omega), if_pos hlt]
  intro a ha h hh c hc
  have ea : a = ((s.y - s.x : Nat) : Int) := by rw [ha, wu64]; omega
  rw [ea] at hh
  exact PvEnd.of hT hj hm (by rw [ep, hc, pk_dif]) (by rw [ep, pk_dbl]) (by rw [ep]; exact half_nat (by omega) hh) (by rw [ep]) hR
 ·have hx2 : s.x % 2 = 1 := by omega
  have hge : ¬ s.x < s.y := by
   unfold difHi at hb
   split at hb <;> omega
  have ep : pstep s = ⟨(s.x - s.y) / 2, s.y, s.f0 - s.f1, s.g0 - s.g1, 2 * s.f1, 2 * s.g1⟩ := by unfold pstep; rw [if_neg (by omega), if_neg hge]
  intro h hh c hc
  have ed : d = ((s.x - s.y : Nat) : Int) := by rw [hd]; unfold difLo; omega
  rw [ed] at hh
  exact PvEnd.of hT hj hm (by rw [ep, hc, pk_dif]) (by rw [ep, pk_dbl]) (by rw [ep]; exact half_nat (by omega) hh) (by rw [ep]) hR
theorem wrap_i64r (y : Int) : I64 (IntKind.i64.wrap y) := by
 rw [wrap64_eq]
 unfold I64
 split <;> omega
theorem wd_wrap (y : Int) : Wd (IntKind.u64.wrap y) := by rw [wu64]; unfold Wd; omega
def IvQ (i : IvI) : Prop :=
 ∃ a b, Ws i.a0 i.a1 i.a2 i.a3 a ∧ Ws i.b0 i.b1 i.b2 i.b3 b ∧ (a ≤ qN ∧ b ≤ qN ∧ b % 2 = 1 ∧ Nat.Coprime b a) ∧ W4 i.u0 i.u1 i.u2 i.u3 ∧ W4 i.v0 i.v1 i.v2 i.v3 ∧ Wd i.n
theorem CombF.of {x0 x1 x2 x3 b0 b1 b2 b3 f g : Int} {a b : Nat} {K : Int → Int → Nat → Prop} (hx : Ws x0 x1 x2 x3 a) (hb : Ws b0 b1 b2 b3 b) (hf : -2147483648 < f ∧ f ≤ 2147483648) (hg : -2147483648 < g ∧ g ≤ 2147483648) (h : ∀ r, r = m5 (f * a + g * b) → K f g r) : CombF x0 x1 x2 x3 b0 b1 b2 b3 (pk f g) K := by
 obtain ⟨ef, eg⟩ := ud_of hf.1 hf.2 hg.1 hg.2
 intro f' hf' g' hg'
 have e1 : f' = f := hf'.trans ef
 have e2 : g' = g := hg'.trans eg
 rw [e1, e2]
 refine ⟨⟨⟨hx.wd, hb.wd⟩, by unfold I64; omega, by unfold I64; omega⟩, fun r hr => h r ?_⟩
 rw [hr, hx.val, hb.val, Int.mul_comm f, Int.mul_comm g]
theorem SgSh.of {r : Nat} {f g A z : Int} {K : Int → Int → Int → Int → Int → Int → Prop} (hz : ((2 ^ 31 : Nat) : Int) * A = z) (hA : A.natAbs ≤ qN) (hr : r = m5 z) (h : ∀ f' g', K f' g' (lm A.natAbs 0) (lm A.natAbs 1) (lm A.natAbs 2) (lm A.natAbs 3)) : SgSh r f g K := by
 intro t ht
 obtain ⟨q1, q2, q3, q4⟩ := sign_of hz (by decide) (by unfold qN at hA; omega) hr ht
 simp only [bne_iff_ne, bne_eq_false_iff_eq, ne_eq]
 refine ⟨fun h' f' _ g' _ => ⟨wdr r, fun r' hr' => ShP.of (by decide) (by decide) ?_⟩, fun h' => ShP.of (by decide) (by decide) ?_⟩
 ·rw [hr', q2 (q1.1 h')]
  exact h _ _
 ·have hAn : ¬ A < 0 := fun c => (q1.2 c) h'
  rw [q3 (by omega)]
  exact h _ _
theorem IvAfter.of {a b n : Nat} {i : IvI} {R : Prop} {s : PS} {A B : Int} (hR : R) (ha : Ws i.a0 i.a1 i.a2 i.a3 a) (hb : Ws i.b0 i.b1 i.b2 i.b3 b) (haq : a ≤ qN) (hbq : b ≤ qN) (hu : W4 i.u0 i.u1 i.u2 i.u3) (hv : W4 i.v0 i.v1 i.v2 i.v3) (hn : Wd i.n)
  (hmeas : A.natAbs + B.natAbs < a + b ∨ (A.natAbs + B.natAbs ≤ a + b ∧ i.n % 2 = 1)) (hL : Lin (2 ^ 31) (apx 31 n a) (apx 31 n b) s) (hO : Num.Out 31 31 n a b s A B) :
  IvAfter IvQ i R (pk s.f0 s.g0) (pk s.f1 s.g1) := by
 obtain ⟨⟨f0b, g0b⟩, f1b, g1b⟩ := fac_bd (f := 0) (g := 0) hL (by decide)
 obtain ⟨hAle, hBle⟩ := hO.le qN haq hbq
 have wa : Ws (lm A.natAbs 0) (lm A.natAbs 1) (lm A.natAbs 2) (lm A.natAbs 3) A.natAbs := ws_lm (by unfold qN at hAle; omega)
 have wb : Ws (lm B.natAbs 0) (lm B.natAbs 1) (lm B.natAbs 2) (lm B.natAbs 3) B.natAbs := ws_lm (by unfold qN at hBle; omega)
 have leaf : ∀ p0 p1 p2 p3 n' u0 u1 u2 u3 v0 v1 v2 v3 s0 s1 s2 s3 : Int, n' = IntKind.u64.wrap (i.n + 1) → W4 u0 u1 u2 u3 → W4 v0 v1 v2 v3 →
   IvLeaf IvQ i R p0 p1 p2 p3 n' (lm A.natAbs 0) (lm A.natAbs 1) (lm A.natAbs 2) (lm A.natAbs 3) (lm B.natAbs 0) (lm B.natAbs 1) (lm B.natAbs 2) (lm B.natAbs 3) u0 u1 u2 u3 v0 v1 v2 v3 s0 s1 s2 s3 := by
  intro p0 p1 p2 p3 n' u0 u1 u2 u3 v0 v1 v2 v3 s0 s1 s2 s3 hn' hu' hv'
  refine ⟨⟨lm A.natAbs 0, lm A.natAbs 1, lm A.natAbs 2, lm A.natAbs 3, lm B.natAbs 0, lm B.natAbs 1, lm B.natAbs 2, lm B.natAbs 3, u0, u1, u2, u3, v0, v1, v2, v3, s0, s1, s2, s3, p0, p1, p2, p3, n'⟩,
   ⟨A.natAbs, B.natAbs, wa, wb, ⟨hAle, hBle, hO.odd, hO.cop⟩, hu', hv', by rw [hn']; exact wd_wrap _⟩,
   ⟨⟨rfl, rfl, rfl, rfl, rfl⟩, hR, ⟨rfl, rfl, rfl, rfl⟩, ⟨rfl, rfl, rfl, rfl⟩, ⟨rfl, rfl, rfl, rfl⟩, ⟨rfl, rfl, rfl, rfl⟩, rfl, rfl, rfl, rfl⟩, ?_⟩
  unfold IvI.m
  simp only
  rw [wa.val, wb.val, ha.val, hb.val, hn', wu64]
  simp only [Int.toNat_natCast]
  unfold Wd at hn
  omega
 rintro _ rfl _ rfl _ rfl _ rfl
 refine CombF.of ha hb f0b g0b fun r hr => SgSh.of hO.ra hAle hr fun c0 g0 => ?_
 refine CombF.of ha hb f1b g1b fun r hr => SgSh.of hO.rb hBle hr fun f1 c1 => ?_
 intro t ht
 refine ⟨fun _ => ?_, fun _ n' hn' => leaf _ _ _ _ n' _ _ _ _ _ _ _ _ _ _ _ _ hn' hu hv⟩
 intro h0 e0 h1 e1 a' ea h2 e2' h3 e3 b' eb h4 e4' h5 e5 c' ec h6 e6 h7 e7 d' ed q0 eq0 q1 eq1 q2 eq2 q3 eq3
 rw [eq0, eq1, eq2, eq3]
 refine ⟨⟨⟨hu, hv⟩, by rw [ea]; exact wrap_i64r _, by rw [eb]; exact wrap_i64r _⟩, fun u0 u1 u2 u3 hu' => ⟨⟨⟨hu, hv⟩, by rw [ec]; exact wrap_i64r _, by rw [ed]; exact wrap_i64r _⟩, fun v0 v1 v2 v3 hv' n' hn' => leaf _ _ _ _ n' _ _ _ _ _ _ _ _ _ _ _ _ hn' hu' hv'⟩⟩
theorem IvBody.of {i : IvI} {R : Prop} (hR : R) (hQ : IvQ i) (hc : i.n % 2 = 1 ∨ V4 i.a0 i.a1 i.a2 i.a3 ≠ 0) : IvBody IvQ (PvT 31) i R := by
 obtain ⟨a, b, ha, hb, ⟨haq, hbq, hbo, hcop⟩, hu, hv, hn⟩ := hQ
 have hva := ha.val
 have hvb := hb.val
 unfold IvBody
 rw [hva] at hc
 rw [hva, hvb]
 simp only [Int.toNat_natCast]
 refine ⟨ha.wd, fun n0 hn0 => ⟨hb.wd, fun n1 hn1 n hn' => ?_⟩⟩
 obtain ⟨nb, hna, hnb, htop⟩ := max_bl haq hbq hn0 hn1 hn'
 refine ⟨⟨ha.wd, nb, hna⟩, fun xa hxa => ⟨⟨hb.wd, nb, hnb⟩, fun xb hxb => ?_⟩⟩
 have exa : xa.toNat = apx 31 n.toNat a := by rw [hxa, Int.toNat_natCast]
 have exb : xb.toNat = apx 31 n.toNat b := by rw [hxb, Int.toNat_natCast]
 have hRR : R ∧ Q4 i.a0 i.a1 i.a2 i.a3 ∧ Q4 i.b0 i.b1 i.b2 i.b3 ∧ Q4 i.u0 i.u1 i.u2 i.u3 ∧ Q4 i.v0 i.v1 i.v2 i.v3 ∧ Q4 i.s0 i.s1 i.s2 i.s3 :=
  ⟨hR, ⟨rfl, rfl, rfl, rfl⟩, ⟨rfl, rfl, rfl, rfl⟩, ⟨rfl, rfl, rfl, rfl⟩, ⟨rfl, rfl, rfl, rfl⟩, rfl, rfl, rfl, rfl⟩
 refine ⟨⟨⟨0, ⟨xa.toNat, xb.toNat, 1, 0, 0, 1⟩⟩, ⟨Nat.zero_le _, rfl⟩, ⟨trivial, trivial, trivial, trivial, trivial, show 1 = pk 1 0 by decide, show 4294967296 = pk 0 1 by decide, by rw [hxa]; rfl, by rw [hxb]; rfl, rfl⟩, hRR⟩, ?_⟩
 rintro ⟨j, s⟩ hT
 have hT' := hT
 obtain ⟨hj, hs⟩ := hT'
 dsimp only at hj hs ⊢
 rw [exa, exb] at hs
 refine ⟨fun h => ?_, fun h => ?_⟩
 ·simp only [decide_eq_true_eq] at h
  have hlt := prun_lt (f := 1) (g := 0) (f' := 0) (g' := 1) (apx_lt (lo := 31) (by omega) hna) (apx_lt (lo := 31) (by omega) hnb) j
  rw [← hs] at hlt
  exact PvRound.of hT (by omega) (by decide) hlt.1 hlt.2 hRR
 ·simp only [decide_eq_false_iff_not] at h
  have hj31 : j = 31 := by omega
  subst hj31
  obtain ⟨hL, A, B, hO⟩ := outer (lo := 31) (m := 31) (n := n.toNat) (a := a) (b := b) (by decide) (by decide) (by decide) htop hbo hcop
  rw [← hs] at hL hO
  refine IvAfter.of hR ha hb haq hbq hu hv hn ?_ hL hO
  by_cases ha0 : 0 < a
  ·exact .inl (hO.dec ha0)
  ·right
   have a0 : a = 0 := by omega
   subst a0
   have hn2 : i.n % 2 = 1 := by
    rcases hc with h | h
    ·exact h
    ·exact absurd rfl h
   obtain ⟨hb1, _⟩ := K_zero hcop
   subst hb1
   obtain ⟨_, hB1⟩ := hO.le 1 (by omega) (by omega)
   have en : n.toNat ≤ 64 := by
    have h0 : bl 0 = 0 := by decide
    have h1 : bl 1 = 1 := by decide
    rw [h0] at hn0
    rw [h1] at hn1
    split at hn' <;> omega
   have e0 : apx 31 n.toNat 0 = 0 := by unfold apx; rw [if_pos en]
   have e1 : apx 31 n.toNat 1 = 1 := by unfold apx; rw [if_pos en]
   have hA : A = 0 := by
    have hra := hO.ra
    have hsum := hL.sum
    have hod := hL.odd
    rw [e0, e1] at hsum
    rcases hsum with ⟨h1, h2, _, _⟩ | h
    ·rw [h1, h2] at hra
     have : ((2 ^ 31 : Nat) : Int) * A = 0 := by rw [hra]; simp
     rcases Int.mul_eq_zero.1 this with h | h
     ·exact absurd h (by decide)
     ·exact h
    ·omega
   refine ⟨?_, hn2⟩
   rw [hA]
   show 0 + B.natAbs ≤ 0 + 1
   omega
def IvR (X : Nat) (y0 y1 y2 y3 : Int) : Prop := ∃ Y, El y0 y1 y2 y3 (mont Y) ∧ Y < qN ∧ (X % qN = 0 → Y = 0) ∧ (X % qN ≠ 0 → X * Y % qN = 1)
theorem mont_of {r : Nat} (h : r < qN) : mont (mmul r 1) = r := by
 unfold mont mmul
 rw [Nat.mul_one]
 have e : r * rInv % qN * r2N * rInv % qN = r * (r2N * rInv * rInv) % qN := by
  have e2 : r * rInv * (r2N * rInv) = r * (r2N * rInv * rInv) := by simp only [Nat.mul_left_comm, Nat.mul_comm]
  rw [Nat.mul_assoc (r * rInv % qN), Nat.mod_mul_mod, e2]
 rw [e, Nat.mul_mod, one_eq, Nat.mul_one, Nat.mod_mod, Nat.mod_eq_of_lt h]
theorem one4_eq : one4 = ((mont 1 : Nat) : Int) := by decide +kernel
theorem mont_inj {x y : Nat} (h : mont x = mont y) : x % qN = y % qN := by rw [← mont_back x, ← mont_back y, h]
def WvQ (x : Nat) (k : WvI) : Prop := W4 k.v0 k.v1 k.v2 k.v3 ∧ Wd k.n ∧ (x = 0 → Ws k.v0 k.v1 k.v2 k.v3 0)
theorem mmul_zero (y : Nat) : mmul 0 y = 0 := by unfold mmul; simp
theorem IvExit.of {X : Nat} {i : IvI} {R : Prop} {a0 a1 a2 a3 : Int} {K : SV → Mem → Prop} (hR : R) (hx : El a0 a1 a2 a3 (mont X)) (hv : W4 i.v0 i.v1 i.v2 i.v3) (hn : Wd i.n) (hz : mont X = 0 → Ws i.v0 i.v1 i.v2 i.v3 0)
  (hK : ∀ y0 y1 y2 y3, IvR X y0 y1 y2 y3 → ∀ g1 g2 g3 g4, K (.ptr 1 (.lit 0)) (memL [(1, ⟨false, w4 y0 y1 y2 y3⟩), (545, g1), (593, g2), (665, g3), (809, g4)])) : IvExit (WvQ (mont X)) i R a0 a1 a2 a3 K := by
 have hp : El 4611686018427387904 0 0 0 4611686018427387904 := ⟨by decide, by decide, by decide, by decide, by decide⟩
 refine ⟨⟨⟨i.v0, i.v1, i.v2, i.v3, i.n⟩, ⟨hv, hn, hz⟩, rfl, hR, ⟨rfl, rfl, rfl, rfl⟩, rfl, rfl, rfl, rfl⟩, ?_⟩
 rintro ⟨v0, v1, v2, v3, n⟩ ⟨hv, hn, hz⟩
 dsimp only at hv hn hz ⊢
 have wv := ws_of hv.1 hv.2.1 hv.2.2.1 hv.2.2.2
 refine ⟨fun h => ⟨_, _, ⟨wv, hp⟩, fun r hr y0 y1 y2 y3 hy n' hn' => ?_⟩, fun h => ?_⟩
 ·simp only [decide_eq_true_eq] at h
  unfold Wd at hn
  rw [wu64] at hn'
  refine ⟨⟨y0, y1, y2, y3, n'⟩, ⟨hy.wd, by simp only; unfold Wd; omega, fun h0 => ?_⟩, ⟨rfl, hR, ⟨rfl, rfl, rfl, rfl⟩, rfl, rfl, rfl, rfl⟩, by simp only; omega⟩
  have hv0 := (hz h0).val
  rw [hv0] at hr
  have e : r = 0 := by rw [hr]; exact mmul_zero _
  rw [e] at hy
  exact hy.ws
 ·have hcw := El.of_words (a := 11111708840330028223) (b := 3098618286181893933) (c := 756602578711705709) (d := 1041752015607019851) (by unfold Wd; omega) (by unfold Wd; omega) (by unfold Wd; omega) (by unfold Wd; omega) (by unfold V4; omega)
  refine ⟨_, _, ⟨wv, hcw⟩, fun r hr y0 y1 y2 y3 hy => ⟨_, _, ⟨hx.ws, hy⟩, fun r2 hr2 u0 u1 u2 u3 hu => ⟨hu.wd, fun hne => ⟨hx.wd, fun hx0 => ?_, fun hx0 => ?_⟩, fun heq => ?_⟩⟩⟩
  ·rintro _ rfl _ rfl _ rfl _ rfl
   refine ⟨X, hx, fun w0 w1 w2 w3 hw => hK _ _ _ _ ⟨X ^ qm2 % qN, by rw [mont_mod]; exact hw, Nat.mod_lt _ (by decide), ?_, ?_⟩ _ _ _ _⟩
   ·intro h0
    exfalso
    rw [hx.val] at hx0
    have : mont X = 0 := by rw [← mont_mod, h0, mont_zero]
    rw [this] at hx0
    simp at hx0
   ·intro h0
    have hf := fermat q_pri h0
    rw [Nat.mul_mod_mod, Nat.mul_comm, ← Nat.pow_succ]
    exact hf
  ·rw [hx.val] at hx0
   have hX0 : mont X = 0 := by
    simp only [Bool.not_eq_false', decide_eq_true_eq] at hx0
    omega
   have hXm : X % qN = 0 := by
    have := mont_inj (hX0.trans mont_zero.symm)
    rw [this]
    rfl
   have hv0 := (hz hX0).val
   rw [hv0] at hr
   have e : r = 0 := by rw [hr]; exact mmul_zero _
   rw [e] at hy
   exact hK _ _ _ _ ⟨0, by rw [mont_zero]; exact hy, by decide, fun _ => rfl, fun h => absurd hXm h⟩ _ _ _ _
  ·have hv1 : V4 u0 u1 u2 u3 = one4 := by simpa using heq
   rw [hu.val, one4_eq] at hv1
   have hr1 : r2 = mont 1 := by omega
   rw [hr2, ← mont_of hy.lt, mont_mul] at hr1
   have hxy := mont_inj hr1
   have h11 : 1 % qN = 1 := by decide
   rw [h11] at hxy
   refine hK _ _ _ _ ⟨mmul r 1, by rw [mont_of hy.lt]; exact hy, mmul_lt _ _, fun h0 => ?_, fun _ => hxy⟩ _ _ _ _
   exfalso
   rw [Nat.mul_mod, h0, Nat.zero_mul, Nat.zero_mod] at hxy
   omega
theorem w4_0 : W4 0 0 0 0 := ⟨wd0, wd0, wd0, wd0⟩
theorem band1 {n e : Int} (hn : Wd n) (he : e = band .u64 n 1) : e = n % 2 := by
 unfold Wd at hn
 obtain ⟨m, rfl⟩ := Int.eq_ofNat_of_zero_le hn.1
 rw [band_nat m (by omega) (n := 1) (by omega) (by decide)] at he
 omega
theorem iv_walk {X : Nat} {a0 a1 a2 a3 : Int} {K : SV → Mem → Prop} (hx : El a0 a1 a2 a3 (mont X)) (h0 : mont X ≠ 0)
  (hK : ∀ y0 y1 y2 y3, IvR X y0 y1 y2 y3 → ∀ g1 g2 g3 g4, K (.ptr 1 (.lit 0)) (memL [(1, ⟨false, w4 y0 y1 y2 y3⟩), (545, g1), (593, g2), (665, g3), (809, g4)])) :
  execF cxIv (uIv IvQ (PvT 31) (WvQ (mont X))) Tryz.f54 64 [.ptr 1 (.lit 0), .ptr 1 (.lit 0)] (memL [(1, ⟨false, w4 a0 a1 a2 a3⟩)]) K := by
 rw [vc_iv]
 intro x0 g0 x1 g1 x2 g2 x3 g3
 rw [g0, g1, g2, g3]
 have hl := hx.lt
 refine ⟨⟨⟨a0, a1, a2, a3, 4332616871279656263, 10917124144477883021, 13281191951274694749, 3486998266802970665, 1, 0, 0, 0, 0, 0, 0, 0, 0, 0, 0, 0, 0, 0, 0, 0, 0⟩,
  ⟨mont X, qN, hx.ws, q_ws, ⟨by omega, Nat.le_refl _, q_odd, q_pri.cop (by omega) hl⟩, ⟨show Wd 1 by unfold Wd; omega, wd0, wd0, wd0⟩, w4_0, wd0⟩, ⟨rfl, rfl, rfl, rfl, rfl⟩, ⟨rfl, rfl, rfl, rfl⟩, ⟨rfl, rfl, rfl, rfl⟩, ⟨rfl, rfl, rfl, rfl⟩, ⟨rfl, rfl, rfl, rfl⟩, ⟨rfl, rfl, rfl, rfl⟩, rfl, rfl, rfl, rfl⟩, ?_⟩
 intro i hQ e he
 have hQ' := hQ
 obtain ⟨a, b, ha, hb, _, hu, hv, hn⟩ := hQ'
 have e1 := band1 hn he
 refine ⟨fun h => IvBody.of ⟨rfl, rfl, rfl, rfl⟩ hQ (.inl ?_), fun _ => ⟨ha.wd, fun hne => IvBody.of ⟨rfl, rfl, rfl, rfl⟩ hQ (.inr ?_), fun _ => IvExit.of ⟨rfl, rfl, rfl, rfl⟩ hx hv hn (fun hz => absurd hz h0) hK⟩⟩
 ·have : e = 1 := by simpa using h
  omega
 ·simpa using hne
theorem iv_zero {X : Nat} {a0 a1 a2 a3 : Int} {K : SV → Mem → Prop} (hx : El a0 a1 a2 a3 (mont X)) (h0 : mont X = 0)
  (hK : ∀ y0 y1 y2 y3, IvR X y0 y1 y2 y3 → ∀ g1 g2 g3 g4, K (.ptr 1 (.lit 0)) (memL [(1, ⟨false, w4 y0 y1 y2 y3⟩), (545, g1), (593, g2), (665, g3), (809, g4)])) :
  execF cxIv (uIv (fun i => Ws i.a0 i.a1 i.a2 i.a3 0 ∧ i.n = 0 ∧ Ws i.v0 i.v1 i.v2 i.v3 0) (PvT 31) (WvQ (mont X))) Tryz.f54 64 [.ptr 1 (.lit 0), .ptr 1 (.lit 0)] (memL [(1, ⟨false, w4 a0 a1 a2 a3⟩)]) K := by
 rw [vc_iv]
 intro x0 g0 x1 g1 x2 g2 x3 g3
 rw [g0, g1, g2, g3]
 have hw := hx.ws
 rw [h0] at hw
 have z4 : Ws 0 0 0 0 0 := ⟨by decide, by decide, by decide, by decide, by decide⟩
 refine ⟨⟨⟨a0, a1, a2, a3, 4332616871279656263, 10917124144477883021, 13281191951274694749, 3486998266802970665, 1, 0, 0, 0, 0, 0, 0, 0, 0, 0, 0, 0, 0, 0, 0, 0, 0⟩,
  ⟨hw, rfl, z4⟩, ⟨rfl, rfl, rfl, rfl, rfl⟩, ⟨rfl, rfl, rfl, rfl⟩, ⟨rfl, rfl, rfl, rfl⟩, ⟨rfl, rfl, rfl, rfl⟩, ⟨rfl, rfl, rfl, rfl⟩, ⟨rfl, rfl, rfl, rfl⟩, rfl, rfl, rfl, rfl⟩, ?_⟩
 rintro i ⟨ha, hn, hv⟩ e he
 rw [hn] at he
 have e1 := band1 wd0 he
 have hwn : Wd i.n := by rw [hn]; exact wd0
 refine ⟨fun h => ?_, fun _ => ⟨ha.wd, fun hne => ?_, fun _ => IvExit.of ⟨rfl, rfl, rfl, rfl⟩ hx hv.wd hwn (fun _ => hv) hK⟩⟩
 ·have : e = 1 := by simpa using h
  omega
 ·rw [ha.val] at hne
  simp at hne
theorem iv_live (X : Nat) : ∃ Y, Y < qN ∧ (X % qN = 0 → Y = 0) ∧ (X % qN ≠ 0 → X * Y % qN = 1) := by
 by_cases h : X % qN = 0
 ·exact ⟨0, by decide, fun _ => rfl, fun h' => absurd h h'⟩
 ·refine ⟨X ^ qm2 % qN, Nat.mod_lt _ (by decide), fun h' => absurd h' h, fun _ => ?_⟩
  have hf := fermat q_pri h
  rw [Nat.mul_mod_mod, Nat.mul_comm, ← Nat.pow_succ]
  exact hf
def gIv : G0 := fun args l K =>
 match args, l with
 | [.ptr 1 (.lit 0), .ptr 1 (.lit 0)], [(1, ⟨false, z⟩)] => c4 z fun z0 z1 z2 z3 => ∃ X, El z0 z1 z2 z3 (mont X) ∧ ∀ y0 y1 y2 y3, IvR X y0 y1 y2 y3 → K (.ptr 1 (.lit 0)) (memL [(1, ⟨false, w4 y0 y1 y2 y3⟩)])
 | _, _ => False
theorem iv_good : Good gIv := by
 constructor
 ·intro args l K K' hk h
  unfold gIv at h ⊢
  split at h
  ·exact c4_mono (fun _ _ _ _ h => h.elim fun X h => ⟨X, h.1, fun y0 y1 y2 y3 hy => hk _ _ (h.2 y0 y1 y2 y3 hy)⟩) h
  ·exact h.elim
 ·intro args l K h
  unfold gIv at h
  split at h
  ·obtain ⟨_, _, _, _, _, h⟩ := c4_ex h
   obtain ⟨X, _, h⟩ := h
   obtain ⟨Y, h1, h2, h3⟩ := iv_live X
   exact ⟨_, _, h _ _ _ _ ⟨Y, El.of (mont_lt _), h1, h2, h3⟩⟩
  ·exact h.elim
theorem iv_ok (args : List SV) (l : List (Nat × Reg)) (K : SV → Mem → Prop) (hup : KUp K) (h : gIv args l K) : ∃ U, execF cxIv U Tryz.f54 64 args (memL l) K := by
 unfold gIv at h
 split at h
 ·obtain ⟨z0, z1, z2, z3, rfl, q0⟩ := c4_ex h
  obtain ⟨X, hx, hK⟩ := q0
  have hK2 : ∀ y0 y1 y2 y3, IvR X y0 y1 y2 y3 → ∀ g1 g2 g3 g4, K (.ptr 1 (.lit 0)) (memL [(1, ⟨false, w4 y0 y1 y2 y3⟩), (545, g1), (593, g2), (665, g3), (809, g4)]) := fun y0 y1 y2 y3 hy g1 g2 g3 g4 =>
   hup.le (memL_sub [1, 545, 593, 665, 809] rfl (by decide) (by
    intro x hx
    simp only [List.mem_cons, List.not_mem_nil, or_false] at hx ⊢
    simp [hx])) (hK y0 y1 y2 y3 hy)
  by_cases h0 : mont X = 0
  ·exact ⟨_, iv_zero hx h0 hK2⟩
  ·exact ⟨_, iv_walk hx h0 hK2⟩
 ·exact h.elim
def kIv : Ef Tryz.prog := mkE mixed 54 Tryz.func54 (by decide) (by kernel_rfl) [] [.ptr 4 false, .ptr 4 true] gIv iv_good iv_ok
end Go.Sx
namespace Go.Sx
open Go Go.Proofs
set_option maxRecDepth 100000
def cxSm : Cx Tryz.prog := { rds := [cWs, cLs, cWd], efs := [], eqs := [] }
theorem vc_sm (a0 a1 a2 a3 b0 b1 b2 b3 m0 m1 m2 m3 : Int) (K : SV → Mem → Prop) : (execF cxSm u9 Tryz.f42 64 [ag4 a0 a1 a2 a3, ag4 b0 b1 b2 b3, ag4 m0 m1 m2 m3] (memL []) K) = (∀ y, y = a0 → ∀ z, z = a1 → ∀ A, A = a2 → ∀ B, B = a3 → ∀ C, C
 = b0 → ∀ D, D = b1 → ∀ E, E = b2 → ∀ F, F = b3 → ((Wd y ∧ Wd z ∧ Wd A ∧ Wd B) ∧ Wd C ∧ Wd D ∧ Wd E ∧ Wd F) ∧ (decide (V4 y z A B < V4 C D E F) = true → ∀ i, i = a0 → ∀ j, j = a1 → ∀ k, k = a2 → ∀ l, l = a3 → ∀ m, m = b0 → ∀ n, n = b1 → ∀
 o, o = b2 → ∀ p, p = b3 → (((Wd i ∧ Wd j ∧ Wd k ∧ Wd l) ∧ Wd m ∧ Wd n ∧ Wd o ∧ Wd p) ∧ ∀ a, a = lm (w256 (V4 i j k l - V4 m n o p)) 0 → ∀ b, b = lm (w256 (V4 i j k l - V4 m n o p)) 1 → ∀ c, c = lm (w256 (V4 i j k l - V4 m n o p)) 2 → ∀ d,
 d = lm (w256 (V4 i j k l - V4 m n o p)) 3 → ∀ e, e = m0 → ∀ f, f = m1 → ∀ g, g = m2 → ∀ h, h = m3 → (((Wd a ∧ Wd b ∧ Wd c ∧ Wd d) ∧ Wd e ∧ Wd f ∧ Wd g ∧ Wd h) ∧ ∀ G, G = lm (w256 (V4 a b c d + V4 e f g h)) 0 → ∀ H, H = lm (w256 (V4 a b c d
 + V4 e f g h)) 1 → ∀ I, I = lm (w256 (V4 a b c d + V4 e f g h)) 2 → ∀ J, J = lm (w256 (V4 a b c d + V4 e f g h)) 3 → K (.agg [.int .u64 (.sym G), .int .u64 (.sym H), .int .u64 (.sym I), .int .u64 (.sym J)]) (memL [(513, ⟨false, .cells
 [.int .u64 (.sym a0), .int .u64 (.sym a1), .int .u64 (.sym a2), .int .u64 (.sym a3)]⟩), (521, ⟨false, .cells [.int .u64 (.sym b0), .int .u64 (.sym b1), .int .u64 (.sym b2), .int .u64 (.sym b3)]⟩), (529, ⟨false, .cells [.int .u64 (.sym m0),
 .int .u64 (.sym m1), .int .u64 (.sym m2), .int .u64 (.sym m3)]⟩), (537, ⟨false, .cells [.int .u64 (.sym G), .int .u64 (.sym H), .int .u64 (.sym I), .int .u64 (.sym J)]⟩), (633, ⟨false, .cells [.int .u64 (.sym (lm (w256 (V4 a b c d + V4 e f
 g h)) 0)), .int .u64 (.sym (lm (w256 (V4 a b c d + V4 e f g h)) 1)), .int .u64 (.sym (lm (w256 (V4 a b c d + V4 e f g h)) 2)), .int .u64 (.sym (lm (w256 (V4 a b c d + V4 e f g h)) 3))]⟩)])))) ∧ (decide (V4 y z A B < V4 C D E F) = false → ∀
 q, q = a0 → ∀ r, r = a1 → ∀ s, s = a2 → ∀ t, t = a3 → ∀ u, u = b0 → ∀ v, v = b1 → ∀ w, w = b2 → ∀ x, x = b3 → (((Wd q ∧ Wd r ∧ Wd s ∧ Wd t) ∧ Wd u ∧ Wd v ∧ Wd w ∧ Wd x) ∧ ∀ L, L = lm (w256 (V4 q r s t - V4 u v w x)) 0 → ∀ M, M = lm (w256
 (V4 q r s t - V4 u v w x)) 1 → ∀ N, N = lm (w256 (V4 q r s t - V4 u v w x)) 2 → ∀ O, O = lm (w256 (V4 q r s t - V4 u v w x)) 3 → K (.agg [.int .u64 (.sym L), .int .u64 (.sym M), .int .u64 (.sym N), .int .u64 (.sym O)]) (memL [(513, ⟨false,
 .cells [.int .u64 (.sym a0), .int .u64 (.sym a1), .int .u64 (.sym a2), .int .u64 (.sym a3)]⟩), (521, ⟨false, .cells [.int .u64 (.sym b0), .int .u64 (.sym b1), .int .u64 (.sym b2), .int .u64 (.sym b3)]⟩), (529, ⟨false, .cells [.int .u64
 (.sym m0), .int .u64 (.sym m1), .int .u64 (.sym m2), .int .u64 (.sym m3)]⟩), (537, ⟨false, .cells [.int .u64 (.sym L), .int .u64 (.sym M), .int .u64 (.sym N), .int .u64 (.sym O)]⟩)])))) := by kernel_rfl
theorem vc_halfw (a0 a1 a2 a3 : Int) (K : SV → Mem → Prop) : (execF cxSm u9 Tryz.f43 64 [ag4 a0 a1 a2 a3] (memL []) K) = (∀ i, i = shrv .u64 a0 1 → ∀ j, j = shlv .u64 a1 63 → ∀ a, a = IntKind.wrap IntKind.u64 (i + j) → ∀ k, k = shrv .u64 a1 1
 → ∀ l, l = shlv .u64 a2 63 → ∀ b, b = IntKind.wrap IntKind.u64 (k + l) → ∀ m, m = shrv .u64 a2 1 → ∀ n, n = shlv .u64 a3 63 → ∀ c, c = IntKind.wrap IntKind.u64 (m + n) → ∀ d, d = shrv .u64 a3 1 → ∀ e, e = a → ∀ f, f = b → ∀ g, g = c → ∀ h,
 h = d → K (.agg [.int .u64 (.sym e), .int .u64 (.sym f), .int .u64 (.sym g), .int .u64 (.sym h)]) (memL [(513, ⟨false, .cells [.int .u64 (.sym a), .int .u64 (.sym b), .int .u64 (.sym c), .int .u64 (.sym d)]⟩), (521, ⟨false, .cells [.int
 .u64 (.sym e), .int .u64 (.sym f), .int .u64 (.sym g), .int .u64 (.sym h)]⟩)])) := by kernel_rfl
theorem vc_bit (a0 a1 a2 a3 i : Int) (K : SV → Mem → Prop) : (execF cxSm u9 Tryz.f111 64 [ag4 a0 a1 a2 a3, .int .i64 (.sym i)] (memL []) K) = (∀ a, a = IntKind.wrap IntKind.i64 (Int.tdiv i (64 : Int)) → (0 ≤ a ∧ a < 4) ∧ (Int.toNat a * 1 + 1
 ≤ List.length [a0, a1, a2, a3] ∧ ∀ c : Int, c = List.getD [a0, a1, a2, a3] (Int.toNat a * 1) (0 : Int) → ∀ b, b = Int.tmod i (64 : Int) → (0 ≤ b ∧ ∀ d, d = shrv .u64 c (Int.toNat b) → ∀ e, e = Int.tmod d (2 : Int) → K (.int .u64 (.sym e))
 (memL [(513, ⟨false, .cells [.int .u64 (.sym a0), .int .u64 (.sym a1), .int .u64 (.sym a2), .int .u64 (.sym a3)]⟩)])))) := by kernel_rfl
theorem smd1 {A B M : Int} (h0 : 0 ≤ A) (hB : B < M) (hM : M < 115792089237316195423570985008687907853269984665640564039457584007913129639936) (h : A < B) : w256 ((w256 (A - B) : Int) + M) = ((A - B) % M).toNat := by
 have e : (A - B) % M = A - B + M := by
  rw [← Int.add_emod_right, Int.emod_eq_of_lt (by omega) (by omega)]
 rw [e]
 unfold w256
 omega
theorem sm2 {A B M : Int} (h0 : 0 ≤ B) (hA : A < M) (hM : M < 115792089237316195423570985008687907853269984665640564039457584007913129639936) (h : ¬ A < B) : w256 (A - B) = ((A - B) % M).toNat := by
 rw [Int.emod_eq_of_lt (by omega) (by omega)]
 unfold w256
 omega
def rSm : R0 := fun args l =>
 match args, l with
 | [.agg [.int .u64 (.sym a0), .int .u64 (.sym a1), .int .u64 (.sym a2), .int .u64 (.sym a3)], .agg [.int .u64 (.sym b0), .int .u64 (.sym b1), .int .u64 (.sym b2), .int .u64 (.sym b3)], .agg [.int .u64 (.sym m0), .int .u64 (.sym m1), .int .u64 (.sym m2), .int .u64 (.sym m3)]], [] =>
  some (some (((Wd a0 ∧ Wd a1 ∧ Wd a2 ∧ Wd a3) ∧ (Wd b0 ∧ Wd b1 ∧ Wd b2 ∧ Wd b3) ∧ (Wd m0 ∧ Wd m1 ∧ Wd m2 ∧ Wd m3)) ∧ V4 a0 a1 a2 a3 < V4 m0 m1 m2 m3 ∧ V4 b0 b1 b2 b3 < V4 m0 m1 m2 m3), ag4 (lm (((V4 a0 a1 a2 a3 - V4 b0 b1 b2 b3) % V4 m0 m1 m2 m3).toNat) 0) (lm (((V4 a0 a1 a2 a3 - V4 b0 b1 b2 b3) % V4 m0 m1 m2 m3).toNat) 1) (lm (((V4 a0 a1 a2 a3 - V4 b0 b1 b2 b3) % V4 m0 m1 m2 m3).toNat) 2) (lm (((V4 a0 a1 a2 a3 - V4 b0 b1 b2 b3) % V4 m0 m1 m2 m3).toNat) 3))
 | _, _ => none
theorem sm_ok (args : List SV) (l : List (Nat × Reg)) (p : Ob) (v : SV) (h : rSm args l = some (p, v)) (hp : p.ok) : ∃ U, execF cxSm U Tryz.f42 64 args (memL l) fun v' _ => v' = v := by
 unfold rSm at h
 split at h
 ·rename_i a0 a1 a2 a3 b0 b1 b2 b3 m0 m1 m2 m3
  simp only [Option.some.injEq, Prod.mk.injEq] at h
  obtain ⟨rfl, rfl⟩ := h
  obtain ⟨⟨ha, hb, hm⟩, hA, hB⟩ : ((Wd a0 ∧ Wd a1 ∧ Wd a2 ∧ Wd a3) ∧ (Wd b0 ∧ Wd b1 ∧ Wd b2 ∧ Wd b3) ∧ (Wd m0 ∧ Wd m1 ∧ Wd m2 ∧ Wd m3)) ∧ V4 a0 a1 a2 a3 < V4 m0 m1 m2 m3 ∧ V4 b0 b1 b2 b3 < V4 m0 m1 m2 m3 := hp
  have nA := V4_nonneg ha.1 ha.2.1 ha.2.2.1 ha.2.2.2
  have nB := V4_nonneg hb.1 hb.2.1 hb.2.2.1 hb.2.2.2
  have lM := V4_lt hm.1 hm.2.1 hm.2.2.1 hm.2.2.2
  have W : ∀ s i, Wd (lm s i) := lm_wd
  refine ⟨u9, ?_⟩
  have := vc_sm a0 a1 a2 a3 b0 b1 b2 b3 m0 m1 m2 m3 fun v' _ => v' = ag4 (lm (((V4 a0 a1 a2 a3 - V4 b0 b1 b2 b3) % V4 m0 m1 m2 m3).toNat) 0) (lm (((V4 a0 a1 a2 a3 - V4 b0 b1 b2 b3) % V4 m0 m1 m2 m3).toNat) 1) (lm (((V4 a0 a1 a2 a3 - V4 b0 b1 b2 b3) % V4 m0 m1 m2 m3).toNat) 2) (lm (((V4 a0 a1 a2 a3 - V4 b0 b1 b2 b3) % V4 m0 m1 m2 m3).toNat) 3)
  unfold ag4 at this
  refine this.mpr ?_
  clear this
  rintro _ rfl _ rfl _ rfl _ rfl _ rfl _ rfl _ rfl _ rfl
  refine ⟨⟨ha, hb⟩, fun h => ?_, fun h => ?_⟩
  ·simp only [decide_eq_true_eq] at h
   rintro _ rfl _ rfl _ rfl _ rfl _ rfl _ rfl _ rfl _ rfl
   refine ⟨⟨ha, hb⟩, ?_⟩
   rintro x16 h16 x17 h17 x18 h18 x19 h19 _ rfl _ rfl _ rfl _ rfl
   rw [h16, h17, h18, h19]
   refine ⟨⟨⟨W _ _, W _ _, W _ _, W _ _⟩, hm⟩, ?_⟩
   rintro _ rfl _ rfl _ rfl _ rfl
   rw [w256_V4, smd1 nA hB lM h]
  ·simp only [decide_eq_false_iff_not] at h
   rintro _ rfl _ rfl _ rfl _ rfl _ rfl _ rfl _ rfl _ rfl
   refine ⟨⟨ha, hb⟩, ?_⟩
   rintro _ rfl _ rfl _ rfl _ rfl
   rw [sm2 nB hA lM h]
 ·cases h
def cSm : Rd Tryz.prog := mkR mixed 42 Tryz.func42 (by decide) (by kernel_rfl) [] [.num, .num, .num] rSm sm_ok
def rBt : R0 := fun args l =>
 match args, l with
 | [.agg [.int .u64 (.sym a0), .int .u64 (.sym a1), .int .u64 (.sym a2), .int .u64 (.sym a3)], .int .i64 (.sym i)], [] => some (some ((Wd a0 ∧ Wd a1 ∧ Wd a2 ∧ Wd a3) ∧ 0 ≤ i ∧ i < 256), .int .u64 (.sym ((((V4 a0 a1 a2 a3).toNat / 2 ^ i.toNat % 2 : Nat) : Int))))
 | _, _ => none
theorem bt_ok (args : List SV) (l : List (Nat × Reg)) (p : Ob) (v : SV) (h : rBt args l = some (p, v)) (hp : p.ok) : ∃ U, execF cxSm U Tryz.f111 64 args (memL l) fun v' _ => v' = v := by
 unfold rBt at h
 split at h
 ·rename_i a0 a1 a2 a3 i
  simp only [Option.some.injEq, Prod.mk.injEq] at h
  obtain ⟨rfl, rfl⟩ := h
  obtain ⟨ha, hi0, hi1⟩ : (Wd a0 ∧ Wd a1 ∧ Wd a2 ∧ Wd a3) ∧ 0 ≤ i ∧ i < 256 := hp
  obtain ⟨m, rfl⟩ := Int.eq_ofNat_of_zero_le hi0
  obtain ⟨e0, e1, e2, e3, hl⟩ := ws_of ha.1 ha.2.1 ha.2.2.1 ha.2.2.2
  refine ⟨u9, ?_⟩
  have := vc_bit a0 a1 a2 a3 m fun v' _ => v' = .int .u64 (.sym ((((V4 a0 a1 a2 a3).toNat / 2 ^ ((m : Int)).toNat % 2 : Nat) : Int)))
  unfold ag4 at this
  refine this.mpr ?_
  clear this
  generalize (V4 a0 a1 a2 a3).toNat = X at *
  rw [Int.toNat_natCast, e0, e1, e2, e3]
  intro x0 h0
  rw [Int.tdiv_eq_ediv_of_nonneg (by omega), wrap64 (by omega) (by omega)] at h0
  refine ⟨⟨by omega, by omega⟩, by simp only [List.length_cons, List.length_nil]; omega, ?_⟩
  intro x1 h1 x2 h2
  rw [Int.tmod_eq_emod_of_nonneg (by omega)] at h2
  refine ⟨by omega, ?_⟩
  intro x3 h3 x4 h4
  rw [show x0.toNat = m / 64 by omega, Nat.mul_one, lm_getD X _ (by omega), lm_nat] at h1
  rw [show x2.toNat = m % 64 by omega, h1, shr64 (Int.natCast_nonneg _) (by omega)] at h3
  have e3' : x3 = ((X / 2 ^ (64 * (m / 64)) % 2 ^ 64 / 2 ^ (m % 64) : Nat) : Int) := by rw [h3, Int.natCast_ediv, Int.natCast_pow]; rfl
  rw [Int.tmod_eq_emod_of_nonneg (by rw [e3']; exact Int.natCast_nonneg _), e3'] at h4
  have e4' : x4 = ((X / 2 ^ m % 2 : Nat) : Int) := by rw [h4, ← word_bit]; rfl
  rw [e4']
 ·cases h
def cBt : Rd Tryz.prog := mkR mixed 111 Tryz.func111 (by decide) (by kernel_rfl) [] [.num, .num] rBt bt_ok
def rHv : R0 := fun args l =>
 match args, l with
 | [.agg [.int .u64 (.sym a0), .int .u64 (.sym a1), .int .u64 (.sym a2), .int .u64 (.sym a3)]], [] => some (some (Wd a0 ∧ Wd a1 ∧ Wd a2 ∧ Wd a3), ag4 (lm ((V4 a0 a1 a2 a3).toNat / 2) 0) (lm ((V4 a0 a1 a2 a3).toNat / 2) 1) (lm ((V4 a0 a1 a2 a3).toNat / 2) 2) (lm ((V4 a0 a1 a2 a3).toNat / 2) 3))
 | _, _ => none
theorem hv_ok (args : List SV) (l : List (Nat × Reg)) (p : Ob) (v : SV) (h : rHv args l = some (p, v)) (hp : p.ok) : ∃ U, execF cxSm U Tryz.f43 64 args (memL l) fun v' _ => v' = v := by
 unfold rHv at h
 split at h
 ·rename_i a0 a1 a2 a3
  simp only [Option.some.injEq, Prod.mk.injEq] at h
  obtain ⟨rfl, rfl⟩ := h
  obtain ⟨h0, h1, h2, h3⟩ : (Wd a0 ∧ Wd a1 ∧ Wd a2 ∧ Wd a3) := hp
  refine ⟨u9, ?_⟩
  have := vc_halfw a0 a1 a2 a3 fun v' _ => v' = ag4 (lm ((V4 a0 a1 a2 a3).toNat / 2) 0) (lm ((V4 a0 a1 a2 a3).toNat / 2) 1) (lm ((V4 a0 a1 a2 a3).toNat / 2) 2) (lm ((V4 a0 a1 a2 a3).toNat / 2) 3)
  unfold ag4 at this
  refine this.mpr ?_
  clear this
  have sr : ∀ {z : Int}, Wd z → shrv .u64 z 1 = z / 2 := fun hz => by rw [shr64 hz.1 (by omega)]; rfl
  have sl : ∀ z : Int, shlv .u64 z 63 = z * 9223372036854775808 % 18446744073709551616 := fun z => by
   unfold shlv
   rw [wu64, show min 63 IntKind.u64.bits = 63 by simp [IntKind.bits]]
   rfl
  intro x0 g0 x1 g1 x2 g2 x3 g3 x4 g4 x5 g5 x6 g6 x7 g7 x8 g8 x9 g9
  rw [sr h0] at g0
  rw [sr h1] at g3
  rw [sr h2] at g6
  rw [sr h3] at g9
  rw [sl] at g1 g4 g7
  rw [wu64] at g2 g5 g8
  intro y0 k0 y1 k1 y2 k2 y3 k3
  rw [k0, k1, k2, k3]
  unfold Wd at h0 h1 h2 h3
  have w2 : Wd x2 := by unfold Wd; omega
  have w5 : Wd x5 := by unfold Wd; omega
  have w8 : Wd x8 := by unfold Wd; omega
  have w9 : Wd x9 := by unfold Wd; omega
  obtain ⟨q0, q1, q2, q3⟩ := lm_of w2 w5 w8 w9 (x := (V4 a0 a1 a2 a3).toNat / 2) (by unfold V4; omega)
  rw [← q0, ← q1, ← q2, ← q3]
 ·cases h
def cHv : Rd Tryz.prog := mkR mixed 43 Tryz.func43 (by decide) (by kernel_rfl) [] [.num] rHv hv_ok
end Go.Sx
namespace Go.Sx
open Go Go.Proofs Go.Num
set_option maxRecDepth 100000
def liPw (S : IeI → Prop) : LI where
 ι := IeI
 keep := [2, 3, 4, 5]
 keepR := [513, 521, 529]
 F := fun i => ⟨[(6, .int .i64 (.sym ((i.n : Nat) - 1)))], [(545, ⟨false, w4 i.z0 i.z1 i.z2 i.z3⟩)]⟩
 I := fun _ i => S i
 μ := fun i => i.n
def uPw (S : IeI → Prop) : Nat → Lp := fun n => match n with | 0 => .inv (liPw S) | _ => .un 0
def cxPw : Cx Tryz.prog := { rds := [cMl, cBt], efs := [], eqs := [] }
theorem Vq (a : Nat) : V4 (lm (a % qN) 0) (lm (a % qN) 1) (lm (a % qN) 2) (lm (a % qN) 3) = ((a % qN : Nat) : Int) := lm_val (Nat.lt_trans (Nat.mod_lt _ (by decide)) (by decide))
theorem qN_eq : qN = 21888242871839275222246405745257275088696311157297823662689037894645226208583 := rfl
theorem vc_pw (S : IeI → Prop) (a0 a1 a2 a3 b0 b1 b2 b3 : Int) (K : SV → Mem → Prop) : (execF cxPw (uPw S) Tryz.f97 64 [ag4 a0 a1 a2 a3, ag4 b0 b1 b2 b3] (memL []) K) = ((∃ d : IeI, S d ∧ 255 = ((IeI.n d : Nat) : Int) - 1 ∧ (a0 = a0 ∧ a1 =
 a1 ∧ a2 = a2 ∧ a3 = a3) ∧ (b0 = b0 ∧ b1 = b1 ∧ b2 = b2 ∧ b3 = b3) ∧ 1 = IeI.z0 d ∧ 0 = IeI.z1 d ∧ 0 = IeI.z2 d ∧ 0 = IeI.z3 d) ∧ ∀ a : IeI, S a → (decide (((IeI.n a : Nat) : Int) - 1 ≥ 0) = true → ∀ e, e = IeI.z0 a → ∀ f, f = IeI.z1 a → ∀
 g, g = IeI.z2 a → ∀ h, h = IeI.z3 a → ∀ i, i = IeI.z0 a → ∀ j, j = IeI.z1 a → ∀ k, k = IeI.z2 a → ∀ l, l = IeI.z3 a → (((Wd e ∧ Wd f ∧ Wd g ∧ Wd h) ∧ Wd i ∧ Wd j ∧ Wd k ∧ Wd l) ∧ ∀ u, u = lm (Int.toNat (V4 e f g h) * Int.toNat (V4 i j k l)
 % 21888242871839275222246405745257275088696311157297823662689037894645226208583) 0 → ∀ v, v = lm (Int.toNat (V4 e f g h) * Int.toNat (V4 i j k l) % 21888242871839275222246405745257275088696311157297823662689037894645226208583) 1 → ∀ w, w =
 lm (Int.toNat (V4 e f g h) * Int.toNat (V4 i j k l) % 21888242871839275222246405745257275088696311157297823662689037894645226208583) 2 → ∀ x, x = lm (Int.toNat (V4 e f g h) * Int.toNat (V4 i j k l) %
 21888242871839275222246405745257275088696311157297823662689037894645226208583) 3 → ∀ y, y = b0 → ∀ z, z = b1 → ∀ A, A = b2 → ∀ B, B = b3 → (((Wd y ∧ Wd z ∧ Wd A ∧ Wd B) ∧ 0 ≤ ((IeI.n a : Nat) : Int) - 1 ∧ ((IeI.n a : Nat) : Int) - 1 < 256)
 ∧ ∀ C : Int, C = ((Int.toNat (V4 y z A B) / (2 : Nat) ^ Int.toNat (((IeI.n a : Nat) : Int) - 1) % 2 : Nat) : Int) → ((C == 1) = true → ∀ m, m = u → ∀ n, n = v → ∀ o, o = w → ∀ p, p = x → ∀ q, q = a0 → ∀ r, r = a1 → ∀ s, s = a2 → ∀ t, t =
 a3 → (((Wd m ∧ Wd n ∧ Wd o ∧ Wd p) ∧ Wd q ∧ Wd r ∧ Wd s ∧ Wd t) ∧ ∀ H, H = lm (Int.toNat (V4 m n o p) * Int.toNat (V4 q r s t) % 21888242871839275222246405745257275088696311157297823662689037894645226208583) 0 → ∀ I, I = lm (Int.toNat (V4
 m n o p) * Int.toNat (V4 q r s t) % 21888242871839275222246405745257275088696311157297823662689037894645226208583) 1 → ∀ J, J = lm (Int.toNat (V4 m n o p) * Int.toNat (V4 q r s t) %
 21888242871839275222246405745257275088696311157297823662689037894645226208583) 2 → ∀ L, L = lm (Int.toNat (V4 m n o p) * Int.toNat (V4 q r s t) % 21888242871839275222246405745257275088696311157297823662689037894645226208583) 3 → ∀ M, M =
 IntKind.wrap IntKind.i64 (((IeI.n a : Nat) : Int) - 1 - 1) → ∃ b : IeI, S b ∧ (M = ((IeI.n b : Nat) : Int) - 1 ∧ (a0 = a0 ∧ a1 = a1 ∧ a2 = a2 ∧ a3 = a3) ∧ (b0 = b0 ∧ b1 = b1 ∧ b2 = b2 ∧ b3 = b3) ∧ H = IeI.z0 b ∧ I = IeI.z1 b ∧ J = IeI.z2 b
 ∧ L = IeI.z3 b) ∧ IeI.n b < IeI.n a)) ∧ ((C == 1) = false → ∀ N, N = IntKind.wrap IntKind.i64 (((IeI.n a : Nat) : Int) - 1 - 1) → ∃ c : IeI, S c ∧ (N = ((IeI.n c : Nat) : Int) - 1 ∧ (a0 = a0 ∧ a1 = a1 ∧ a2 = a2 ∧ a3 = a3) ∧ (b0 = b0 ∧ b1 =
 b1 ∧ b2 = b2 ∧ b3 = b3) ∧ u = IeI.z0 c ∧ v = IeI.z1 c ∧ w = IeI.z2 c ∧ x = IeI.z3 c) ∧ IeI.n c < IeI.n a)))) ∧ (decide (((IeI.n a : Nat) : Int) - 1 ≥ 0) = false → ∀ D, D = IeI.z0 a → ∀ E, E = IeI.z1 a → ∀ F, F = IeI.z2 a → ∀ G, G = IeI.z3
 a → K (.agg [.int .u64 (.sym D), .int .u64 (.sym E), .int .u64 (.sym F), .int .u64 (.sym G)]) (memL [(513, ⟨false, .cells [.int .u64 (.sym a0), .int .u64 (.sym a1), .int .u64 (.sym a2), .int .u64 (.sym a3)]⟩), (521, ⟨false, .cells [.int
 .u64 (.sym b0), .int .u64 (.sym b1), .int .u64 (.sym b2), .int .u64 (.sym b3)]⟩), (529, ⟨false, .cells [.int .u64 (.sym D), .int .u64 (.sym E), .int .u64 (.sym F), .int .u64 (.sym G)]⟩), (545, ⟨false, .cells [.int .u64 (.sym (IeI.z0 a)),
 .int .u64 (.sym (IeI.z1 a)), .int .u64 (.sym (IeI.z2 a)), .int .u64 (.sym (IeI.z3 a))]⟩)]))) := by kernel_rfl
theorem pw_walk {A E : Nat} {a0 a1 a2 a3 b0 b1 b2 b3 : Int} {K : SV → Mem → Prop} (ha : Ws a0 a1 a2 a3 A) (hb : Ws b0 b1 b2 b3 E)
  (hK : ∀ m, K (ag4 (lm (A ^ E % qN) 0) (lm (A ^ E % qN) 1) (lm (A ^ E % qN) 2) (lm (A ^ E % qN) 3)) m) :
  execF cxPw (uPw fun i => i.n ≤ 256 ∧ El i.z0 i.z1 i.z2 i.z3 (A ^ (E / 2 ^ i.n) % qN)) Tryz.f97 64 [ag4 a0 a1 a2 a3, ag4 b0 b1 b2 b3] (memL []) K := by
 rw [vc_pw, ← qN_eq]
 have va := ha.val
 have vb := hb.val
 have wa := ha.wd
 have wb := hb.wd
 have e256 : E / 2 ^ 256 = 0 := Nat.div_eq_of_lt hb.lt
 refine ⟨⟨⟨256, 1, 0, 0, 0⟩, ⟨Nat.le_refl _, ?_⟩, show (255 : Int) = ((256 : Nat) : Int) - 1 by decide, ⟨rfl, rfl, rfl, rfl⟩, ⟨rfl, rfl, rfl, rfl⟩, rfl, rfl, rfl, rfl⟩, ?_⟩
 ·show El 1 0 0 0 (A ^ (E / 2 ^ 256) % qN)
  rw [e256, Nat.pow_zero]
  exact ⟨by decide, by decide, by decide, by decide, by decide⟩
 rintro ⟨n, z0, z1, z2, z3⟩ ⟨hn, hz⟩
 dsimp only at hn hz ⊢
 have vz := hz.val
 refine ⟨fun h => ?_, fun h => ?_⟩
 ·simp only [decide_eq_true_eq] at h
  obtain ⟨p, rfl⟩ : ∃ p, n = p + 1 := ⟨n - 1, by omega⟩
  rw [show (((p + 1 : Nat) : Int) - 1) = (p : Int) by omega]
  have eh : E / 2 ^ p = 2 * (E / 2 ^ (p + 1)) + E / 2 ^ p % 2 := by
   rw [Nat.pow_succ, ← Nat.div_div_eq_div_mul]
   omega
  have sq : A ^ (E / 2 ^ (p + 1)) % qN * (A ^ (E / 2 ^ (p + 1)) % qN) % qN = A ^ (2 * (E / 2 ^ (p + 1))) % qN := by
   rw [← Nat.mul_mod, ← Nat.pow_add, Nat.two_mul]
  rintro _ rfl _ rfl _ rfl _ rfl _ rfl _ rfl _ rfl _ rfl
  refine ⟨⟨hz.wd, hz.wd⟩, ?_⟩
  rw [vz, Int.toNat_natCast, sq]
  rintro _ rfl _ rfl _ rfl _ rfl x14 h14 x15 h15 x16 h16 x17 h17
  rw [h14, h15, h16, h17]
  refine ⟨⟨wb, by omega, by omega⟩, ?_⟩
  rw [vb, Int.toNat_natCast, Int.toNat_natCast]
  intro x18 h18
  refine ⟨fun hb => ?_, fun hb => ?_⟩
  ·have hb : x18 = 1 := by simpa using hb
   rintro _ rfl _ rfl _ rfl _ rfl x23 h23 x24 h24 x25 h25 x26 h26
   rw [h23, h24, h25, h26]
   refine ⟨⟨⟨lm_wd _ _, lm_wd _ _, lm_wd _ _, lm_wd _ _⟩, wa⟩, ?_⟩
   rw [Vq, va, Int.toNat_natCast, Int.toNat_natCast, Nat.mod_mul_mod, ← Nat.pow_succ]
   rintro _ rfl _ rfl _ rfl _ rfl x31 h31
   rw [wrap64 (by omega) (by omega)] at h31
   refine ⟨⟨p, _, _, _, _⟩, ⟨by simp only; omega, ?_⟩, ⟨by simp only; omega, ⟨rfl, rfl, rfl, rfl⟩, ⟨rfl, rfl, rfl, rfl⟩, rfl, rfl, rfl, rfl⟩, by simp only; omega⟩
   show El _ _ _ _ (A ^ (E / 2 ^ p) % qN)
   rw [eh, show E / 2 ^ p % 2 = 1 by omega]
   exact El.of (Nat.mod_lt _ (by decide))
  ·have hb : ¬ x18 = 1 := by simpa using hb
   intro x33 h33
   rw [wrap64 (by omega) (by omega)] at h33
   refine ⟨⟨p, _, _, _, _⟩, ⟨by simp only; omega, ?_⟩, ⟨by simp only; omega, ⟨rfl, rfl, rfl, rfl⟩, ⟨rfl, rfl, rfl, rfl⟩, rfl, rfl, rfl, rfl⟩, by simp only; omega⟩
   show El _ _ _ _ (A ^ (E / 2 ^ p) % qN)
   rw [eh, show E / 2 ^ p % 2 = 0 by omega]
   exact El.of (Nat.mod_lt _ (by decide))
 ·simp only [decide_eq_false_iff_not] at h
  have hn0 : n = 0 := by omega
  subst hn0
  rw [Nat.pow_zero, Nat.div_one] at hz
  obtain ⟨rfl, rfl, rfl, rfl, _⟩ := hz
  rintro _ rfl _ rfl _ rfl _ rfl
  exact hK _
def rPw : R0 := fun args l =>
 match args, l with
 | [.agg [.int .u64 (.sym a0), .int .u64 (.sym a1), .int .u64 (.sym a2), .int .u64 (.sym a3)], .agg [.int .u64 (.sym b0), .int .u64 (.sym b1), .int .u64 (.sym b2), .int .u64 (.sym b3)]], [] => some (some ((Wd a0 ∧ Wd a1 ∧ Wd a2 ∧ Wd a3) ∧ (Wd b0 ∧ Wd b1 ∧ Wd b2 ∧ Wd b3)), ag4 (lm (pw qN 256 (V4 a0 a1 a2 a3).toNat (V4 b0 b1 b2 b3).toNat) 0) (lm (pw qN 256 (V4 a0 a1 a2 a3).toNat (V4 b0 b1 b2 b3).toNat) 1) (lm (pw qN 256 (V4 a0 a1 a2 a3).toNat (V4 b0 b1 b2 b3).toNat) 2) (lm (pw qN 256 (V4 a0 a1 a2 a3).toNat (V4 b0 b1 b2 b3).toNat) 3))
 | _, _ => none
theorem pwr_ok (args : List SV) (l : List (Nat × Reg)) (p : Ob) (v : SV) (h : rPw args l = some (p, v)) (hp : p.ok) : ∃ U, execF cxPw U Tryz.f97 64 args (memL l) fun v' _ => v' = v := by
 unfold rPw at h
 split at h
 ·rename_i a0 a1 a2 a3 b0 b1 b2 b3
  simp only [Option.some.injEq, Prod.mk.injEq] at h
  obtain ⟨rfl, rfl⟩ := h
  have hp : (Wd a0 ∧ Wd a1 ∧ Wd a2 ∧ Wd a3) ∧ (Wd b0 ∧ Wd b1 ∧ Wd b2 ∧ Wd b3) := hp
  have A := ws_of hp.1.1 hp.1.2.1 hp.1.2.2.1 hp.1.2.2.2
  have B := ws_of hp.2.1 hp.2.2.1 hp.2.2.2.1 hp.2.2.2.2
  rw [pw_eq B.lt]
  exact ⟨_, pw_walk A B fun _ => rfl⟩
 ·cases h
def cPw : Rd Tryz.prog := mkR mixed 97 Tryz.func97 (by decide) (by kernel_rfl) [] [.num, .num] rPw pwr_ok
def cxSb : Cx Tryz.prog := { rds := [cSm, cPP], efs := [], eqs := [] }
theorem vc_sbn (a0 a1 a2 a3 b0 b1 b2 b3 : Int) (K : SV → Mem → Prop) : (execF cxSb u9 Tryz.f19 64 [ag4 a0 a1 a2 a3, ag4 b0 b1 b2 b3] (memL []) K) = (∀ a, a = a0 → ∀ b, b = a1 → ∀ c, c = a2 → ∀ d, d = a3 → ∀ e, e = b0 → ∀ f, f = b1 → ∀ g, g =
 b2 → ∀ h, h = b3 → ((((Wd a ∧ Wd b ∧ Wd c ∧ Wd d) ∧ (Wd e ∧ Wd f ∧ Wd g ∧ Wd h) ∧ Wd (4332616871279656263 : Int) ∧ Wd (10917124144477883021 : Int) ∧ Wd (13281191951274694749 : Int) ∧ Wd (3486998266802970665 : Int)) ∧ V4 a b c d <
 21888242871839275222246405745257275088696311157297823662689037894645226208583 ∧ V4 e f g h < 21888242871839275222246405745257275088696311157297823662689037894645226208583) ∧ ∀ i, i = lm (Int.toNat ((V4 a b c d - V4 e f g h) %
 21888242871839275222246405745257275088696311157297823662689037894645226208583)) 0 → ∀ j, j = lm (Int.toNat ((V4 a b c d - V4 e f g h) % 21888242871839275222246405745257275088696311157297823662689037894645226208583)) 1 → ∀ k, k = lm
 (Int.toNat ((V4 a b c d - V4 e f g h) % 21888242871839275222246405745257275088696311157297823662689037894645226208583)) 2 → ∀ l, l = lm (Int.toNat ((V4 a b c d - V4 e f g h) %
 21888242871839275222246405745257275088696311157297823662689037894645226208583)) 3 → K (.agg [.int .u64 (.sym i), .int .u64 (.sym j), .int .u64 (.sym k), .int .u64 (.sym l)]) (memL [(513, ⟨false, .cells [.int .u64 (.sym a0), .int .u64 (.sym
 a1), .int .u64 (.sym a2), .int .u64 (.sym a3)]⟩), (521, ⟨false, .cells [.int .u64 (.sym b0), .int .u64 (.sym b1), .int .u64 (.sym b2), .int .u64 (.sym b3)]⟩), (529, ⟨false, .cells [.int .u64 (.sym i), .int .u64 (.sym j), .int .u64 (.sym
 k), .int .u64 (.sym l)]⟩)]))) := by kernel_rfl
theorem sub_int {A B : Nat} (hB : B < qN) : (((A : Int) - (B : Int)) % (qN : Int)).toNat = (A + (qN - B)) % qN := by
 rw [show (A : Int) - (B : Int) = ((A + (qN - B) : Nat) : Int) + (qN : Int) * (-1) by omega, Int.add_mul_emod_self_left]
 omega
def rSb : R0 := fun args l =>
 match args, l with
 | [.agg [.int .u64 (.sym a0), .int .u64 (.sym a1), .int .u64 (.sym a2), .int .u64 (.sym a3)], .agg [.int .u64 (.sym b0), .int .u64 (.sym b1), .int .u64 (.sym b2), .int .u64 (.sym b3)]], [] => some (some (((Wd a0 ∧ Wd a1 ∧ Wd a2 ∧ Wd a3) ∧ (Wd b0 ∧ Wd b1 ∧ Wd b2 ∧ Wd b3)) ∧ V4 a0 a1 a2 a3 < qN ∧ V4 b0 b1 b2 b3 < qN), ag4 (lm (((V4 a0 a1 a2 a3).toNat + (qN - (V4 b0 b1 b2 b3).toNat)) % qN) 0) (lm (((V4 a0 a1 a2 a3).toNat + (qN - (V4 b0 b1 b2 b3).toNat)) % qN) 1) (lm (((V4 a0 a1 a2 a3).toNat + (qN - (V4 b0 b1 b2 b3).toNat)) % qN) 2) (lm (((V4 a0 a1 a2 a3).toNat + (qN - (V4 b0 b1 b2 b3).toNat)) % qN) 3))
 | _, _ => none
theorem sbn_ok (args : List SV) (l : List (Nat × Reg)) (p : Ob) (v : SV) (h : rSb args l = some (p, v)) (hp : p.ok) : ∃ U, execF cxSb U Tryz.f19 64 args (memL l) fun v' _ => v' = v := by
 unfold rSb at h
 split at h
 ·rename_i a0 a1 a2 a3 b0 b1 b2 b3
  simp only [Option.some.injEq, Prod.mk.injEq] at h
  obtain ⟨rfl, rfl⟩ := h
  have hp : ((Wd a0 ∧ Wd a1 ∧ Wd a2 ∧ Wd a3) ∧ (Wd b0 ∧ Wd b1 ∧ Wd b2 ∧ Wd b3)) ∧ V4 a0 a1 a2 a3 < qN ∧ V4 b0 b1 b2 b3 < qN := hp
  obtain ⟨⟨ha, hb⟩, hA, hB⟩ := hp
  have A := ws_of ha.1 ha.2.1 ha.2.2.1 ha.2.2.2
  have B := ws_of hb.1 hb.2.1 hb.2.2.1 hb.2.2.2
  refine ⟨u9, ?_⟩
  have := vc_sbn a0 a1 a2 a3 b0 b1 b2 b3 fun v' _ => v' = ag4 (lm (((V4 a0 a1 a2 a3).toNat + (qN - (V4 b0 b1 b2 b3).toNat)) % qN) 0) (lm (((V4 a0 a1 a2 a3).toNat + (qN - (V4 b0 b1 b2 b3).toNat)) % qN) 1) (lm (((V4 a0 a1 a2 a3).toNat + (qN - (V4 b0 b1 b2 b3).toNat)) % qN) 2) (lm (((V4 a0 a1 a2 a3).toNat + (qN - (V4 b0 b1 b2 b3).toNat)) % qN) 3)
  unfold ag4 at this
  refine this.mpr ?_
  clear this
  intro s1_0 ks1_0 s1_1 ks1_1 s1_2 ks1_2 s1_3 ks1_3 s1_4 ks1_4 s1_5 ks1_5 s1_6 ks1_6 s1_7 ks1_7; subst s1_0 s1_1 s1_2 s1_3 s1_4 s1_5 s1_6 s1_7
  refine ⟨⟨⟨ha, hb, wdq0, wdq1, wdq2, wdq3⟩, hA, hB⟩, ?_⟩
  have e := sub_int (A := (V4 a0 a1 a2 a3).toNat) (B := (V4 b0 b1 b2 b3).toNat) (by have := Ws.val B; omega)
  rw [← Ws.val A, ← Ws.val B] at e
  rw [show (((V4 a0 a1 a2 a3) - (V4 b0 b1 b2 b3)) % 21888242871839275222246405745257275088696311157297823662689037894645226208583).toNat = _ from e]
  rintro _ rfl _ rfl _ rfl _ rfl
  rfl
 ·cases h
def cSb : Rd Tryz.prog := mkR mixed 19 Tryz.func19 (by decide) (by kernel_rfl) [] [.num, .num] rSb sbn_ok
def cxHd : Cx Tryz.prog := { rds := [cWs], efs := [], eqs := [] }
theorem vc_hd (a0 a1 a2 a3 b0 b1 b2 b3 : Int) (K : SV → Mem → Prop) : (execF cxHd u9 Tryz.f44 64 [ag4 a0 a1 a2 a3, ag4 b0 b1 b2 b3] (memL []) K) = (∀ m, m = Int.tmod a0 (2 : Int) → ((m == 1) = true → ∀ a, a = a0 → ∀ b, b = a1 → ∀ c, c = a2
 → ∀ d, d = a3 → ∀ e, e = b0 → ∀ f, f = b1 → ∀ g, g = b2 → ∀ h, h = b3 → (((Wd a ∧ Wd b ∧ Wd c ∧ Wd d) ∧ Wd e ∧ Wd f ∧ Wd g ∧ Wd h) ∧ ∀ E, E = shrv .u64 (lm (w256 (V4 a b c d + V4 e f g h)) 0) 1 → ∀ F, F = shlv .u64 (lm (w256 (V4 a b c d +
 V4 e f g h)) 1) 63 → ∀ i, i = IntKind.wrap IntKind.u64 (E + F) → ∀ G, G = shrv .u64 (lm (w256 (V4 a b c d + V4 e f g h)) 1) 1 → ∀ H, H = shlv .u64 (lm (w256 (V4 a b c d + V4 e f g h)) 2) 63 → ∀ j, j = IntKind.wrap IntKind.u64 (G + H) → ∀
 I, I = shrv .u64 (lm (w256 (V4 a b c d + V4 e f g h)) 2) 1 → ∀ J, J = shlv .u64 (lm (w256 (V4 a b c d + V4 e f g h)) 3) 63 → ∀ k, k = IntKind.wrap IntKind.u64 (I + J) → ∀ l, l = shrv .u64 (lm (w256 (V4 a b c d + V4 e f g h)) 3) 1 → (decide
 (115792089237316195423570985008687907853269984665640564039457584007913129639936 ≤ V4 a b c d + V4 e f g h) = true → ∀ n, n = IntKind.wrap IntKind.u64 (l + 9223372036854775808) → ∀ o, o = i → ∀ p, p = j → ∀ q, q = k → ∀ r, r = n → K (.agg
 [.int .u64 (.sym o), .int .u64 (.sym p), .int .u64 (.sym q), .int .u64 (.sym r)]) (memL [(513, ⟨false, .cells [.int .u64 (.sym i), .int .u64 (.sym j), .int .u64 (.sym k), .int .u64 (.sym n)]⟩), (521, ⟨false, .cells [.int .u64 (.sym b0),
 .int .u64 (.sym b1), .int .u64 (.sym b2), .int .u64 (.sym b3)]⟩), (529, ⟨false, .cells [.int .u64 (.sym o), .int .u64 (.sym p), .int .u64 (.sym q), .int .u64 (.sym r)]⟩)])) ∧ (decide
 (115792089237316195423570985008687907853269984665640564039457584007913129639936 ≤ V4 a b c d + V4 e f g h) = false → ∀ s, s = i → ∀ t, t = j → ∀ u, u = k → ∀ v, v = l → K (.agg [.int .u64 (.sym s), .int .u64 (.sym t), .int .u64 (.sym u),
 .int .u64 (.sym v)]) (memL [(513, ⟨false, .cells [.int .u64 (.sym i), .int .u64 (.sym j), .int .u64 (.sym k), .int .u64 (.sym l)]⟩), (521, ⟨false, .cells [.int .u64 (.sym b0), .int .u64 (.sym b1), .int .u64 (.sym b2), .int .u64 (.sym
 b3)]⟩), (529, ⟨false, .cells [.int .u64 (.sym s), .int .u64 (.sym t), .int .u64 (.sym u), .int .u64 (.sym v)]⟩)])))) ∧ ((m == 1) = false → ∀ L, L = shrv .u64 a0 1 → ∀ M, M = shlv .u64 a1 63 → ∀ w, w = IntKind.wrap IntKind.u64 (L + M) → ∀
 N, N = shrv .u64 a1 1 → ∀ O, O = shlv .u64 a2 63 → ∀ x, x = IntKind.wrap IntKind.u64 (N + O) → ∀ Q, Q = shrv .u64 a2 1 → ∀ R, R = shlv .u64 a3 63 → ∀ y, y = IntKind.wrap IntKind.u64 (Q + R) → ∀ z, z = shrv .u64 a3 1 → ∀ A, A = w → ∀ B, B =
 x → ∀ C, C = y → ∀ D, D = z → K (.agg [.int .u64 (.sym A), .int .u64 (.sym B), .int .u64 (.sym C), .int .u64 (.sym D)]) (memL [(513, ⟨false, .cells [.int .u64 (.sym w), .int .u64 (.sym x), .int .u64 (.sym y), .int .u64 (.sym z)]⟩), (521,
 ⟨false, .cells [.int .u64 (.sym b0), .int .u64 (.sym b1), .int .u64 (.sym b2), .int .u64 (.sym b3)]⟩), (529, ⟨false, .cells [.int .u64 (.sym A), .int .u64 (.sym B), .int .u64 (.sym C), .int .u64 (.sym D)]⟩)]))) := by kernel_rfl
def hvm (a m : Nat) : Nat := if a % 2 = 1 then (a + m) / 2 else a / 2
theorem sr1 {z : Int} (hz : Wd z) : shrv .u64 z 1 = z / 2 := by rw [shr64 hz.1 (by omega)]; rfl
theorem sl63 (z : Int) : shlv .u64 z 63 = z * 9223372036854775808 % 18446744073709551616 := by
 unfold shlv
 rw [wu64, show min 63 IntKind.u64.bits = 63 by simp [IntKind.bits]]
 rfl
theorem w256_int {x : Int} : ((w256 x : Nat) : Int) = x % 115792089237316195423570985008687907853269984665640564039457584007913129639936 := by unfold w256; omega
theorem hv_words {a0 a1 a2 a3 y0 y1 y2 y3 y4 y5 y6 y7 y8 y9 : Int} (h0 : Wd a0) (h1 : Wd a1) (h2 : Wd a2) (h3 : Wd a3) (g0 : y0 = shrv .u64 a0 1) (g1 : y1 = shlv .u64 a1 63) (g2 : y2 = IntKind.u64.wrap (y0 + y1))
  (g3 : y3 = shrv .u64 a1 1) (g4 : y4 = shlv .u64 a2 63) (g5 : y5 = IntKind.u64.wrap (y3 + y4)) (g6 : y6 = shrv .u64 a2 1) (g7 : y7 = shlv .u64 a3 63) (g8 : y8 = IntKind.u64.wrap (y6 + y7)) (g9 : y9 = shrv .u64 a3 1) :
  (Wd y2 ∧ Wd y5 ∧ Wd y8 ∧ 0 ≤ y9 ∧ y9 < 9223372036854775808) ∧ V4 y2 y5 y8 y9 = V4 a0 a1 a2 a3 / 2 := by
 rw [sr1 h0] at g0
 rw [sr1 h1] at g3
 rw [sr1 h2] at g6
 rw [sr1 h3] at g9
 rw [sl63] at g1 g4 g7
 rw [wu64] at g2 g5 g8
 unfold Wd V4 at *
 omega
def rHd : R0 := fun args l =>
 match args, l with
 | [.agg [.int .u64 (.sym a0), .int .u64 (.sym a1), .int .u64 (.sym a2), .int .u64 (.sym a3)], .agg [.int .u64 (.sym b0), .int .u64 (.sym b1), .int .u64 (.sym b2), .int .u64 (.sym b3)]], [] => some (some ((Wd a0 ∧ Wd a1 ∧ Wd a2 ∧ Wd a3) ∧ (Wd b0 ∧ Wd b1 ∧ Wd b2 ∧ Wd b3)), ag4 (lm (hvm (V4 a0 a1 a2 a3).toNat (V4 b0 b1 b2 b3).toNat) 0) (lm (hvm (V4 a0 a1 a2 a3).toNat (V4 b0 b1 b2 b3).toNat) 1) (lm (hvm (V4 a0 a1 a2 a3).toNat (V4 b0 b1 b2 b3).toNat) 2) (lm (hvm (V4 a0 a1 a2 a3).toNat (V4 b0 b1 b2 b3).toNat) 3))
 | _, _ => none
theorem hd_ok (args : List SV) (l : List (Nat × Reg)) (p : Ob) (v : SV) (h : rHd args l = some (p, v)) (hp : p.ok) : ∃ U, execF cxHd U Tryz.f44 64 args (memL l) fun v' _ => v' = v := by
 unfold rHd at h
 split at h
 ·rename_i a0 a1 a2 a3 b0 b1 b2 b3
  simp only [Option.some.injEq, Prod.mk.injEq] at h
  obtain ⟨rfl, rfl⟩ := h
  have hp : (Wd a0 ∧ Wd a1 ∧ Wd a2 ∧ Wd a3) ∧ (Wd b0 ∧ Wd b1 ∧ Wd b2 ∧ Wd b3) := hp
  obtain ⟨ha, hb⟩ := hp
  have A := ws_of ha.1 ha.2.1 ha.2.2.1 ha.2.2.2
  have B := ws_of hb.1 hb.2.1 hb.2.2.1 hb.2.2.2
  refine ⟨u9, ?_⟩
  have := vc_hd a0 a1 a2 a3 b0 b1 b2 b3 fun v' _ => v' = ag4 (lm (hvm (V4 a0 a1 a2 a3).toNat (V4 b0 b1 b2 b3).toNat) 0) (lm (hvm (V4 a0 a1 a2 a3).toNat (V4 b0 b1 b2 b3).toNat) 1) (lm (hvm (V4 a0 a1 a2 a3).toNat (V4 b0 b1 b2 b3).toNat) 2) (lm (hvm (V4 a0 a1 a2 a3).toNat (V4 b0 b1 b2 b3).toNat) 3)
  unfold ag4 at this
  refine this.mpr ?_
  clear this
  have nA := V4_nonneg ha.1 ha.2.1 ha.2.2.1 ha.2.2.2
  have nB := V4_nonneg hb.1 hb.2.1 hb.2.2.1 hb.2.2.2
  have lA := V4_lt ha.1 ha.2.1 ha.2.2.1 ha.2.2.2
  have lB := V4_lt hb.1 hb.2.1 hb.2.2.1 hb.2.2.2
  intro x0 h0
  rw [Int.tmod_eq_emod_of_nonneg ha.1.1] at h0
  have par : x0 = (V4 a0 a1 a2 a3).toNat % 2 := by unfold V4 at nA ⊢; omega
  refine ⟨fun hc => ?_, fun hc => ?_⟩
  ·have hc : x0 = 1 := by simpa using hc
   intro s2_0 ks2_0 s2_1 ks2_1 s2_2 ks2_2 s2_3 ks2_3 s2_4 ks2_4 s2_5 ks2_5 s2_6 ks2_6 s2_7 ks2_7; subst s2_0 s2_1 s2_2 s2_3 s2_4 s2_5 s2_6 s2_7
   refine ⟨⟨ha, hb⟩, ?_⟩
   have W := lm_wd (w256 (V4 a0 a1 a2 a3 + V4 b0 b1 b2 b3))
   have eS := lm_val (x := w256 (V4 a0 a1 a2 a3 + V4 b0 b1 b2 b3)) (w256_lt _)
   generalize hS : w256 (V4 a0 a1 a2 a3 + V4 b0 b1 b2 b3) = S at W eS ⊢
   have hS' : (S : Int) = (V4 a0 a1 a2 a3 + V4 b0 b1 b2 b3) % 115792089237316195423570985008687907853269984665640564039457584007913129639936 := by rw [← hS]; exact w256_int
   intro x9 h9 x10 h10 x11 h11 x12 h12 x13 h13 x14 h14 x15 h15 x16 h16 x17 h17 x18 h18
   obtain ⟨w, e⟩ := hv_words (W 0) (W 1) (W 2) (W 3) h9 h10 h11 h12 h13 h14 h15 h16 h17 h18
   rw [eS] at e
   refine ⟨fun hd => ?_, fun hd => ?_⟩
   ·have hd := of_decide_eq_true hd
    intro x19 h19
    rw [wu64] at h19
    intro y0 k0 y1 k1 y2 k2 y3 k3
    obtain ⟨q0, q1, q2, q3⟩ := lm_of w.1 w.2.1 w.2.2.1 (d := x19) (by unfold Wd; omega) (x := hvm (V4 a0 a1 a2 a3).toNat (V4 b0 b1 b2 b3).toNat) (by rw [show V4 x11 x14 x17 x19 = V4 x11 x14 x17 x18 + 57896044618658097711785492504343953926634992332820282019728792003956564819968 by unfold V4; omega, e]; unfold hvm; rw [if_pos (by omega)]; omega)
    rw [k0, k1, k2, k3, ← q0, ← q1, ← q2, ← q3]
   ·have hd := of_decide_eq_false hd
    intro y0 k0 y1 k1 y2 k2 y3 k3
    obtain ⟨q0, q1, q2, q3⟩ := lm_of w.1 w.2.1 w.2.2.1 (d := x18) (by unfold Wd; omega) (x := hvm (V4 a0 a1 a2 a3).toNat (V4 b0 b1 b2 b3).toNat) (by rw [e]; unfold hvm; rw [if_pos (by omega)]; omega)
    rw [k0, k1, k2, k3, ← q0, ← q1, ← q2, ← q3]
  ·have hc : ¬ x0 = 1 := by simpa using hc
   intro x28 h28 x29 h29 x30 h30 x31 h31 x32 h32 x33 h33 x34 h34 x35 h35 x36 h36 x37 h37
   obtain ⟨w, e⟩ := hv_words ha.1 ha.2.1 ha.2.2.1 ha.2.2.2 h28 h29 h30 h31 h32 h33 h34 h35 h36 h37
   intro y0 k0 y1 k1 y2 k2 y3 k3
   obtain ⟨q0, q1, q2, q3⟩ := lm_of w.1 w.2.1 w.2.2.1 (d := x37) (by unfold Wd; omega) (x := hvm (V4 a0 a1 a2 a3).toNat (V4 b0 b1 b2 b3).toNat) (by rw [e]; unfold hvm; rw [if_neg (by omega)]; omega)
   rw [k0, k1, k2, k3, ← q0, ← q1, ← q2, ← q3]
 ·cases h
def cHd : Rd Tryz.prog := mkR mixed 44 Tryz.func44 (by decide) (by kernel_rfl) [] [.num, .num] rHd hd_ok
end Go.Sx
namespace Go.Sx
open Go Go.Proofs
set_option maxRecDepth 100000
theorem run_eq23 (n : Nat) (a b c d a' b' c' d' : Int) (w : World) : (Op.equalIn (n + 2) 24 (.agg #[.int .u64 a, .int .u64 b, .int .u64 c, .int .u64 d]) (.agg #[.int .u64 a', .int .u64 b', .int .u64 c', .int .u64 d'])).run Tryz.prog w =
  .ok (a == a' && b == b' && c == c' && d == d') w := by
 have u3 := Tryz.underlying23
 have a3 := Tryz.isAgg23
 have z3 := Tryz.sizeOf23
 rw [show n + 2 = n + 1 + 1 from rfl, Op.equalIn]
 simp only [Sem.run_bind, run_underlying Tryz.underlying24, Result.andThen_ok]
 simp only [Std.Legacy.Range.forIn_eq_forIn_range', Std.Legacy.Range.size, Nat.sub_zero, Nat.add_sub_cancel, Nat.div_one, List.range'_succ, List.range'_zero, List.forIn_cons, List.forIn_nil]
 go_simp
 by_cases h1 : a = a' <;> by_cases h2 : b = b' <;> by_cases h3 : c = c' <;> by_cases h4 : d = d' <;> simp [h1, h2, h3, h4]
theorem run_eq23' (a b c d a' b' c' d' : Int) (w : World) : (Op.equal 24 (.agg #[.int .u64 a, .int .u64 b, .int .u64 c, .int .u64 d]) (.agg #[.int .u64 a', .int .u64 b', .int .u64 c', .int .u64 d'])).run Tryz.prog w =
  .ok (a == a' && b == b' && c == c' && d == d') w := run_eq23 9998 a b c d a' b' c' d' w
def eq23 : Eqs Tryz.prog where
 t := 24
 n := 4
 guard := by kernel_rfl
 sound := fun xs ys w hx hy => by
  match xs, ys, hx, hy with
  | [a, b, c, d], [a', b', c', d'], _, _ =>
   have := run_eq23' a b c d a' b' c' d' w
   refine this.trans ?_
   congr 1
   by_cases h1 : a = a' <;> by_cases h2 : b = b' <;> by_cases h3 : c = c' <;> by_cases h4 : d = d' <;> simp [h1, h2, h3, h4]
theorem run_eq27 (a b c d e f g h a' b' c' d' e' f' g' h' : Int) (w : World) : (Op.equal 26 (.agg #[.int .u64 a, .int .u64 b, .int .u64 c, .int .u64 d, .int .u64 e, .int .u64 f, .int .u64 g, .int .u64 h]) (.agg #[.int .u64 a', .int .u64 b', .int .u64 c', .int .u64 d', .int .u64 e', .int .u64 f', .int .u64 g', .int .u64 h'])).run Tryz.prog w =
  .ok ((a == a' && b == b' && c == c' && d == d') && (e == e' && f == f' && g == g' && h == h')) w := by
 have z4 := Tryz.sizeOf24
 have a4 := Tryz.isAgg24
 unfold Op.equal Op.maxDepth
 rw [show (10000 : Nat) = 9999 + 1 from rfl, run_equalIn_struct w 9999 26 _ _ (by kernel_rfl) (by kernel_rfl)]
 rw [show (Program.fieldsOf Tryz.prog 26).toList = [⟨ "X", 24, 0, false, "", "", 0⟩, ⟨ "Y", 24, 4, false, "", "", 32⟩] by kernel_rfl]
 simp only [Op.eqFields]
 go_simp
 rw [show (9999 : Nat) = 9997 + 2 from rfl, run_eq23]
 have e2 := run_eq23 9997 e f g h e' f' g' h' w
 rw [show (9997 : Nat) + 2 = 9999 from rfl] at e2
 simp only [Result.andThen_ok]
 by_cases h1 : a = a' <;> by_cases h2 : b = b' <;> by_cases h3 : c = c' <;> by_cases h4 : d = d' <;> simp [h1, h2, h3, h4, e2]
 by_cases h5 : e = e' <;> by_cases h6 : f = f' <;> by_cases h7 : g = g' <;> by_cases h8 : h = h' <;> simp [h5, h6, h7, h8]
def eq27 : Eqs Tryz.prog where
 t := 26
 n := 8
 guard := by kernel_rfl
 sound := fun xs ys w hx hy => by
  match xs, ys, hx, hy with
  | [a, b, c, d, e, f, g, h], [a', b', c', d', e', f', g', h'], _, _ =>
   have := run_eq27 a b c d e f g h a' b' c' d' e' f' g' h' w
   refine this.trans ?_
   congr 1
   simp only [List.cons.injEq, and_true]
   by_cases h1 : a = a' <;> by_cases h2 : b = b' <;> by_cases h3 : c = c' <;> by_cases h4 : d = d' <;> by_cases h5 : e = e' <;> by_cases h6 : f = f' <;> by_cases h7 : g = g' <;> by_cases h8 : h = h' <;> simp [h1, h2, h3, h4, h5, h6, h7, h8]
theorem run_eq43 (a b c d e f g h a' b' c' d' e' f' g' h' : Int) (w : World) : (Op.equal 44 (.agg #[.int .u64 a, .int .u64 b, .int .u64 c, .int .u64 d, .int .u64 e, .int .u64 f, .int .u64 g, .int .u64 h]) (.agg #[.int .u64 a', .int .u64 b', .int .u64 c', .int .u64 d', .int .u64 e', .int .u64 f', .int .u64 g', .int .u64 h'])).run Tryz.prog w =
  .ok ((a == a' && b == b' && c == c' && d == d') && (e == e' && f == f' && g == g' && h == h')) w := by
 have z4 := Tryz.sizeOf24
 have a4 := Tryz.isAgg24
 unfold Op.equal Op.maxDepth
 rw [show (10000 : Nat) = 9999 + 1 from rfl, run_equalIn_struct w 9999 44 _ _ (by kernel_rfl) (by kernel_rfl)]
 rw [show (Program.fieldsOf Tryz.prog 44).toList = [⟨ "A0", 24, 0, false, "", "", 0⟩, ⟨ "A1", 24, 4, false, "", "", 32⟩] by kernel_rfl]
 simp only [Op.eqFields]
 go_simp
 rw [show (9999 : Nat) = 9997 + 2 from rfl, run_eq23]
 have e2 := run_eq23 9997 e f g h e' f' g' h' w
 rw [show (9997 : Nat) + 2 = 9999 from rfl] at e2
 simp only [Result.andThen_ok]
 by_cases h1 : a = a' <;> by_cases h2 : b = b' <;> by_cases h3 : c = c' <;> by_cases h4 : d = d' <;> simp [h1, h2, h3, h4, e2]
 by_cases h5 : e = e' <;> by_cases h6 : f = f' <;> by_cases h7 : g = g' <;> by_cases h8 : h = h' <;> simp [h5, h6, h7, h8]
def eq43 : Eqs Tryz.prog where
 t := 44
 n := 8
 guard := by kernel_rfl
 sound := fun xs ys w hx hy => by
  match xs, ys, hx, hy with
  | [a, b, c, d, e, f, g, h], [a', b', c', d', e', f', g', h'], _, _ =>
   have := run_eq43 a b c d e f g h a' b' c' d' e' f' g' h' w
   refine this.trans ?_
   congr 1
   simp only [List.cons.injEq, and_true]
   by_cases h1 : a = a' <;> by_cases h2 : b = b' <;> by_cases h3 : c = c' <;> by_cases h4 : d = d' <;> by_cases h5 : e = e' <;> by_cases h6 : f = f' <;> by_cases h7 : g = g' <;> by_cases h8 : h = h' <;> simp [h1, h2, h3, h4, h5, h6, h7, h8]
end Go.Sx
namespace Go.Sx
open Go Go.Proofs Go.Num
set_option maxRecDepth 100000
def St.v4 (st : St) (r : Nat) : Int :=
 match st.m.get r with
 | some ⟨_, .cells [.int _ a, .int _ b, .int _ c, .int _ d]⟩ => V4 a.val b.val c.val d.val
 | some ⟨_, .ints _ [a, b, c, d]⟩ => V4 a b c d
 | _ => 0
structure ImI where
 u0 : Int
 u1 : Int
 u2 : Int
 u3 : Int
 v0 : Int
 v1 : Int
 v2 : Int
 v3 : Int
 x0 : Int
 x1 : Int
 x2 : Int
 x3 : Int
 y0 : Int
 y1 : Int
 y2 : Int
 y3 : Int
structure InI where
 u0 : Int
 u1 : Int
 u2 : Int
 u3 : Int
 x0 : Int
 x1 : Int
 x2 : Int
 x3 : Int
def liIm (S : ImI → Prop) : LI where
 ι := ImI
 keep := [2, 3, 4, 5, 6, 7, 8]
 keepR := [513, 521, 529]
 F := fun i => ⟨[], [(569, ⟨false, w4 i.u0 i.u1 i.u2 i.u3⟩), (577, ⟨false, w4 i.v0 i.v1 i.v2 i.v3⟩), (585, ⟨false, w4 i.x0 i.x1 i.x2 i.x3⟩), (593, ⟨false, w4 i.y0 i.y1 i.y2 i.y3⟩)]⟩
 I := fun _ i => S i
 μ := fun i => (V4 i.u0 i.u1 i.u2 i.u3 + V4 i.v0 i.v1 i.v2 i.v3).toNat
def liI1 (T : Int → Int → InI → Prop) : LI where
 ι := InI
 keep := [2, 3, 4, 5, 6, 7, 8]
 keepR := [513, 521, 529, 577, 593]
 F := fun i => ⟨[], [(569, ⟨false, w4 i.u0 i.u1 i.u2 i.u3⟩), (585, ⟨false, w4 i.x0 i.x1 i.x2 i.x3⟩)]⟩
 I := fun st i => T (st.v4 569) (st.v4 577) i
 μ := fun i => (V4 i.u0 i.u1 i.u2 i.u3).toNat
def liI2 (T : Int → Int → InI → Prop) : LI where
 ι := InI
 keep := [2, 3, 4, 5, 6, 7, 8]
 keepR := [513, 521, 529, 569, 585]
 F := fun i => ⟨[], [(577, ⟨false, w4 i.u0 i.u1 i.u2 i.u3⟩), (593, ⟨false, w4 i.x0 i.x1 i.x2 i.x3⟩)]⟩
 I := fun st i => T (st.v4 569) (st.v4 577) i
 μ := fun i => (V4 i.u0 i.u1 i.u2 i.u3).toNat
def uIm (S : ImI → Prop) (T R : Int → Int → InI → Prop) : Nat → Lp := fun n =>
 match n with
 | 0 => .inv (liIm S)
 | 2 => .inv (liI1 T)
 | 4 => .inv (liI2 R)
 | _ => .un 0
def cxIm : Cx Tryz.prog := { rds := [cHv, cHd, cLs, cWd, cSm], efs := [], eqs := [eq23] }
end Go.Sx
namespace Go.Num
theorem sv1 {n : Nat} [NeZero n] (c w : Fin n) : (c - w) * (c + w) = c * c - w * w := by grobner
theorem sv2 {n : Nat} [NeZero n] (t : Fin n) : (1 + t) * (1 + t) = (1 - t) * (1 - t) + 4 * t := by grobner
theorem sv3 {n : Nat} [NeZero n] {u M D c3 : Fin n} (h3 : c3 * c3 = -12) : 16 * (u * M * D * c3 * (u * M * D * c3)) = -48 * (u * u * 4 * (D * M * (D * M))) := by
 rw [show u * M * D * c3 * (u * M * D * c3) = u * u * (D * M * (D * M)) * (c3 * c3) by grobner, h3]
 grobner
theorem sv4 {n : Nat} [NeZero n] {t M N D : Fin n} (hD : D * (M * N) = 1) (h : N * N = M * M + 4 * t) : 4 * (t * (D * M * (D * M))) = 1 - M * M * (M * M) * D * D := by
 have e : 4 * t = N * N - M * M := by rw [h]; grobner
 rw [show 4 * (t * (D * M * (D * M))) = 4 * t * (D * M * (D * M)) by grobner, e, show (N * N - M * M) * (D * M * (D * M)) = D * (M * N) * (D * (M * N)) - M * M * (M * M) * D * D by grobner, hD]
 grobner
theorem sv5 {n : Nat} [NeZero n] {M D c3 : Fin n} (h3 : c3 * c3 = -12) : c3 * M * M * D * (c3 * M * M * D) = -12 * (M * M * (M * M) * D * D) := by
 rw [show c3 * M * M * D * (c3 * M * M * D) = c3 * c3 * (M * M * (M * M) * D * D) by grobner, h3]
theorem svdw_p {n : Nat} [NeZero n] {u t N M D c2 c3 w x1 x2 : Fin n} (ht : t = u * u * 4) (hN : N = 1 + t) (hM : M = 1 - t) (hD : D * (M * N) = 1) (h2 : 4 * (c2 * c2) = 1) (h3 : c3 * c3 = -12)
  (hw : w = u * M * D * c3) (e1 : x1 = c2 - w) (e2 : x2 = c2 + w) : 16 * (x1 * x2 - 1) = c3 * M * M * D * (c3 * M * M * D) := by
 have a := sv1 c2 w
 have b : N * N = M * M + 4 * t := by rw [hN, hM]; exact sv2 t
 have c := sv3 (u := u) (M := M) (D := D) h3
 have d := sv4 hD b
 have f := sv5 (M := M) (D := D) h3
 rw [e1, e2, a, f]
 rw [← hw, ← ht] at c
 generalize M * M * (M * M) * D * D = Y at *
 generalize t * (D * M * (D * M)) = Z at *
 generalize c2 * c2 = C at *
 generalize w * w = W at *
 clear a b ht hN hM hD e1 e2 f hw
 grobner
theorem svdw_e {n : Nat} [NeZero n] {N M D c3 c4 p v x3 : Fin n} (hD : D * (M * N) = 1) (h3 : c3 * c3 = -12) (h4 : 3 * c4 = -16)
  (hp : 16 * p = c3 * M * M * D * (c3 * M * M * D)) (hv : v = N * N * D) (e3 : x3 = v * v * c4 + 1) : 16 * p * (x3 - 1) = 64 := by
 rw [hp, sv5 h3, e3, hv]
 rw [show -12 * (M * M * (M * M) * D * D) * (N * N * D * (N * N * D) * c4 + 1 - 1) = -4 * (3 * c4) * (D * (M * N)) * (D * (M * N)) * (D * (M * N)) * (D * (M * N)) by grobner, hD, h4]
 grobner
theorem svdw_g {n : Nat} [NeZero n] {p x1 x2 x3 e : Fin n} (hs : x1 + x2 = -1) (hp : p = x1 * x2 - 1) (he : p * e = 4) (h3 : x3 = 1 + e) :
  p * p * p * (x3 * x3 * x3 + 3) = 4 * ((x1 * x1 * x1 + 3) * (x2 * x2 * x2 + 3)) := by
 grobner
end Go.Num
namespace Go.Sx
open Go Go.Num
def inv0 (a : Nat) : Nat := pw qN 256 a (qN - 2)
theorem priN : Pri qN := pri_q
theorem inv0_eq (a : Nat) : inv0 a = a ^ (qN - 2) % qN := pw_eq (by decide)
theorem inv0_lt (a : Nat) : inv0 a < qN := by rw [inv0_eq]; exact Nat.mod_lt _ (by decide)
theorem inv0_zero : inv0 0 = 0 := by rw [inv0_eq, Nat.zero_pow (by decide)]; rfl
theorem inv0_mul {a : Nat} (h : a % qN ≠ 0) : inv0 a * a % qN = 1 := by
 rw [inv0_eq, Nat.mod_mul_mod, ← Nat.pow_succ, show (qN - 2).succ = qN - 1 by decide]
 exact fermat priN h
theorem inv0_unique {a x : Nat} (hx : x < qN) (h : x * a % qN = 1) : x = inv0 a := by
 have ha : a % qN ≠ 0 := by
  intro e
  rw [Nat.mul_mod, e, Nat.mul_zero] at h
  exact absurd h (by decide)
 have e := inv0_mul ha
 have e1 : x * a % qN * inv0 a % qN = inv0 a := by rw [h, Nat.one_mul, Nat.mod_eq_of_lt (inv0_lt a)]
 rw [Nat.mod_mul_mod, Nat.mul_assoc, Nat.mul_comm a, Nat.mul_mod, e, Nat.mul_one, Nat.mod_mod, Nat.mod_eq_of_lt hx] at e1
 exact e1
def e4N : Nat := 5472060717959818805561601436314318772174077789324455915672259473661306552146
def rtN (a : Nat) : Nat := pw qN 256 a e4N
theorem rtN_eq (a : Nat) : rtN a = a ^ e4N % qN := pw_eq (by decide)
theorem rtN_lt (a : Nat) : rtN a < qN := by rw [rtN_eq]; exact Nat.mod_lt _ (by decide)
theorem rt_gen {a k h : Nat} (e : k + k = h + 1) : a ^ k % qN * (a ^ k % qN) % qN = a ^ h % qN * a % qN := by
 rw [← Nat.mul_mod, ← Nat.pow_add, Nat.mod_mul_mod, ← Nat.pow_succ, e]
def ppN (a : Nat) : Nat := a ^ (qN / 2) % qN
theorem rtN_sq (a : Nat) : rtN a * rtN a % qN = ppN a * a % qN := by
 rw [rtN_eq]
 exact rt_gen (by decide)
theorem qN_odd : qN % 2 = 1 := by decide
theorem eulerN {a : Nat} (h : a % qN ≠ 0) : (J a qN = 1 ∧ ppN a = 1) ∨ (J a qN = -1 ∧ ppN a = qN - 1) := euler_mod priN qN_odd h
def lgN (z : Nat) : Int := if z = 0 then 0 else J z qN
def sqN (a : Nat) : Bool := decide (rtN a * rtN a % qN = a)
theorem neg_aux {q a z : Nat} (h : a < q) (h0 : a ≠ 0) (ho : q % 2 = 1) (e : z + a = q * a) : z % q ≠ a := by
 intro e1
 have h2 : z = q * (z / q) + a := by have := Nat.div_add_mod z q; omega
 have h3 : a + a = q * (a - z / q) := by
  rw [Nat.mul_sub]; omega
 have h4 : q ∣ 2 * a := ⟨a - z / q, by omega⟩
 have h5 : Nat.Coprime q 2 := by
  have : Nat.gcd q 2 = Nat.gcd 2 (q % 2) := by rw [Nat.gcd_comm, Nat.gcd_rec, Nat.gcd_comm]
  show Nat.gcd q 2 = 1
  rw [Nat.gcd_comm, Nat.gcd_rec, ho]
  rfl
 have h6 := Nat.Coprime.dvd_of_dvd_mul_left h5 h4
 exact absurd (Nat.le_of_dvd (by omega) h6) (by omega)
theorem neg_ne {a : Nat} (h : a < qN) (h0 : a ≠ 0) : (qN - 1) * a % qN ≠ a := neg_aux h h0 qN_odd (by rw [← Nat.succ_mul, show (qN - 1).succ = qN by decide])
theorem sqN_iff {a : Nat} (h : a < qN) : sqN a = true ↔ lgN a ≠ -1 := by
 unfold sqN lgN
 rw [decide_eq_true_eq, rtN_sq]
 by_cases h0 : a = 0
 ·rw [h0, Nat.mul_zero, Nat.zero_mod, if_pos rfl]
  decide
 ·rw [if_neg h0]
  have hm : a % qN ≠ 0 := by rw [Nat.mod_eq_of_lt h]; exact h0
  rcases eulerN hm with ⟨e1, e2⟩ | ⟨e1, e2⟩
  ·rw [e2, Nat.one_mul, Nat.mod_eq_of_lt h]
   exact ⟨fun _ => by rw [e1]; decide, fun _ => rfl⟩
  ·rw [e2]
   exact ⟨fun e => absurd e (neg_ne h h0), fun e => absurd e1 e⟩
theorem lgN_cases {a : Nat} (h : a < qN) : lgN a = 0 ∨ lgN a = 1 ∨ lgN a = -1 := by
 unfold lgN
 by_cases h0 : a = 0
 ·simp [h0]
 ·rw [if_neg h0]
  exact .inr (J_sq qN_odd (by rw [Int.natAbs_natCast]; exact priN.cop (by omega) h))
instance : NeZero qN := ⟨by decide⟩
def fz (a : Nat) : Fin qN := Fin.ofNat qN a
theorem fz_add (a b : Nat) : fz (a + b) = fz a + fz b := by
 apply Fin.ext
 show (a + b) % qN = (a % qN + b % qN) % qN
 rw [Nat.add_mod]
theorem fz_mul (a b : Nat) : fz (a * b) = fz a * fz b := by
 apply Fin.ext
 show (a * b) % qN = (a % qN * (b % qN)) % qN
 rw [Nat.mul_mod]
theorem fz_mod (a : Nat) : fz (a % qN) = fz a := by
 apply Fin.ext
 show a % qN % qN = a % qN
 rw [Nat.mod_mod]
theorem fz_eq {a b : Nat} : fz a = fz b ↔ a % qN = b % qN := ⟨fun h => congrArg Fin.val h, fun h => Fin.ext h⟩
theorem fz_q (a : Nat) : fz (qN * a) = 0 := by
 apply Fin.ext
 show qN * a % qN = 0 % qN
 rw [Nat.mul_mod_right, Nat.zero_mod]
theorem fz_sub {a b : Nat} (h : b ≤ qN) : fz (a + (qN - b)) = fz a - fz b := by
 have e : fz (a + (qN - b)) + fz b = fz a := by
  rw [← fz_add, Nat.add_assoc, Nat.sub_add_cancel h, fz_add, show fz qN = 0 from fz_q 1]
  grobner
 rw [← e]
 grobner
theorem fz_half {x a u h w : Nat} (h1 : x * a % qN = u % qN) (h2 : fz (2 * h) = fz x) (h3 : fz (2 * w) = fz u) : h * a % qN = w % qN := by
 have i : fz (inv0 2) * fz 2 = 1 := by
  rw [← fz_mul]
  show _ = fz 1
  rw [fz_eq]
  decide +kernel
 have h1 := fz_eq.2 h1
 rw [fz_mul] at h1 h2 h3
 rw [← fz_eq, fz_mul]
 grobner
def c2N : Nat := 10944121435919637611123202872628637544348155578648911831344518947322613104291
def c3N : Nat := 8815841940592487685674414971303048083897117035520822607866
def c4N : Nat := 7296080957279758407415468581752425029565437052432607887563012631548408736189
def gN (x : Nat) : Nat := (x * (x * x % qN) % qN + 3) % qN
def tN (u : Nat) : Nat := u * u % qN * 4 % qN
def moN (u : Nat) : Nat := (1 + tN u) % qN
def leN (u : Nat) : Nat := (1 + (qN - tN u)) % qN
def ivN (u : Nat) : Nat := inv0 (leN u * moN u % qN)
def stN (u : Nat) : Nat := u * leN u % qN * ivN u % qN * c3N % qN
def x1N (u : Nat) : Nat := (c2N + (qN - stN u)) % qN
def x2N (u : Nat) : Nat := (c2N + stN u) % qN
def vvN (u : Nat) : Nat := moN u * moN u % qN * ivN u % qN
def x3N (u : Nat) : Nat := (vvN u * vvN u % qN * c4N % qN + 1) % qN
theorem fz_g (x : Nat) : fz (gN x) = fz x * fz x * fz x + 3 := by
 unfold gN
 rw [fz_mod, fz_add, fz_mod, fz_mul, fz_mod, fz_mul, show fz 3 = 3 from rfl]
 grobner
theorem tN_lt (u : Nat) : tN u < qN := Nat.mod_lt _ (by decide)
theorem stN_lt (u : Nat) : stN u < qN := Nat.mod_lt _ (by decide)
theorem gN_lt (x : Nat) : gN x < qN := Nat.mod_lt _ (by decide)
theorem fz_t (u : Nat) : fz (tN u) = fz u * fz u * 4 := by
 unfold tN
 rw [fz_mod, fz_mul, fz_mod, fz_mul]; rfl
theorem fz_mo (u : Nat) : fz (moN u) = 1 + fz (tN u) := by
 unfold moN
 rw [fz_mod, fz_add]; rfl
theorem fz_le (u : Nat) : fz (leN u) = 1 - fz (tN u) := by
 unfold leN
 rw [fz_mod, fz_sub (Nat.le_of_lt (tN_lt u))]; rfl
theorem fz_st (u : Nat) : fz (stN u) = fz u * fz (leN u) * fz (ivN u) * fz c3N := by
 unfold stN
 rw [fz_mod, fz_mul, fz_mod, fz_mul, fz_mod, fz_mul]
theorem fz_x1 (u : Nat) : fz (x1N u) = fz c2N - fz (stN u) := by
 unfold x1N
 rw [fz_mod, fz_sub (Nat.le_of_lt (stN_lt u))]
theorem fz_x2 (u : Nat) : fz (x2N u) = fz c2N + fz (stN u) := by
 unfold x2N
 rw [fz_mod, fz_add]
theorem fz_vv (u : Nat) : fz (vvN u) = fz (moN u) * fz (moN u) * fz (ivN u) := by
 unfold vvN
 rw [fz_mod, fz_mul, fz_mod, fz_mul]
theorem fz_x3 (u : Nat) : fz (x3N u) = fz (vvN u) * fz (vvN u) * fz c4N + 1 := by
 unfold x3N
 rw [fz_mod, fz_add, fz_mod, fz_mul, fz_mod, fz_mul]; rfl
theorem fz_c2 : 4 * (fz c2N * fz c2N) = 1 := by
 show fz 4 * (fz c2N * fz c2N) = fz 1
 rw [← fz_mul, ← fz_mul, fz_eq]
 decide +kernel
theorem fz_c2' : fz c2N + fz c2N = -1 := by
 have : fz c2N + fz c2N + 1 = 0 := by
  show fz c2N + fz c2N + fz 1 = fz 0
  rw [← fz_add, ← fz_add, fz_eq]
  decide +kernel
 grobner
theorem fz_c3 : fz c3N * fz c3N = -12 := by
 have : fz c3N * fz c3N + 12 = 0 := by
  show fz c3N * fz c3N + fz 12 = fz 0
  rw [← fz_mul, ← fz_add, fz_eq]
  decide +kernel
 grobner
theorem fz_c4 : 3 * fz c4N = -16 := by
 have : 3 * fz c4N + 16 = 0 := by
  show fz 3 * fz c4N + fz 16 = fz 0
  rw [← fz_mul, ← fz_add, fz_eq]
  decide +kernel
 grobner
theorem J_ne {a : Nat} (h : a % qN ≠ 0) : Nat.Coprime qN (a : Int).natAbs := by rw [Int.natAbs_natCast]; exact priN.cop_of h
theorem J_mod (a : Nat) : J ((a % qN : Nat) : Int) qN = J a qN := by
 have e : ((a % qN : Nat) : Int) + (qN : Int) * ((a / qN : Nat) : Int) = (a : Int) := by rw [← Int.natCast_mul, ← Int.natCast_add, Nat.mod_add_div]
 exact (J_period _).symm.trans (congrArg (fun z => J z qN) e)
theorem J_mulN {a b : Nat} (ha : a % qN ≠ 0) (hb : b % qN ≠ 0) : J ((a * b : Nat) : Int) qN = J a qN * J b qN := by
 rw [Int.natCast_mul]
 exact J_mul qN_odd (J_ne ha) (J_ne hb)
theorem J_self {a : Nat} (ha : a % qN ≠ 0) : J a qN * J a qN = 1 := by
 rcases J_sq qN_odd (J_ne ha) with h | h <;> rw [h] <;> rfl
theorem lg_ne {a : Nat} (h : a < qN) (h1 : lgN a = -1) : a % qN ≠ 0 ∧ J a qN = -1 := by
 unfold lgN at h1
 by_cases h0 : a = 0
 ·rw [if_pos h0] at h1; exact absurd h1 (by decide)
 ·rw [if_neg h0] at h1
  exact ⟨by rw [Nat.mod_eq_of_lt h]; exact h0, h1⟩
theorem mul_ne {a b : Nat} (ha : a % qN ≠ 0) (hb : b % qN ≠ 0) : a * b % qN ≠ 0 := by
 intro h
 have := priN.cop_of ha
 have hd : qN ∣ a * b := Nat.dvd_of_mod_eq_zero h
 exact hb (Nat.mod_eq_zero_of_dvd (Nat.Coprime.dvd_of_dvd_mul_left (show Nat.Coprime qN a from this) hd))
theorem three {s g1 g2 g3 : Nat} (hs : s % qN ≠ 0) (h1 : g1 < qN) (h2 : g2 < qN) (h3 : g3 < qN) (h : s * s * g3 % qN = 128 * 128 * (g1 * g2) % qN) : ¬ (lgN g1 = -1 ∧ lgN g2 = -1 ∧ lgN g3 = -1) := by
 rintro ⟨e1, e2, e3⟩
 obtain ⟨n1, j1⟩ := lg_ne h1 e1
 obtain ⟨n2, j2⟩ := lg_ne h2 e2
 obtain ⟨n3, j3⟩ := lg_ne h3 e3
 have n128 : 128 % qN ≠ 0 := by decide
 have l : J ((s * s * g3 : Nat) : Int) qN = -1 := by rw [J_mulN (mul_ne hs hs) n3, J_mulN hs hs, J_self hs, j3]; rfl
 have r : J ((128 * 128 * (g1 * g2) : Nat) : Int) qN = 1 := by rw [J_mulN (mul_ne n128 n128) (mul_ne n1 n2), J_mulN n128 n128, J_self n128, J_mulN n1 n2, j1, j2]; rfl
 rw [← J_mod, h, J_mod, r] at l
 exact absurd l (by decide)
theorem fz_iv {u : Nat} (h : leN u * moN u % qN ≠ 0) : fz (ivN u) * (fz (leN u) * fz (moN u)) = 1 := by
 unfold ivN
 rw [← fz_mul, ← fz_mod (leN u * moN u), ← fz_mul]
 show _ = fz 1
 rw [fz_eq, inv0_mul (by rw [Nat.mod_mod]; exact h)]
 rfl
theorem svdw (u : Nat) : sqN (gN (x1N u)) = true ∨ sqN (gN (x2N u)) = true ∨ sqN (gN (x3N u)) = true := by
 rw [sqN_iff (gN_lt _), sqN_iff (gN_lt _), sqN_iff (gN_lt _)]
 by_cases h0 : leN u * moN u % qN = 0
 ·right; right
  have hi : ivN u = 0 := by unfold ivN; rw [h0]; exact inv0_zero
  have hx : x3N u = 1 := by unfold x3N vvN; rw [hi]; simp; decide
  rw [hx, show gN 1 = 4 by decide]
  unfold lgN
  rw [if_neg (by decide), show ((4 : Nat) : Int) = ((2 * 2 : Nat) : Int) by rfl, J_mulN (by decide) (by decide), J_self (by decide)]
  decide
 ·have hD := fz_iv h0
  have hp := svdw_p (fz_t u) (fz_mo u) (fz_le u) hD fz_c2 fz_c3 (fz_st u) (fz_x1 u) (fz_x2 u)
  have he := svdw_e hD fz_c3 fz_c4 hp (fz_vv u) (fz_x3 u)
  have h16 : fz 16 * fz (inv0 16) = 1 := by
   rw [← fz_mul]
   show _ = fz 1
   rw [fz_eq]
   decide +kernel
  generalize hP : fz (x1N u) * fz (x2N u) - 1 = P at *
  have hpe : P * (fz (x3N u) - 1) = 4 := by
   have e1 : fz 16 * (P * (fz (x3N u) - 1)) = 64 := by rw [← he]; show (16 : Fin qN) * _ = _; grobner
   have e2 : fz (inv0 16) * (fz 16 * (P * (fz (x3N u) - 1))) = fz (inv0 16) * 64 := by rw [e1]
   have e3 : fz (inv0 16) * 64 = 4 := by
    show fz (inv0 16) * fz 64 = fz 4
    rw [← fz_mul, fz_eq]
    decide +kernel
   rw [e3] at e2
   rw [← e2]
   grobner
  have hg := svdw_g (p := P) (x1 := fz (x1N u)) (x2 := fz (x2N u)) (x3 := fz (x3N u)) (e := fz (x3N u) - 1) (by rw [fz_x1, fz_x2]; have := fz_c2'; grobner) hP.symm hpe (by grobner)
  rw [← fz_g, ← fz_g, ← fz_g] at hg
  have key : ∀ s : Nat, fz s = fz c3N * fz (leN u) * fz (leN u) * fz (ivN u) → (s * s * s) * (s * s * s) * gN (x3N u) % qN = 128 * 128 * (gN (x1N u) * gN (x2N u)) % qN := by
   intro s hs
   rw [← fz_eq]
   simp only [fz_mul, hs]
   rw [← hs] at hp
   rw [← hs]
   rw [show fz s * fz s * fz s * (fz s * fz s * fz s) = (fz s * fz s) * (fz s * fz s) * (fz s * fz s) by grobner, ← hp,
    show 16 * P * (16 * P) * (16 * P) * fz (gN (x3N u)) = 16 * 16 * 16 * (P * P * P * fz (gN (x3N u))) by grobner, hg, show fz 128 = 128 from rfl]
   grobner
  have k := key (c3N * leN u * leN u * ivN u) (by simp only [fz_mul])
  have hs0 : (c3N * leN u * leN u * ivN u) % qN ≠ 0 := by
   intro h
   have : fz (c3N * leN u * leN u * ivN u) = fz 0 := fz_eq.2 (by rw [h]; rfl)
   simp only [fz_mul] at this
   rw [this, show fz 0 = 0 from rfl] at hp
   have h64 : (64 : Fin qN) = 0 := by rw [← he, hp]; grobner
   exact absurd h64 (by decide)
  have t := three (mul_ne (mul_ne hs0 hs0) hs0) (gN_lt _) (gN_lt _) (gN_lt _) k
  by_cases a : lgN (gN (x1N u)) = -1
  ·by_cases b : lgN (gN (x2N u)) = -1
   ·exact .inr (.inr fun c => t ⟨a, b, c⟩)
   ·exact .inr (.inl b)
  ·exact .inl a
end Go.Sx
namespace Go.Sx
open Go Go.Proofs Go.Num
set_option maxRecDepth 100000
theorem hvm_lt {X : Nat} (h : X < qN) : hvm X qN < qN := by
 unfold hvm
 split <;> omega
theorem hv_cong {X A U : Nat} (h : X * A % qN = U % qN) (hU : U % 2 = 0) : hvm X qN * A % qN = U / 2 % qN := by
 refine fz_half h ?_ (by rw [show 2 * (U / 2) = U by omega])
 unfold hvm
 split
 ·rw [show 2 * ((X + qN) / 2) = X + qN by have := qN_odd; omega, fz_add, show fz qN = 0 from fz_q 1]
  grobner
 ·rw [show 2 * (X / 2) = X by omega]
theorem sub_cong {X Y A U V : Nat} (hX : X < qN) (h : X * A % qN = U % qN) (g : Y * A % qN = V % qN) (hUV : U ≤ V) : (((Y : Int) - (X : Int)) % (qN : Int)).toNat * A % qN = (V - U) % qN := by
 rw [sub_int hX]
 have h1 := fz_eq.2 h
 have g1 := fz_eq.2 g
 have e : fz (V - U) + fz U = fz V := by rw [← fz_add, Nat.sub_add_cancel hUV]
 rw [fz_mul] at h1 g1
 rw [← fz_eq, fz_mul, fz_mod, fz_sub (Nat.le_of_lt hX)]
 grobner
theorem gcd_half {U V : Nat} (h : Nat.gcd U V = 1) (hU : U % 2 = 0) : Nat.gcd (U / 2) V = 1 ∧ V % 2 = 1 := by
 have hd : U / 2 ∣ U := ⟨2, by omega⟩
 refine ⟨Nat.eq_one_of_dvd_one (h ▸ Nat.gcd_dvd_gcd_of_dvd_left V hd), ?_⟩
 rcases Nat.mod_two_eq_zero_or_one V with e | e
 ·have : 2 ∣ Nat.gcd U V := Nat.dvd_gcd (Nat.dvd_of_mod_eq_zero hU) (Nat.dvd_of_mod_eq_zero e)
  rw [h] at this
  exact absurd (Nat.le_of_dvd (by decide) this) (by decide)
 ·exact e
structure ImP (A U V X Y : Nat) : Prop where
 u : 0 < U
 v : 0 < V
 g : Nat.gcd U V = 1
 x : X < qN
 y : Y < qN
 ex : X * A % qN = U % qN
 ey : Y * A % qN = V % qN
theorem ImP.first {A : Nat} (h0 : 0 < A) (h : A < qN) : ImP A A qN 1 0 where
 u := h0
 v := by decide
 g := by rw [Nat.gcd_comm]; exact pri_q.cop h0 h
 x := by decide
 y := by decide
 ex := by rw [Nat.one_mul]
 ey := by rw [Nat.zero_mul]; rfl
structure I1P (A u0 V U X : Nat) : Prop where
 u : 0 < U
 l : U ≤ u0
 g : Nat.gcd U V = 1
 x : X < qN
 ex : X * A % qN = U % qN
 o : U ≠ 1 ∨ V % 2 = 1
theorem ImP.in1 {A U V X Y : Nat} (h : ImP A U V X Y) (hU : U ≠ 1) : I1P A U V U X := ⟨h.u, Nat.le_refl _, h.g, h.x, h.ex, .inl hU⟩
theorem I1P.step {A u0 V U X : Nat} (h : I1P A u0 V U X) (he : U % 2 = 0) : I1P A u0 V (U / 2) (hvm X qN) where
 u := by have := h.u; omega
 l := by have := h.l; omega
 g := (gcd_half h.g he).1
 x := hvm_lt h.x
 ex := hv_cong h.ex he
 o := .inr (gcd_half h.g he).2
structure I2P (A U v0 V Y : Nat) : Prop where
 v : 0 < V
 l : V ≤ v0
 g : Nat.gcd U V = 1
 y : Y < qN
 ey : Y * A % qN = V % qN
 o : U ≠ 1 ∨ (V % 2 = 1 ∧ V ≠ 1)
theorem ImP.in2 {A u0 U V X0 X Y : Nat} (h : ImP A u0 V X0 Y) (h1 : I1P A u0 V U X) (hV : V ≠ 1) : I2P A U V V Y := ⟨h.v, Nat.le_refl _, h1.g, h.y, h.ey, h1.o.elim .inl fun e => .inr ⟨e, hV⟩⟩
theorem I2P.step {A U v0 V Y : Nat} (h : I2P A U v0 V Y) (he : V % 2 = 0) : I2P A U v0 (V / 2) (hvm Y qN) where
 v := by have := h.v; omega
 l := by have := h.l; omega
 g := by rw [Nat.gcd_comm]; exact (gcd_half (by rw [Nat.gcd_comm]; exact h.g) he).1
 y := hvm_lt h.y
 ey := hv_cong h.ey he
 o := h.o.elim .inl fun e => absurd e.1 (by omega)
theorem out_ne {A U u0 v0 V0 V X Y : Nat} (h1 : I1P A u0 V0 U X) (h2 : I2P A U v0 V Y) (ho : V % 2 = 1) : U ≠ V := by
 intro e
 have g := h2.g
 rw [e, Nat.gcd_self] at g
 have := h2.o
 omega
theorem out_lt {A U u0 v0 V0 V X Y : Nat} (h1 : I1P A u0 V0 U X) (h2 : I2P A U v0 V Y) (h : U < V) : ImP A U (V - U) X (((Y : Int) - (X : Int)) % (qN : Int)).toNat where
 u := h1.u
 v := by omega
 g := by rw [Nat.gcd_sub_self_right (Nat.le_of_lt h)]; exact h2.g
 x := h1.x
 y := by rw [sub_int h1.x]; exact Nat.mod_lt _ (by decide)
 ex := h1.ex
 ey := sub_cong h1.x h1.ex h2.ey (Nat.le_of_lt h)
theorem out_gt {A U u0 v0 V0 V X Y : Nat} (h1 : I1P A u0 V0 U X) (h2 : I2P A U v0 V Y) (h : V < U) : ImP A (U - V) V (((X : Int) - (Y : Int)) % (qN : Int)).toNat Y where
 u := by omega
 v := h2.v
 g := by rw [Nat.gcd_comm, Nat.gcd_sub_self_right (Nat.le_of_lt h), Nat.gcd_comm]; exact h2.g
 x := by rw [sub_int h2.y]; exact Nat.mod_lt _ (by decide)
 y := h2.y
 ex := sub_cong h2.y h2.ey h1.ex (Nat.le_of_lt h)
 ey := h2.ey
theorem vc_im (S : ImI → Prop) (T R : Int → Int → InI → Prop) (a0 a1 a2 a3 m0 m1 m2 m3 : Int) (K : SV → Mem → Prop) : (execF cxIm (uIm S T R) Tryz.f20 64 [ag4 a0 a1 a2 a3, ag4 m0 m1 m2 m3] (memL []) K) = (∀ x0, x0 = a0 → ∀ x1, x1 = a1 → ∀
 x2, x2 = a2 → ∀ x3, x3 = a3 → ∀ x4, x4 = m0 → ∀ x5, x5 = m1 → ∀ x6, x6 = m2 → ∀ x7, x7 = m3 → ∀ x8, x8 = a0 → ∀ x9, x9 = a1 → ∀ br, br = a2 → ∀ bs, bs = a3 → (decide ([x8, x9, br, bs] = [(0 : Int), (0 : Int), (0 : Int), (0 : Int)]) = true
 → K (.agg [.int .u64 (.lit 0), .int .u64 (.lit 0), .int .u64 (.lit 0), .int .u64 (.lit 0)]) (memL [(513, ⟨false, .cells [.int .u64 (.sym a0), .int .u64 (.sym a1), .int .u64 (.sym a2), .int .u64 (.sym a3)]⟩), (521, ⟨false, .cells [.int .u64
 (.sym m0), .int .u64 (.sym m1), .int .u64 (.sym m2), .int .u64 (.sym m3)]⟩), (529, ⟨false, .cells [.int .u64 (.lit 0), .int .u64 (.lit 0), .int .u64 (.lit 0), .int .u64 (.lit 0)]⟩), (569, ⟨false, .cells [.int .u64 (.sym x0), .int .u64
 (.sym x1), .int .u64 (.sym x2), .int .u64 (.sym x3)]⟩), (577, ⟨false, .cells [.int .u64 (.sym x4), .int .u64 (.sym x5), .int .u64 (.sym x6), .int .u64 (.sym x7)]⟩), (585, ⟨false, .cells [.int .u64 (.lit 1), .int .u64 (.lit 0), .int .u64
 (.lit 0), .int .u64 (.lit 0)]⟩), (593, ⟨false, .cells [.int .u64 (.lit 0), .int .u64 (.lit 0), .int .u64 (.lit 0), .int .u64 (.lit 0)]⟩)])) ∧ (decide ([x8, x9, br, bs] = [(0 : Int), (0 : Int), (0 : Int), (0 : Int)]) = false → ((∃ f : ImI,
 S f ∧ (a0 = a0 ∧ a1 = a1 ∧ a2 = a2 ∧ a3 = a3) ∧ (m0 = m0 ∧ m1 = m1 ∧ m2 = m2 ∧ m3 = m3) ∧ (x0 = ImI.u0 f ∧ x1 = ImI.u1 f ∧ x2 = ImI.u2 f ∧ x3 = ImI.u3 f) ∧ (x4 = ImI.v0 f ∧ x5 = ImI.v1 f ∧ x6 = ImI.v2 f ∧ x7 = ImI.v3 f) ∧ (1 = ImI.x0 f ∧ 0
 = ImI.x1 f ∧ 0 = ImI.x2 f ∧ 0 = ImI.x3 f) ∧ 0 = ImI.y0 f ∧ 0 = ImI.y1 f ∧ 0 = ImI.y2 f ∧ 0 = ImI.y3 f) ∧ ∀ a : ImI, S a → ∀ bt, bt = ImI.u0 a → ∀ bu, bu = ImI.u1 a → ∀ bv, bv = ImI.u2 a → ∀ bw, bw = ImI.u3 a → (Bool.not (decide ([bt, bu,
 bv, bw] = [(1 : Int), (0 : Int), (0 : Int), (0 : Int)])) = true → ∀ bx, bx = ImI.v0 a → ∀ bz, bz = ImI.v1 a → ∀ b0, b0 = ImI.v2 a → ∀ b1, b1 = ImI.v3 a → (Bool.not (decide ([bx, bz, b0, b1] = [(1 : Int), (0 : Int), (0 : Int), (0 : Int)]))
 = true → ((∃ i : InI, T (V4 (ImI.u0 a) (ImI.u1 a) (ImI.u2 a) (ImI.u3 a)) (V4 (ImI.v0 a) (ImI.v1 a) (ImI.v2 a) (ImI.v3 a)) i ∧ (a0 = a0 ∧ a1 = a1 ∧ a2 = a2 ∧ a3 = a3) ∧ (m0 = m0 ∧ m1 = m1 ∧ m2 = m2 ∧ m3 = m3) ∧ (ImI.v0 a = ImI.v0 a ∧ ImI.v1
 a = ImI.v1 a ∧ ImI.v2 a = ImI.v2 a ∧ ImI.v3 a = ImI.v3 a) ∧ (ImI.y0 a = ImI.y0 a ∧ ImI.y1 a = ImI.y1 a ∧ ImI.y2 a = ImI.y2 a ∧ ImI.y3 a = ImI.y3 a) ∧ (ImI.u0 a = InI.u0 i ∧ ImI.u1 a = InI.u1 i ∧ ImI.u2 a = InI.u2 i ∧ ImI.u3 a = InI.u3 i) ∧
 ImI.x0 a = InI.x0 i ∧ ImI.x1 a = InI.x1 i ∧ ImI.x2 a = InI.x2 i ∧ ImI.x3 a = InI.x3 i) ∧ ∀ b : InI, T (V4 (ImI.u0 a) (ImI.u1 a) (ImI.u2 a) (ImI.u3 a)) (V4 (ImI.v0 a) (ImI.v1 a) (ImI.v2 a) (ImI.v3 a)) b → ∀ b2, b2 = Int.tmod (InI.u0 b) (2 :
 Int) → ((b2 == 0) = true → ∀ I, I = InI.u0 b → ∀ J, J = InI.u1 b → ∀ L, L = InI.u2 b → ∀ M, M = InI.u3 b → ((Wd I ∧ Wd J ∧ Wd L ∧ Wd M) ∧ ∀ cs, cs = lm (Int.toNat (V4 I J L M) / 2) 0 → ∀ ct, ct = lm (Int.toNat (V4 I J L M) / 2) 1 → ∀ cu,
 cu = lm (Int.toNat (V4 I J L M) / 2) 2 → ∀ cv, cv = lm (Int.toNat (V4 I J L M) / 2) 3 → ∀ N, N = InI.x0 b → ∀ O, O = InI.x1 b → ∀ Q, Q = InI.x2 b → ∀ V, V = InI.x3 b → ∀ X, X = m0 → ∀ Y, Y = m1 → ∀ Z, Z = m2 → ∀ aa, aa = m3 → (((Wd N ∧ Wd
 O ∧ Wd Q ∧ Wd V) ∧ Wd X ∧ Wd Y ∧ Wd Z ∧ Wd aa) ∧ ∀ cw, cw = lm (hvm (Int.toNat (V4 N O Q V)) (Int.toNat (V4 X Y Z aa))) 0 → ∀ cx, cx = lm (hvm (Int.toNat (V4 N O Q V)) (Int.toNat (V4 X Y Z aa))) 1 → ∀ cy, cy = lm (hvm (Int.toNat (V4 N O Q
 V)) (Int.toNat (V4 X Y Z aa))) 2 → ∀ cz, cz = lm (hvm (Int.toNat (V4 N O Q V)) (Int.toNat (V4 X Y Z aa))) 3 → ∃ g : InI, T (V4 (ImI.u0 a) (ImI.u1 a) (ImI.u2 a) (ImI.u3 a)) (V4 (ImI.v0 a) (ImI.v1 a) (ImI.v2 a) (ImI.v3 a)) g ∧ ((a0 = a0 ∧ a1
 = a1 ∧ a2 = a2 ∧ a3 = a3) ∧ (m0 = m0 ∧ m1 = m1 ∧ m2 = m2 ∧ m3 = m3) ∧ (ImI.v0 a = ImI.v0 a ∧ ImI.v1 a = ImI.v1 a ∧ ImI.v2 a = ImI.v2 a ∧ ImI.v3 a = ImI.v3 a) ∧ (ImI.y0 a = ImI.y0 a ∧ ImI.y1 a = ImI.y1 a ∧ ImI.y2 a = ImI.y2 a ∧ ImI.y3 a =
 ImI.y3 a) ∧ (cs = InI.u0 g ∧ ct = InI.u1 g ∧ cu = InI.u2 g ∧ cv = InI.u3 g) ∧ cw = InI.x0 g ∧ cx = InI.x1 g ∧ cy = InI.x2 g ∧ cz = InI.x3 g) ∧ Int.toNat (V4 (InI.u0 g) (InI.u1 g) (InI.u2 g) (InI.u3 g)) < Int.toNat (V4 (InI.u0 b) (InI.u1 b)
 (InI.u2 b) (InI.u3 b))))) ∧ ((b2 == 0) = false → ((∃ j : InI, R (V4 (InI.u0 b) (InI.u1 b) (InI.u2 b) (InI.u3 b)) (V4 (ImI.v0 a) (ImI.v1 a) (ImI.v2 a) (ImI.v3 a)) j ∧ (a0 = a0 ∧ a1 = a1 ∧ a2 = a2 ∧ a3 = a3) ∧ (m0 = m0 ∧ m1 = m1 ∧ m2 = m2 ∧
 m3 = m3) ∧ (InI.u0 b = InI.u0 b ∧ InI.u1 b = InI.u1 b ∧ InI.u2 b = InI.u2 b ∧ InI.u3 b = InI.u3 b) ∧ (InI.x0 b = InI.x0 b ∧ InI.x1 b = InI.x1 b ∧ InI.x2 b = InI.x2 b ∧ InI.x3 b = InI.x3 b) ∧ (ImI.v0 a = InI.u0 j ∧ ImI.v1 a = InI.u1 j ∧
 ImI.v2 a = InI.u2 j ∧ ImI.v3 a = InI.u3 j) ∧ ImI.y0 a = InI.x0 j ∧ ImI.y1 a = InI.x1 j ∧ ImI.y2 a = InI.x2 j ∧ ImI.y3 a = InI.x3 j) ∧ ∀ c : InI, R (V4 (InI.u0 b) (InI.u1 b) (InI.u2 b) (InI.u3 b)) (V4 (ImI.v0 a) (ImI.v1 a) (ImI.v2 a)
 (ImI.v3 a)) c → ∀ b3, b3 = Int.tmod (InI.u0 c) (2 : Int) → ((b3 == 0) = true → ∀ ab, ab = InI.u0 c → ∀ ac, ac = InI.u1 c → ∀ ad, ad = InI.u2 c → ∀ ae, ae = InI.u3 c → ((Wd ab ∧ Wd ac ∧ Wd ad ∧ Wd ae) ∧ ∀ c0, c0 = lm (Int.toNat (V4 ab ac ad
 ae) / 2) 0 → ∀ c1, c1 = lm (Int.toNat (V4 ab ac ad ae) / 2) 1 → ∀ c2, c2 = lm (Int.toNat (V4 ab ac ad ae) / 2) 2 → ∀ c3, c3 = lm (Int.toNat (V4 ab ac ad ae) / 2) 3 → ∀ af, af = InI.x0 c → ∀ ag, ag = InI.x1 c → ∀ ah, ah = InI.x2 c → ∀ ai,
 ai = InI.x3 c → ∀ aj, aj = m0 → ∀ ak, ak = m1 → ∀ al, al = m2 → ∀ am, am = m3 → (((Wd af ∧ Wd ag ∧ Wd ah ∧ Wd ai) ∧ Wd aj ∧ Wd ak ∧ Wd al ∧ Wd am) ∧ ∀ c4, c4 = lm (hvm (Int.toNat (V4 af ag ah ai)) (Int.toNat (V4 aj ak al am))) 0 → ∀ c5, c5
 = lm (hvm (Int.toNat (V4 af ag ah ai)) (Int.toNat (V4 aj ak al am))) 1 → ∀ c6, c6 = lm (hvm (Int.toNat (V4 af ag ah ai)) (Int.toNat (V4 aj ak al am))) 2 → ∀ c7, c7 = lm (hvm (Int.toNat (V4 af ag ah ai)) (Int.toNat (V4 aj ak al am))) 3 → ∃
 h : InI, R (V4 (InI.u0 b) (InI.u1 b) (InI.u2 b) (InI.u3 b)) (V4 (ImI.v0 a) (ImI.v1 a) (ImI.v2 a) (ImI.v3 a)) h ∧ ((a0 = a0 ∧ a1 = a1 ∧ a2 = a2 ∧ a3 = a3) ∧ (m0 = m0 ∧ m1 = m1 ∧ m2 = m2 ∧ m3 = m3) ∧ (InI.u0 b = InI.u0 b ∧ InI.u1 b = InI.u1
 b ∧ InI.u2 b = InI.u2 b ∧ InI.u3 b = InI.u3 b) ∧ (InI.x0 b = InI.x0 b ∧ InI.x1 b = InI.x1 b ∧ InI.x2 b = InI.x2 b ∧ InI.x3 b = InI.x3 b) ∧ (c0 = InI.u0 h ∧ c1 = InI.u1 h ∧ c2 = InI.u2 h ∧ c3 = InI.u3 h) ∧ c4 = InI.x0 h ∧ c5 = InI.x1 h ∧ c6
 = InI.x2 h ∧ c7 = InI.x3 h) ∧ Int.toNat (V4 (InI.u0 h) (InI.u1 h) (InI.u2 h) (InI.u3 h)) < Int.toNat (V4 (InI.u0 c) (InI.u1 c) (InI.u2 c) (InI.u3 c))))) ∧ ((b3 == 0) = false → ∀ a9, a9 = InI.u0 b → ∀ ba, ba = InI.u1 b → ∀ bb, bb = InI.u2 b
 → ∀ bc, bc = InI.u3 b → ∀ bd, bd = InI.u0 c → ∀ be, be = InI.u1 c → ∀ bf, bf = InI.u2 c → ∀ bg, bg = InI.u3 c → ((Wd a9 ∧ Wd ba ∧ Wd bb ∧ Wd bc) ∧ Wd bd ∧ Wd be ∧ Wd bf ∧ Wd bg) ∧ (decide (V4 a9 ba bb bc < V4 bd be bf bg) = true → ∀ an, an
 = InI.u0 c → ∀ ao, ao = InI.u1 c → ∀ ap, ap = InI.u2 c → ∀ aq, aq = InI.u3 c → ∀ ar, ar = InI.u0 b → ∀ au, au = InI.u1 b → ∀ av, av = InI.u2 b → ∀ aw, aw = InI.u3 b → (((Wd an ∧ Wd ao ∧ Wd ap ∧ Wd aq) ∧ Wd ar ∧ Wd au ∧ Wd av ∧ Wd aw) ∧ ∀
 c8, c8 = lm (w256 (V4 an ao ap aq - V4 ar au av aw)) 0 → ∀ c9, c9 = lm (w256 (V4 an ao ap aq - V4 ar au av aw)) 1 → ∀ da, da = lm (w256 (V4 an ao ap aq - V4 ar au av aw)) 2 → ∀ db, db = lm (w256 (V4 an ao ap aq - V4 ar au av aw)) 3 → ∀ s,
 s = InI.x0 c → ∀ t, t = InI.x1 c → ∀ u, u = InI.x2 c → ∀ v, v = InI.x3 c → ∀ w, w = InI.x0 b → ∀ x, x = InI.x1 b → ∀ y, y = InI.x2 b → ∀ z, z = InI.x3 b → ∀ k, k = m0 → ∀ l, l = m1 → ∀ m, m = m2 → ∀ n, n = m3 → ((((Wd s ∧ Wd t ∧ Wd u ∧ Wd
 v) ∧ (Wd w ∧ Wd x ∧ Wd y ∧ Wd z) ∧ Wd k ∧ Wd l ∧ Wd m ∧ Wd n) ∧ V4 s t u v < V4 k l m n ∧ V4 w x y z < V4 k l m n) ∧ ∀ dc, dc = lm (Int.toNat ((V4 s t u v - V4 w x y z) % V4 k l m n)) 0 → ∀ dd, dd = lm (Int.toNat ((V4 s t u v - V4 w x y z)
 % V4 k l m n)) 1 → ∀ de, de = lm (Int.toNat ((V4 s t u v - V4 w x y z) % V4 k l m n)) 2 → ∀ df, df = lm (Int.toNat ((V4 s t u v - V4 w x y z) % V4 k l m n)) 3 → ∃ d : ImI, S d ∧ ((a0 = a0 ∧ a1 = a1 ∧ a2 = a2 ∧ a3 = a3) ∧ (m0 = m0 ∧ m1 = m1
 ∧ m2 = m2 ∧ m3 = m3) ∧ (InI.u0 b = ImI.u0 d ∧ InI.u1 b = ImI.u1 d ∧ InI.u2 b = ImI.u2 d ∧ InI.u3 b = ImI.u3 d) ∧ (c8 = ImI.v0 d ∧ c9 = ImI.v1 d ∧ da = ImI.v2 d ∧ db = ImI.v3 d) ∧ (InI.x0 b = ImI.x0 d ∧ InI.x1 b = ImI.x1 d ∧ InI.x2 b =
 ImI.x2 d ∧ InI.x3 b = ImI.x3 d) ∧ dc = ImI.y0 d ∧ dd = ImI.y1 d ∧ de = ImI.y2 d ∧ df = ImI.y3 d) ∧ Int.toNat (V4 (ImI.u0 d) (ImI.u1 d) (ImI.u2 d) (ImI.u3 d) + V4 (ImI.v0 d) (ImI.v1 d) (ImI.v2 d) (ImI.v3 d)) < Int.toNat (V4 (ImI.u0 a)
 (ImI.u1 a) (ImI.u2 a) (ImI.u3 a) + V4 (ImI.v0 a) (ImI.v1 a) (ImI.v2 a) (ImI.v3 a))))) ∧ (decide (V4 a9 ba bb bc < V4 bd be bf bg) = false → ∀ ax, ax = InI.u0 b → ∀ ay, ay = InI.u1 b → ∀ az, az = InI.u2 b → ∀ a4, a4 = InI.u3 b → ∀ a5, a5 =
 InI.u0 c → ∀ a6, a6 = InI.u1 c → ∀ a7, a7 = InI.u2 c → ∀ a8, a8 = InI.u3 c → (((Wd ax ∧ Wd ay ∧ Wd az ∧ Wd a4) ∧ Wd a5 ∧ Wd a6 ∧ Wd a7 ∧ Wd a8) ∧ ∀ dg, dg = lm (w256 (V4 ax ay az a4 - V4 a5 a6 a7 a8)) 0 → ∀ dh, dh = lm (w256 (V4 ax ay az
 a4 - V4 a5 a6 a7 a8)) 1 → ∀ di, di = lm (w256 (V4 ax ay az a4 - V4 a5 a6 a7 a8)) 2 → ∀ dj, dj = lm (w256 (V4 ax ay az a4 - V4 a5 a6 a7 a8)) 3 → ∀ A, A = InI.x0 b → ∀ B, B = InI.x1 b → ∀ C, C = InI.x2 b → ∀ D, D = InI.x3 b → ∀ E, E = InI.x0
 c → ∀ F, F = InI.x1 c → ∀ G, G = InI.x2 c → ∀ H, H = InI.x3 c → ∀ o, o = m0 → ∀ p, p = m1 → ∀ q, q = m2 → ∀ r, r = m3 → ((((Wd A ∧ Wd B ∧ Wd C ∧ Wd D) ∧ (Wd E ∧ Wd F ∧ Wd G ∧ Wd H) ∧ Wd o ∧ Wd p ∧ Wd q ∧ Wd r) ∧ V4 A B C D < V4 o p q r ∧
 V4 E F G H < V4 o p q r) ∧ ∀ dk, dk = lm (Int.toNat ((V4 A B C D - V4 E F G H) % V4 o p q r)) 0 → ∀ dl, dl = lm (Int.toNat ((V4 A B C D - V4 E F G H) % V4 o p q r)) 1 → ∀ dm, dm = lm (Int.toNat ((V4 A B C D - V4 E F G H) % V4 o p q r)) 2 →
 ∀ dn, dn = lm (Int.toNat ((V4 A B C D - V4 E F G H) % V4 o p q r)) 3 → ∃ e : ImI, S e ∧ ((a0 = a0 ∧ a1 = a1 ∧ a2 = a2 ∧ a3 = a3) ∧ (m0 = m0 ∧ m1 = m1 ∧ m2 = m2 ∧ m3 = m3) ∧ (dg = ImI.u0 e ∧ dh = ImI.u1 e ∧ di = ImI.u2 e ∧ dj = ImI.u3 e) ∧
 (InI.u0 c = ImI.v0 e ∧ InI.u1 c = ImI.v1 e ∧ InI.u2 c = ImI.v2 e ∧ InI.u3 c = ImI.v3 e) ∧ (dk = ImI.x0 e ∧ dl = ImI.x1 e ∧ dm = ImI.x2 e ∧ dn = ImI.x3 e) ∧ InI.x0 c = ImI.y0 e ∧ InI.x1 c = ImI.y1 e ∧ InI.x2 c = ImI.y2 e ∧ InI.x3 c = ImI.y3
 e) ∧ Int.toNat (V4 (ImI.u0 e) (ImI.u1 e) (ImI.u2 e) (ImI.u3 e) + V4 (ImI.v0 e) (ImI.v1 e) (ImI.v2 e) (ImI.v3 e)) < Int.toNat (V4 (ImI.u0 a) (ImI.u1 a) (ImI.u2 a) (ImI.u3 a) + V4 (ImI.v0 a) (ImI.v1 a) (ImI.v2 a) (ImI.v3 a)))))))))) ∧
 (Bool.not (decide ([bx, bz, b0, b1] = [(1 : Int), (0 : Int), (0 : Int), (0 : Int)])) = false → ∀ b4, b4 = ImI.u0 a → ∀ b5, b5 = ImI.u1 a → ∀ b6, b6 = ImI.u2 a → ∀ b7, b7 = ImI.u3 a → (decide ([b4, b5, b6, b7] = [(1 : Int), (0 : Int), (0 :
 Int), (0 : Int)]) = true → ∀ b8, b8 = ImI.x0 a → ∀ b9, b9 = ImI.x1 a → ∀ ca, ca = ImI.x2 a → ∀ cb, cb = ImI.x3 a → K (.agg [.int .u64 (.sym b8), .int .u64 (.sym b9), .int .u64 (.sym ca), .int .u64 (.sym cb)]) (memL [(513, ⟨false, .cells
 [.int .u64 (.sym a0), .int .u64 (.sym a1), .int .u64 (.sym a2), .int .u64 (.sym a3)]⟩), (521, ⟨false, .cells [.int .u64 (.sym m0), .int .u64 (.sym m1), .int .u64 (.sym m2), .int .u64 (.sym m3)]⟩), (529, ⟨false, .cells [.int .u64 (.sym b8),
 .int .u64 (.sym b9), .int .u64 (.sym ca), .int .u64 (.sym cb)]⟩), (569, ⟨false, .cells [.int .u64 (.sym (ImI.u0 a)), .int .u64 (.sym (ImI.u1 a)), .int .u64 (.sym (ImI.u2 a)), .int .u64 (.sym (ImI.u3 a))]⟩), (577, ⟨false, .cells [.int .u64
 (.sym (ImI.v0 a)), .int .u64 (.sym (ImI.v1 a)), .int .u64 (.sym (ImI.v2 a)), .int .u64 (.sym (ImI.v3 a))]⟩), (585, ⟨false, .cells [.int .u64 (.sym (ImI.x0 a)), .int .u64 (.sym (ImI.x1 a)), .int .u64 (.sym (ImI.x2 a)), .int .u64 (.sym
 (ImI.x3 a))]⟩), (593, ⟨false, .cells [.int .u64 (.sym (ImI.y0 a)), .int .u64 (.sym (ImI.y1 a)), .int .u64 (.sym (ImI.y2 a)), .int .u64 (.sym (ImI.y3 a))]⟩)])) ∧ (decide ([b4, b5, b6, b7] = [(1 : Int), (0 : Int), (0 : Int), (0 : Int)]) =
 false → ∀ cc, cc = ImI.y0 a → ∀ cd, cd = ImI.y1 a → ∀ ce, ce = ImI.y2 a → ∀ cf, cf = ImI.y3 a → K (.agg [.int .u64 (.sym cc), .int .u64 (.sym cd), .int .u64 (.sym ce), .int .u64 (.sym cf)]) (memL [(513, ⟨false, .cells [.int .u64 (.sym a0),
 .int .u64 (.sym a1), .int .u64 (.sym a2), .int .u64 (.sym a3)]⟩), (521, ⟨false, .cells [.int .u64 (.sym m0), .int .u64 (.sym m1), .int .u64 (.sym m2), .int .u64 (.sym m3)]⟩), (529, ⟨false, .cells [.int .u64 (.sym cc), .int .u64 (.sym cd),
 .int .u64 (.sym ce), .int .u64 (.sym cf)]⟩), (569, ⟨false, .cells [.int .u64 (.sym (ImI.u0 a)), .int .u64 (.sym (ImI.u1 a)), .int .u64 (.sym (ImI.u2 a)), .int .u64 (.sym (ImI.u3 a))]⟩), (577, ⟨false, .cells [.int .u64 (.sym (ImI.v0 a)),
 .int .u64 (.sym (ImI.v1 a)), .int .u64 (.sym (ImI.v2 a)), .int .u64 (.sym (ImI.v3 a))]⟩), (585, ⟨false, .cells [.int .u64 (.sym (ImI.x0 a)), .int .u64 (.sym (ImI.x1 a)), .int .u64 (.sym (ImI.x2 a)), .int .u64 (.sym (ImI.x3 a))]⟩), (593,
 ⟨false, .cells [.int .u64 (.sym (ImI.y0 a)), .int .u64 (.sym (ImI.y1 a)), .int .u64 (.sym (ImI.y2 a)), .int .u64 (.sym (ImI.y3 a))]⟩)])))) ∧ (Bool.not (decide ([bt, bu, bv, bw] = [(1 : Int), (0 : Int), (0 : Int), (0 : Int)])) = false → ∀
 cg, cg = ImI.u0 a → ∀ ch, ch = ImI.u1 a → ∀ ci, ci = ImI.u2 a → ∀ cj, cj = ImI.u3 a → (decide ([cg, ch, ci, cj] = [(1 : Int), (0 : Int), (0 : Int), (0 : Int)]) = true → ∀ ck, ck = ImI.x0 a → ∀ cl, cl = ImI.x1 a → ∀ cm, cm = ImI.x2 a → ∀
 cn, cn = ImI.x3 a → K (.agg [.int .u64 (.sym ck), .int .u64 (.sym cl), .int .u64 (.sym cm), .int .u64 (.sym cn)]) (memL [(513, ⟨false, .cells [.int .u64 (.sym a0), .int .u64 (.sym a1), .int .u64 (.sym a2), .int .u64 (.sym a3)]⟩), (521,
 ⟨false, .cells [.int .u64 (.sym m0), .int .u64 (.sym m1), .int .u64 (.sym m2), .int .u64 (.sym m3)]⟩), (529, ⟨false, .cells [.int .u64 (.sym ck), .int .u64 (.sym cl), .int .u64 (.sym cm), .int .u64 (.sym cn)]⟩), (569, ⟨false, .cells [.int
 .u64 (.sym (ImI.u0 a)), .int .u64 (.sym (ImI.u1 a)), .int .u64 (.sym (ImI.u2 a)), .int .u64 (.sym (ImI.u3 a))]⟩), (577, ⟨false, .cells [.int .u64 (.sym (ImI.v0 a)), .int .u64 (.sym (ImI.v1 a)), .int .u64 (.sym (ImI.v2 a)), .int .u64 (.sym
 (ImI.v3 a))]⟩), (585, ⟨false, .cells [.int .u64 (.sym (ImI.x0 a)), .int .u64 (.sym (ImI.x1 a)), .int .u64 (.sym (ImI.x2 a)), .int .u64 (.sym (ImI.x3 a))]⟩), (593, ⟨false, .cells [.int .u64 (.sym (ImI.y0 a)), .int .u64 (.sym (ImI.y1 a)),
 .int .u64 (.sym (ImI.y2 a)), .int .u64 (.sym (ImI.y3 a))]⟩)])) ∧ (decide ([cg, ch, ci, cj] = [(1 : Int), (0 : Int), (0 : Int), (0 : Int)]) = false → ∀ co, co = ImI.y0 a → ∀ cp, cp = ImI.y1 a → ∀ cq, cq = ImI.y2 a → ∀ cr, cr = ImI.y3 a → K
 (.agg [.int .u64 (.sym co), .int .u64 (.sym cp), .int .u64 (.sym cq), .int .u64 (.sym cr)]) (memL [(513, ⟨false, .cells [.int .u64 (.sym a0), .int .u64 (.sym a1), .int .u64 (.sym a2), .int .u64 (.sym a3)]⟩), (521, ⟨false, .cells [.int .u64
 (.sym m0), .int .u64 (.sym m1), .int .u64 (.sym m2), .int .u64 (.sym m3)]⟩), (529, ⟨false, .cells [.int .u64 (.sym co), .int .u64 (.sym cp), .int .u64 (.sym cq), .int .u64 (.sym cr)]⟩), (569, ⟨false, .cells [.int .u64 (.sym (ImI.u0 a)),
 .int .u64 (.sym (ImI.u1 a)), .int .u64 (.sym (ImI.u2 a)), .int .u64 (.sym (ImI.u3 a))]⟩), (577, ⟨false, .cells [.int .u64 (.sym (ImI.v0 a)), .int .u64 (.sym (ImI.v1 a)), .int .u64 (.sym (ImI.v2 a)), .int .u64 (.sym (ImI.v3 a))]⟩), (585,
 ⟨false, .cells [.int .u64 (.sym (ImI.x0 a)), .int .u64 (.sym (ImI.x1 a)), .int .u64 (.sym (ImI.x2 a)), .int .u64 (.sym (ImI.x3 a))]⟩), (593, ⟨false, .cells [.int .u64 (.sym (ImI.y0 a)), .int .u64 (.sym (ImI.y1 a)), .int .u64 (.sym (ImI.y2
 a)), .int .u64 (.sym (ImI.y3 a))]⟩)])))))) := by kernel_rfl
theorem list_lit {a b c d : Int} {A : Nat} (h : Ws a b c d A) (n : Int) (h0 : 0 ≤ n) (h1 : n < 18446744073709551616) : [a, b, c, d] = [n, 0, 0, 0] ↔ (A : Int) = n := by
 obtain ⟨wa, wb, wc, wd⟩ := h.wd
 rw [← h.val]
 simp only [List.cons.injEq, and_true]
 unfold Wd at *
 unfold V4
 omega
def ImT (A : Nat) (u0 v : Int) (i : InI) : Prop := ∃ U X, Ws i.u0 i.u1 i.u2 i.u3 U ∧ Ws i.x0 i.x1 i.x2 i.x3 X ∧ I1P A u0.toNat v.toNat U X
def ImR (A : Nat) (u v0 : Int) (i : InI) : Prop := ∃ V Y, Ws i.u0 i.u1 i.u2 i.u3 V ∧ Ws i.x0 i.x1 i.x2 i.x3 Y ∧ I2P A u.toNat v0.toNat V Y
def ImS (A : Nat) (i : ImI) : Prop := ∃ U V X Y, (Ws i.u0 i.u1 i.u2 i.u3 U ∧ Ws i.v0 i.v1 i.v2 i.v3 V ∧ Ws i.x0 i.x1 i.x2 i.x3 X ∧ Ws i.y0 i.y1 i.y2 i.y3 Y) ∧ ImP A U V X Y
theorem ws_q {x : Nat} (h : x < qN) : Ws (lm x 0) (lm x 1) (lm x 2) (lm x 3) x := ws_lm (Nat.lt_trans h (by decide))
theorem ws_dec {a b c d : Int} {A : Nat} (h : Ws a b c d A) : Ws (lm (A / 2) 0) (lm (A / 2) 1) (lm (A / 2) 2) (lm (A / 2) 3) (A / 2) := ws_lm (Nat.lt_of_le_of_lt (Nat.div_le_self _ _) h.lt)
theorem par {a b c d : Int} {A : Nat} (h : Ws a b c d A) : Int.tmod a 2 = ((A % 2 : Nat) : Int) := by
 have w := h.wd.1
 have v := h.val
 unfold Wd at w
 unfold V4 at v
 rw [Int.tmod_eq_emod_of_nonneg w.1]
 omega
theorem w256_sub {A B : Nat} (h : B ≤ A) (hA : A < 115792089237316195423570985008687907853269984665640564039457584007913129639936) : w256 ((A : Int) - (B : Int)) = A - B := by
 unfold w256
 omega
theorem im_walk {A : Nat} {a0 a1 a2 a3 m0 m1 m2 m3 : Int} {K : SV → Mem → Prop} (ha : Ws a0 a1 a2 a3 A) (hm : Ws m0 m1 m2 m3 qN) (hA : A < qN)
  (hK : A ≠ 0 → ∀ x0 x1 x2 x3, Ws x0 x1 x2 x3 (inv0 A) → ∀ m, K (ag4 x0 x1 x2 x3) m) (h0 : A = 0 → ∀ m, K (.agg [.int .u64 (.lit 0), .int .u64 (.lit 0), .int .u64 (.lit 0), .int .u64 (.lit 0)]) m) :
  execF cxIm (uIm (ImS A) (ImT A) (ImR A)) Tryz.f20 64 [ag4 a0 a1 a2 a3, ag4 m0 m1 m2 m3] (memL []) K := by
 rw [vc_im]
 have vm := hm.val
 have wm := hm.wd
 intro s0 ks0 s1 ks1 s2 ks2 s3 ks3 s4 ks4 s5 ks5 s6 ks6 s7 ks7 s8 ks8 s9 ks9 s10 ks10 s11 ks11; subst s0 s1 s2 s3 s4 s5 s6 s7 s8 s9 s10 s11
 refine ⟨fun h => h0 ?_ _, fun h => ?_⟩
 ·have := (list_lit ha 0 (by decide) (by decide)).1 (of_decide_eq_true h)
  omega
 have hA0 : A ≠ 0 := by
  intro e
  exact of_decide_eq_false h ((list_lit ha 0 (by decide) (by decide)).2 (by omega))
 clear h h0
 have hK := hK hA0
 refine ⟨⟨⟨a0, a1, a2, a3, m0, m1, m2, m3, 1, 0, 0, 0, 0, 0, 0, 0⟩, ⟨A, qN, 1, 0, ⟨ha, hm, ⟨rfl, rfl, rfl, rfl, by decide⟩, ⟨rfl, rfl, rfl, rfl, by decide⟩⟩, ImP.first (by omega) hA⟩, ⟨rfl, rfl, rfl, rfl⟩, ⟨rfl, rfl, rfl, rfl⟩, ⟨rfl, rfl, rfl, rfl⟩, ⟨rfl, rfl, rfl, rfl⟩, ⟨rfl, rfl, rfl, rfl⟩, rfl, rfl, rfl, rfl⟩, ?_⟩
 rintro ⟨u0, u1, u2, u3, v0, v1, v2, v3, x0, x1, x2, x3, y0, y1, y2, y3⟩ ⟨U, V, X, Y, ⟨hu, hv, hx, hy⟩, P⟩
 dsimp only at hu hv hx hy ⊢
 have vu := hu.val
 have vv := hv.val
 have fin : ∀ m, (U = 1 → K (ag4 x0 x1 x2 x3) m) ∧ (V = 1 → K (ag4 y0 y1 y2 y3) m) := by
  refine fun m => ⟨fun e => hK _ _ _ _ ?_ _, fun e => hK _ _ _ _ ?_ _⟩
  ·rw [← inv0_unique P.x (by rw [P.ex, e]; decide)]; exact hx
  ·rw [← inv0_unique P.y (by rw [P.ey, e]; decide)]; exact hy
 intro s0 ks0 s1 ks1 s2 ks2 s3 ks3; subst s0 s1 s2 s3
 refine ⟨fun hU => ?_, fun hU => ?_⟩
 rotate_left
 ·have hU1 : U = 1 := by
   have := (list_lit hu 1 (by decide) (by decide)).1 (of_decide_eq_true (by simpa using hU))
   omega
  intro s0 ks0 s1 ks1 s2 ks2 s3 ks3; subst s0 s1 s2 s3
  refine ⟨fun h1 => ?_, fun h1 => ?_⟩
  ·intro s0 ks0 s1 ks1 s2 ks2 s3 ks3; subst s0 s1 s2 s3
   exact (fin _).1 hU1
  ·exact absurd ((list_lit hu 1 (by decide) (by decide)).2 (by omega)) (of_decide_eq_false h1)
 have hU : U ≠ 1 := by
  intro e
  have := (list_lit hu 1 (by decide) (by decide)).2 (by omega)
  rw [this] at hU
  exact absurd hU (by decide)
 intro s0 ks0 s1 ks1 s2 ks2 s3 ks3; subst s0 s1 s2 s3
 refine ⟨fun hV => ?_, fun hV => ?_⟩
 rotate_left
 ·have hV1 : V = 1 := by
   have := (list_lit hv 1 (by decide) (by decide)).1 (of_decide_eq_true (by simpa using hV))
   omega
  intro s0 ks0 s1 ks1 s2 ks2 s3 ks3; subst s0 s1 s2 s3
  refine ⟨fun h1 => ?_, fun h1 => ?_⟩
  ·have := (list_lit hu 1 (by decide) (by decide)).1 (of_decide_eq_true h1)
   omega
  ·intro s0 ks0 s1 ks1 s2 ks2 s3 ks3; subst s0 s1 s2 s3
   exact (fin _).2 hV1
 have hV : V ≠ 1 := by
  intro e
  have := (list_lit hv 1 (by decide) (by decide)).2 (by omega)
  rw [this] at hV
  exact absurd hV (by decide)
 clear fin
 rw [vu, vv]
 refine ⟨⟨⟨u0, u1, u2, u3, x0, x1, x2, x3⟩, ⟨U, X, hu, hx, by rw [Int.toNat_natCast, Int.toNat_natCast]; exact P.in1 hU⟩, ⟨rfl, rfl, rfl, rfl⟩, ⟨rfl, rfl, rfl, rfl⟩, ⟨rfl, rfl, rfl, rfl⟩, ⟨rfl, rfl, rfl, rfl⟩, ⟨rfl, rfl, rfl, rfl⟩, rfl, rfl, rfl, rfl⟩, ?_⟩
 rintro ⟨u0, u1, u2, u3, x0, x1, x2, x3⟩ ⟨U1, X1, hu1, hx1, P1⟩
 rw [Int.toNat_natCast, Int.toNat_natCast] at P1
 dsimp only at hu1 hx1 ⊢
 have vu1 := hu1.val
 rw [par hu1]
 intro p hp
 refine ⟨fun he => ?_, fun he => ?_⟩
 ·have he : U1 % 2 = 0 := by
   have : p = 0 := by simpa using he
   omega
  intro s0 ks0 s1 ks1 s2 ks2 s3 ks3; subst s0 s1 s2 s3
  refine ⟨hu1.wd, ?_⟩
  rw [vu1, Int.toNat_natCast]
  intro s0 ks0 s1 ks1 s2 ks2 s3 ks3 s4 ks4 s5 ks5 s6 ks6 s7 ks7 s8 ks8 s9 ks9 s10 ks10 s11 ks11; subst s0 s1 s2 s3 s4 s5 s6 s7 s8 s9 s10 s11
  refine ⟨⟨hx1.wd, wm⟩, ?_⟩
  rw [hx1.val, vm, Int.toNat_natCast, Int.toNat_natCast]
  intro s0 ks0 s1 ks1 s2 ks2 s3 ks3; subst s0 s1 s2 s3
  have P2 := P1.step he
  have hd := ws_dec hu1
  refine ⟨⟨lm (U1 / 2) 0, lm (U1 / 2) 1, lm (U1 / 2) 2, lm (U1 / 2) 3, lm (hvm X1 qN) 0, lm (hvm X1 qN) 1, lm (hvm X1 qN) 2, lm (hvm X1 qN) 3⟩, ⟨U1 / 2, hvm X1 qN, hd, ws_q P2.x, by rw [Int.toNat_natCast, Int.toNat_natCast]; exact P2⟩, ⟨⟨rfl, rfl, rfl, rfl⟩, ⟨rfl, rfl, rfl, rfl⟩, ⟨rfl, rfl, rfl, rfl⟩, ⟨rfl, rfl, rfl, rfl⟩, ⟨rfl, rfl, rfl, rfl⟩, rfl, rfl, rfl, rfl⟩, ?_⟩
  dsimp only
  rw [hd.val]
  have := P2.u
  omega
 have ho : U1 % 2 = 1 := by
  have : ¬ p = 0 := by simpa using he
  omega
 rw [vu1]
 refine ⟨⟨⟨v0, v1, v2, v3, y0, y1, y2, y3⟩, ⟨V, Y, hv, hy, by rw [Int.toNat_natCast, Int.toNat_natCast]; exact P.in2 P1 hV⟩, ⟨rfl, rfl, rfl, rfl⟩, ⟨rfl, rfl, rfl, rfl⟩, ⟨rfl, rfl, rfl, rfl⟩, ⟨rfl, rfl, rfl, rfl⟩, ⟨rfl, rfl, rfl, rfl⟩, rfl, rfl, rfl, rfl⟩, ?_⟩
 rintro ⟨v0, v1, v2, v3, y0, y1, y2, y3⟩ ⟨V1, Y1, hv1, hy1, Q1⟩
 rw [Int.toNat_natCast, Int.toNat_natCast] at Q1
 dsimp only at hv1 hy1 ⊢
 have vv1 := hv1.val
 rw [par hv1]
 clear hp he p
 intro p hp
 refine ⟨fun he => ?_, fun he => ?_⟩
 ·have he : V1 % 2 = 0 := by
   have : p = 0 := by simpa using he
   omega
  intro s0 ks0 s1 ks1 s2 ks2 s3 ks3; subst s0 s1 s2 s3
  refine ⟨hv1.wd, ?_⟩
  rw [vv1, Int.toNat_natCast]
  intro s0 ks0 s1 ks1 s2 ks2 s3 ks3 s4 ks4 s5 ks5 s6 ks6 s7 ks7 s8 ks8 s9 ks9 s10 ks10 s11 ks11; subst s0 s1 s2 s3 s4 s5 s6 s7 s8 s9 s10 s11
  refine ⟨⟨hy1.wd, wm⟩, ?_⟩
  rw [hy1.val, vm, Int.toNat_natCast, Int.toNat_natCast]
  intro s0 ks0 s1 ks1 s2 ks2 s3 ks3; subst s0 s1 s2 s3
  have Q2 := Q1.step he
  have hd := ws_dec hv1
  refine ⟨⟨lm (V1 / 2) 0, lm (V1 / 2) 1, lm (V1 / 2) 2, lm (V1 / 2) 3, lm (hvm Y1 qN) 0, lm (hvm Y1 qN) 1, lm (hvm Y1 qN) 2, lm (hvm Y1 qN) 3⟩, ⟨V1 / 2, hvm Y1 qN, hd, ws_q Q2.y, by rw [Int.toNat_natCast, Int.toNat_natCast]; exact Q2⟩, ⟨⟨rfl, rfl, rfl, rfl⟩, ⟨rfl, rfl, rfl, rfl⟩, ⟨rfl, rfl, rfl, rfl⟩, ⟨rfl, rfl, rfl, rfl⟩, ⟨rfl, rfl, rfl, rfl⟩, rfl, rfl, rfl, rfl⟩, ?_⟩
  dsimp only
  rw [hd.val]
  have := Q2.v
  omega
 have he : V1 % 2 = 1 := by
  have : ¬ p = 0 := by simpa using he
  omega
 have hne := out_ne P1 Q1 he
 have lu := P1.l
 have lv := Q1.l
 have pu := P1.u
 have pv := Q1.v
 intro s0 ks0 s1 ks1 s2 ks2 s3 ks3 s4 ks4 s5 ks5 s6 ks6 s7 ks7; subst s0 s1 s2 s3 s4 s5 s6 s7
 refine ⟨⟨hu1.wd, hv1.wd⟩, ?_⟩
 rw [vu1, vv1]
 refine ⟨fun hl => ?_, fun hl => ?_⟩
 ·have hl : U1 < V1 := by
   have := of_decide_eq_true hl
   omega
  intro s0 ks0 s1 ks1 s2 ks2 s3 ks3 s4 ks4 s5 ks5 s6 ks6 s7 ks7; subst s0 s1 s2 s3 s4 s5 s6 s7
  refine ⟨⟨hv1.wd, hu1.wd⟩, ?_⟩
  rw [vu1, vv1, w256_sub (Nat.le_of_lt hl) hv1.lt]
  intro s0 ks0 s1 ks1 s2 ks2 s3 ks3 s4 ks4 s5 ks5 s6 ks6 s7 ks7 s8 ks8 s9 ks9 s10 ks10 s11 ks11 s12 ks12 s13 ks13 s14 ks14 s15 ks15; subst s0 s1 s2 s3 s4 s5 s6 s7 s8 s9 s10 s11 s12 s13 s14 s15
  have bx := P1.x
  have b_y := Q1.y
  rw [hx1.val, hy1.val, vm]
  refine ⟨⟨⟨hy1.wd, hx1.wd, wm⟩, by omega, by omega⟩, ?_⟩
  intro s0 ks0 s1 ks1 s2 ks2 s3 ks3; subst s0 s1 s2 s3
  have P2 := out_lt P1 Q1 hl
  have hd := ws_lm (x := V1 - U1) (by have := hv1.lt; omega)
  refine ⟨⟨u0, u1, u2, u3, lm (V1 - U1) 0, lm (V1 - U1) 1, lm (V1 - U1) 2, lm (V1 - U1) 3, x0, x1, x2, x3, lm ((((Y1 : Int) - (X1 : Int)) % (qN : Int)).toNat) 0, lm ((((Y1 : Int) - (X1 : Int)) % (qN : Int)).toNat) 1, lm ((((Y1 : Int) - (X1 : Int)) % (qN : Int)).toNat) 2, lm ((((Y1 : Int) - (X1 : Int)) % (qN : Int)).toNat) 3⟩, ⟨_, _, _, _, ⟨hu1, hd, hx1, ws_q P2.y⟩, P2⟩, ⟨⟨rfl, rfl, rfl, rfl⟩, ⟨rfl, rfl, rfl, rfl⟩, ⟨rfl, rfl, rfl, rfl⟩, ⟨rfl, rfl, rfl, rfl⟩, ⟨rfl, rfl, rfl, rfl⟩, rfl, rfl, rfl, rfl⟩, ?_⟩
  dsimp only
  rw [hd.val, vu1]
  omega
 ·have hl : V1 < U1 := by
   have := of_decide_eq_false hl
   omega
  intro s0 ks0 s1 ks1 s2 ks2 s3 ks3 s4 ks4 s5 ks5 s6 ks6 s7 ks7; subst s0 s1 s2 s3 s4 s5 s6 s7
  refine ⟨⟨hu1.wd, hv1.wd⟩, ?_⟩
  rw [vu1, vv1, w256_sub (Nat.le_of_lt hl) hu1.lt]
  intro s0 ks0 s1 ks1 s2 ks2 s3 ks3 s4 ks4 s5 ks5 s6 ks6 s7 ks7 s8 ks8 s9 ks9 s10 ks10 s11 ks11 s12 ks12 s13 ks13 s14 ks14 s15 ks15; subst s0 s1 s2 s3 s4 s5 s6 s7 s8 s9 s10 s11 s12 s13 s14 s15
  have bx := P1.x
  have b_y := Q1.y
  rw [hx1.val, hy1.val, vm]
  refine ⟨⟨⟨hx1.wd, hy1.wd, wm⟩, by omega, by omega⟩, ?_⟩
  intro s0 ks0 s1 ks1 s2 ks2 s3 ks3; subst s0 s1 s2 s3
  have P2 := out_gt P1 Q1 hl
  have hd := ws_lm (x := U1 - V1) (by have := hu1.lt; omega)
  refine ⟨⟨lm (U1 - V1) 0, lm (U1 - V1) 1, lm (U1 - V1) 2, lm (U1 - V1) 3, v0, v1, v2, v3, lm ((((X1 : Int) - (Y1 : Int)) % (qN : Int)).toNat) 0, lm ((((X1 : Int) - (Y1 : Int)) % (qN : Int)).toNat) 1, lm ((((X1 : Int) - (Y1 : Int)) % (qN : Int)).toNat) 2, lm ((((X1 : Int) - (Y1 : Int)) % (qN : Int)).toNat) 3, y0, y1, y2, y3⟩, ⟨_, _, _, _, ⟨hd, hv1, ws_q P2.x, hy1⟩, P2⟩, ⟨⟨rfl, rfl, rfl, rfl⟩, ⟨rfl, rfl, rfl, rfl⟩, ⟨rfl, rfl, rfl, rfl⟩, ⟨rfl, rfl, rfl, rfl⟩, ⟨rfl, rfl, rfl, rfl⟩, rfl, rfl, rfl, rfl⟩, ?_⟩
  dsimp only
  rw [hd.val, vv1]
  omega
def rIm : R0 := fun args l =>
 match args, l with
 | [.agg [.int .u64 (.sym a0), .int .u64 (.sym a1), .int .u64 (.sym a2), .int .u64 (.sym a3)], .agg [.int .u64 (.sym m0), .int .u64 (.sym m1), .int .u64 (.sym m2), .int .u64 (.sym m3)]], [] => some (some (((Wd a0 ∧ Wd a1 ∧ Wd a2 ∧ Wd a3) ∧ (Wd m0 ∧ Wd m1 ∧ Wd m2 ∧ Wd m3)) ∧ V4 a0 a1 a2 a3 < qN ∧ V4 m0 m1 m2 m3 = qN), ag4 (lm (inv0 (V4 a0 a1 a2 a3).toNat) 0) (lm (inv0 (V4 a0 a1 a2 a3).toNat) 1) (lm (inv0 (V4 a0 a1 a2 a3).toNat) 2) (lm (inv0 (V4 a0 a1 a2 a3).toNat) 3))
 | _, _ => none
theorem im_ok (args : List SV) (l : List (Nat × Reg)) (p : Ob) (v : SV) (h : rIm args l = some (p, v)) (hp : p.ok) : ∃ U, execF cxIm U Tryz.f20 64 args (memL l) fun v' _ => ∀ β u, Den β v' u → Den β v u := by
 unfold rIm at h
 split at h
 ·rename_i a0 a1 a2 a3 m0 m1 m2 m3
  simp only [Option.some.injEq, Prod.mk.injEq] at h
  obtain ⟨rfl, rfl⟩ := h
  obtain ⟨⟨wa, wm⟩, la, em⟩ := (show ((Wd a0 ∧ Wd a1 ∧ Wd a2 ∧ Wd a3) ∧ (Wd m0 ∧ Wd m1 ∧ Wd m2 ∧ Wd m3)) ∧ V4 a0 a1 a2 a3 < qN ∧ V4 m0 m1 m2 m3 = qN from hp)
  have Ha := ws_of wa.1 wa.2.1 wa.2.2.1 wa.2.2.2
  have Hm := ws_of wm.1 wm.2.1 wm.2.2.1 wm.2.2.2
  rw [em, Int.toNat_natCast] at Hm
  have ea := Ws.val Ha
  generalize (V4 a0 a1 a2 a3).toNat = A at *
  refine ⟨_, im_walk Ha Hm (by omega) (fun _ x0 x1 x2 x3 hx m β u hu => ?_) (fun e m β u hu => ?_)⟩
  ·obtain ⟨rfl, rfl, rfl, rfl, _⟩ := hx
   exact hu
  ·rw [e, inv0_zero]
   exact hu
 ·cases h
def cIm : Rd Tryz.prog := mkQ mixed 20 Tryz.func20 (by decide) (by kernel_rfl) [] [.num, .num] rIm im_ok
def cxRt : Cx Tryz.prog := { rds := [cPP, cWs, cHv, cPw, cMl], efs := [], eqs := [eq23] }
theorem vc_rt (a0 a1 a2 a3 : Int) (K : SV → Mem → Prop) : (execF cxRt u9 Tryz.f62 64 [ag4 a0 a1 a2 a3] (memL []) K) = (((Wd (4332616871279656263 : Int) ∧ Wd (10917124144477883021 : Int) ∧ Wd (13281191951274694749 : Int) ∧ Wd
 (3486998266802970665 : Int)) ∧ Wd (1 : Int) ∧ Wd (0 : Int) ∧ Wd (0 : Int) ∧ Wd (0 : Int)) ∧ ∀ a, a = a0 → ∀ b, b = a1 → ∀ c, c = a2 → ∀ d, d = a3 → ∀ e : Int, e = 4332616871279656264 → ∀ f : Int, f = 10917124144477883021 → ∀ g : Int, g =
 13281191951274694749 → ∀ h : Int, h = 3486998266802970665 → ((Wd e ∧ Wd f ∧ Wd g ∧ Wd h) ∧ ∀ i, i = lm (Int.toNat (V4 e f g h) / 2) 0 → ∀ j, j = lm (Int.toNat (V4 e f g h) / 2) 1 → ∀ k, k = lm (Int.toNat (V4 e f g h) / 2) 2 → ∀ l, l = lm
 (Int.toNat (V4 e f g h) / 2) 3 → ((Wd i ∧ Wd j ∧ Wd k ∧ Wd l) ∧ ∀ m, m = lm (Int.toNat (V4 i j k l) / 2) 0 → ∀ n, n = lm (Int.toNat (V4 i j k l) / 2) 1 → ∀ o, o = lm (Int.toNat (V4 i j k l) / 2) 2 → ∀ p, p = lm (Int.toNat (V4 i j k l) / 2)
 3 → (((Wd a ∧ Wd b ∧ Wd c ∧ Wd d) ∧ Wd m ∧ Wd n ∧ Wd o ∧ Wd p) ∧ ∀ y, y = lm (pw (21888242871839275222246405745257275088696311157297823662689037894645226208583 : Nat) (256 : Nat) (Int.toNat (V4 a b c d)) (Int.toNat (V4 m n o p))) 0 → ∀ z,
 z = lm (pw (21888242871839275222246405745257275088696311157297823662689037894645226208583 : Nat) (256 : Nat) (Int.toNat (V4 a b c d)) (Int.toNat (V4 m n o p))) 1 → ∀ A, A = lm (pw
 (21888242871839275222246405745257275088696311157297823662689037894645226208583 : Nat) (256 : Nat) (Int.toNat (V4 a b c d)) (Int.toNat (V4 m n o p))) 2 → ∀ B, B = lm (pw
 (21888242871839275222246405745257275088696311157297823662689037894645226208583 : Nat) (256 : Nat) (Int.toNat (V4 a b c d)) (Int.toNat (V4 m n o p))) 3 → ∀ C, C = y → ∀ D, D = z → ∀ E, E = A → ∀ F, F = B → ∀ q, q = y → ∀ r, r = z → ∀ s, s =
 A → ∀ t, t = B → ∀ u, u = y → ∀ v, v = z → ∀ w, w = A → ∀ x, x = B → (((Wd q ∧ Wd r ∧ Wd s ∧ Wd t) ∧ Wd u ∧ Wd v ∧ Wd w ∧ Wd x) ∧ ∀ G, G = lm (Int.toNat (V4 q r s t) * Int.toNat (V4 u v w x) %
 21888242871839275222246405745257275088696311157297823662689037894645226208583) 0 → ∀ H, H = lm (Int.toNat (V4 q r s t) * Int.toNat (V4 u v w x) % 21888242871839275222246405745257275088696311157297823662689037894645226208583) 1 → ∀ I, I =
 lm (Int.toNat (V4 q r s t) * Int.toNat (V4 u v w x) % 21888242871839275222246405745257275088696311157297823662689037894645226208583) 2 → ∀ J, J = lm (Int.toNat (V4 q r s t) * Int.toNat (V4 u v w x) %
 21888242871839275222246405745257275088696311157297823662689037894645226208583) 3 → ∀ L, L = a0 → ∀ M, M = a1 → ∀ N, N = a2 → ∀ O, O = a3 → K (.tup [.agg [.int .u64 (.sym C), .int .u64 (.sym D), .int .u64 (.sym E), .int .u64 (.sym F)],
 .bool (.sym (decide ([G, H, I, J] = [L, M, N, O])))]) (memL [(513, ⟨false, .cells [.int .u64 (.sym a0), .int .u64 (.sym a1), .int .u64 (.sym a2), .int .u64 (.sym a3)]⟩), (521, ⟨false, .cells [.int .u64 (.sym C), .int .u64 (.sym D), .int
 .u64 (.sym E), .int .u64 (.sym F)]⟩), (585, ⟨false, .cells [.int .u64 (.sym 4332616871279656264), .int .u64 (.sym 10917124144477883021), .int .u64 (.sym 13281191951274694749), .int .u64 (.sym 3486998266802970665)]⟩), (649, ⟨false, .cells
 [.int .u64 (.sym y), .int .u64 (.sym z), .int .u64 (.sym A), .int .u64 (.sym B)]⟩)])))))) := by kernel_rfl
theorem w_iff {a b c d e f g h : Int} {A B : Nat} (ha : Ws a b c d A) (hb : Ws e f g h B) : [a, b, c, d] = [e, f, g, h] ↔ A = B := by
 constructor
 ·intro l
  simp only [List.cons.injEq, and_true] at l
  obtain ⟨rfl, rfl, rfl, rfl⟩ := l
  have := ha.val
  rw [hb.val] at this
  omega
 ·intro e
  subst e
  obtain ⟨rfl, rfl, rfl, rfl, _⟩ := ha
  obtain ⟨rfl, rfl, rfl, rfl, _⟩ := hb
  rfl
theorem one_ws : Ws 1 0 0 0 1 := ⟨rfl, rfl, rfl, rfl, by decide⟩
theorem zero_ws : Ws 0 0 0 0 0 := ⟨rfl, rfl, rfl, rfl, by decide⟩
theorem Vx {a b c d : Int} {A : Nat} (h : Ws a b c d A) : (V4 a b c d).toNat = A := by rw [h.val, Int.toNat_natCast]
theorem lm4_wd (x : Nat) : Wd (lm x 0) ∧ Wd (lm x 1) ∧ Wd (lm x 2) ∧ Wd (lm x 3) := ⟨lm_wd _ _, lm_wd _ _, lm_wd _ _, lm_wd _ _⟩
theorem rt_walk {A : Nat} {a0 a1 a2 a3 : Int} {K : SV → Mem → Prop} (ha : Ws a0 a1 a2 a3 A) (hK : ∀ m, K (.tup [ag4 (lm (rtN A) 0) (lm (rtN A) 1) (lm (rtN A) 2) (lm (rtN A) 3), .bool (.sym (sqN A))]) m) :
  execF cxRt u9 Tryz.f62 64 [ag4 a0 a1 a2 a3] (memL []) K := by
 rw [vc_rt, ← qN_eq]
 refine ⟨⟨q_ws.wd, one_ws.wd⟩, ?_⟩
 intro s0 ks0 s1 ks1 s2 ks2 s3 ks3 s4 ks4 s5 ks5 s6 ks6 s7 ks7; subst s0 s1 s2 s3 s4 s5 s6 s7
 have h1 : Ws 4332616871279656264 10917124144477883021 13281191951274694749 3486998266802970665 (qN + 1) := ⟨by decide, by decide, by decide, by decide, by decide⟩
 refine ⟨h1.wd, ?_⟩
 rw [Vx h1]
 have h2 : Ws (lm ((qN + 1) / 2) 0) (lm ((qN + 1) / 2) 1) (lm ((qN + 1) / 2) 2) (lm ((qN + 1) / 2) 3) ((qN + 1) / 2) := ws_lm (by decide)
 intro s0 ks0 s1 ks1 s2 ks2 s3 ks3; subst s0 s1 s2 s3
 refine ⟨h2.wd, ?_⟩
 rw [Vx h2]
 have h3 : Ws (lm ((qN + 1) / 2 / 2) 0) (lm ((qN + 1) / 2 / 2) 1) (lm ((qN + 1) / 2 / 2) 2) (lm ((qN + 1) / 2 / 2) 3) ((qN + 1) / 2 / 2) := ws_lm (by decide)
 intro s0 ks0 s1 ks1 s2 ks2 s3 ks3; subst s0 s1 s2 s3
 refine ⟨⟨ha.wd, h3.wd⟩, ?_⟩
 rw [Vx h3, Vx ha, show (qN + 1) / 2 / 2 = e4N by decide, show pw qN 256 A e4N = rtN A from rfl]
 intro s0 ks0 s1 ks1 s2 ks2 s3 ks3 s4 ks4 s5 ks5 s6 ks6 s7 ks7 s8 ks8 s9 ks9 s10 ks10 s11 ks11 s12 ks12 s13 ks13 s14 ks14 s15 ks15; subst s0 s1 s2 s3 s4 s5 s6 s7 s8 s9 s10 s11 s12 s13 s14 s15
 have h4 : Ws (lm (rtN A) 0) (lm (rtN A) 1) (lm (rtN A) 2) (lm (rtN A) 3) (rtN A) := ws_q (rtN_lt A)
 refine ⟨⟨h4.wd, h4.wd⟩, ?_⟩
 rw [Vx h4]
 intro s0 ks0 s1 ks1 s2 ks2 s3 ks3 s4 ks4 s5 ks5 s6 ks6 s7 ks7; subst s0 s1 s2 s3 s4 s5 s6 s7
 have h5 := w_iff (ws_q (Nat.mod_lt (rtN A * rtN A) (show 0 < qN by decide))) ha
 rw [decide_eq_decide.2 h5]
 exact hK _
def rRt : R0 := fun args l =>
 match args, l with
 | [.agg [.int .u64 (.sym a0), .int .u64 (.sym a1), .int .u64 (.sym a2), .int .u64 (.sym a3)]], [] => some (some ((Wd a0 ∧ Wd a1 ∧ Wd a2 ∧ Wd a3)), .tup [ag4 (lm (rtN (V4 a0 a1 a2 a3).toNat) 0) (lm (rtN (V4 a0 a1 a2 a3).toNat) 1) (lm (rtN (V4 a0 a1 a2 a3).toNat) 2) (lm (rtN (V4 a0 a1 a2 a3).toNat) 3), .bool (.sym (sqN (V4 a0 a1 a2 a3).toNat))])
 | _, _ => none
theorem Rt_ok (args : List SV) (l : List (Nat × Reg)) (p : Ob) (v : SV) (h : rRt args l = some (p, v)) (hp : p.ok) : ∃ U, execF cxRt U Tryz.f62 64 args (memL l) fun v' _ => v' = v := by
 unfold rRt at h
 split at h
 ·rename_i a0 a1 a2 a3
  simp only [Option.some.injEq, Prod.mk.injEq] at h
  obtain ⟨rfl, rfl⟩ := h
  have hp : (Wd a0 ∧ Wd a1 ∧ Wd a2 ∧ Wd a3) := hp
  have A := ws_of hp.1 hp.2.1 hp.2.2.1 hp.2.2.2
  exact ⟨_, rt_walk A fun _ => rfl⟩
 ·cases h
def cRt : Rd Tryz.prog := mkR mixed 62 Tryz.func62 (by decide) (by kernel_rfl) [] [.num] rRt Rt_ok
def cxEs : Cx Tryz.prog := { rds := [], efs := [kSqr, kMulA], eqs := [] }
def uEs : Nat → Lp := fun _ => .un 40
def sqs : Nat → Int → Int → Int → Int → (Int → Int → Int → Int → Prop) → Prop
 | 0, a, b, c, d, K => K a b c d
 | n + 1, a, b, c, d, K => mulC a b c d a b c d fun a b c d => sqs n a b c d K
def EsC (x0 x1 x2 x3 : Int) (K : SV → Mem → Prop) : Prop :=
 mulC x0 x1 x2 x3 x0 x1 x2 x3 fun a b c d => mulC x0 x1 x2 x3 a b c d fun a1 b1 c1 d1 => mulC a b c d a1 b1 c1 d1 fun i j k l => mulC x0 x1 x2 x3 i j k l fun e f g h => mulC x0 x1 x2 x3 e f g h fun a4 b4 c4 d4 => mulC i j k l e f g h fun a5
 b5 c5 d5 => mulC x0 x1 x2 x3 a5 b5 c5 d5 fun m n o p => mulC x0 x1 x2 x3 m n o p fun q r s t => mulC a b c d q r s t fun Q R S T => mulC a b c d Q R S T fun V X Y Z => mulC a b c d V X Y Z fun ee ef eg eh => mulC e f g h V X Y Z fun u v w
 x => mulC a b c d u v w x fun y z A B => mulC a b c d y z A B fun aq ar au av => mulC e f g h y z A B fun ei ej ek el => mulC m n o p u v w x fun em en eo ep => mulC m n o p aq ar au av fun aa ab ac ad => mulC a b c d aa ab ac ad fun C D E
 F => mulC a b c d C D E F fun aw ax ay az => mulC a b c d aw ax ay az fun G H I J => mulC m n o p G H I J fun L M N O => mulC aa ab ac ad L M N O fun eq er es et => sqs 5 eq er es et fun eu ev ew ex => mulC y z A B eu ev ew ex fun ey ez e0
 e1 => sqs 9 ey ez e0 e1 fun ba bb bc bd => mulC aa ab ac ad ba bb bc bd fun e2 e3 e4 e5 => sqs 8 e2 e3 e4 e5 fun e6 e7 e8 e9 => mulC L M N O e6 e7 e8 e9 fun fa fb fc fd => sqs 4 fa fb fc fd fun fe ff fg fh => mulC a4 b4 c4 d4 fe ff fg fh
 fun fi fj fk fl => sqs 9 fi fj fk fl fun be bf bg bh => mulC ee ef eg eh be bf bg bh fun fm fn fo fp => sqs 7 fm fn fo fp fun fq fr fs ft => mulC q r s t fq fr fs ft fun fu fv fw fx => sqs 13 fu fv fw fx fun fy fz f0 f1 => mulC C D E F fy
 fz f0 f1 fun f2 f3 f4 f5 => sqs 5 f2 f3 f4 f5 fun f6 f7 f8 f9 => mulC u v w x f6 f7 f8 f9 fun ga gb gc gd => sqs 7 ga gb gc gd fun ge gf gg gh => mulC i j k l ge gf gg gh fun gi gj gk gl => sqs 10 gi gj gk gl fun bi bj bk bl => mulC V X Y
 Z bi bj bk bl fun gm gn go gp => sqs 6 gm gn go gp fun bm bn bo bp => mulC aq ar au av bm bn bo bp fun gq gr gs gt => sqs 5 gq gr gs gt fun gu gv gw gx => mulC q r s t gu gv gw gx fun gy gz g0 g1 => sqs 8 gy gz g0 g1 fun bq br bs bt =>
 mulC a1 b1 c1 d1 bq br bs bt fun g2 g3 g4 g5 => sqs 12 g2 g3 g4 g5 fun bu bv bw bx => mulC aw ax ay az bu bv bw bx fun g6 g7 g8 g9 => sqs 9 g6 g7 g8 g9 fun bz ca cb cc => mulC u v w x bz ca cb cc fun ha hb hc hd => sqs 6 ha hb hc hd fun cd
 ce cf cg => mulC y z A B cd ce cf cg fun he hf hg hh => sqs 5 he hf hg hh fun hi hj hk hl => mulC Q R S T hi hj hk hl fun hm hn ho hp => sqs 12 hm hn ho hp fun hq hr hs ht => mulC G H I J hq hr hs ht fun hu hv hw hx => sqs 7 hu hv hw hx
 fun hy hz h0 h1 => mulC C D E F hy hz h0 h1 fun h2 h3 h4 h5 => sqs 9 h2 h3 h4 h5 fun h6 h7 h8 h9 => mulC G H I J h6 h7 h8 h9 fun ia ib ic id => sqs 7 ia ib ic id fun ch ci cj ck => mulC a4 b4 c4 d4 ch ci cj ck fun ie ig ih ii => sqs 9 ie
 ig ih ii fun ij ik il im => mulC L M N O ij ik il im fun io ip iq ir => sqs 4 io ip iq ir fun cl cm cn co => mulC i j k l cl cm cn co fun it iu iv iw => sqs 7 it iu iv iw fun cp cq cr cs => mulC q r s t cp cq cr cs fun ix iy iz i0 => sqs 6
 ix iy iz i0 fun ct cu cv cw => mulC Q R S T ct cu cv cw fun i1 i2 i3 i4 => sqs 5 i1 i2 i3 i4 fun i5 i6 i7 i8 => mulC x0 x1 x2 x3 i5 i6 i7 i8 fun i9 ja jb jc => sqs 11 i9 ja jb jc fun cx cy cz da => mulC em en eo ep cx cy cz da fun jd je jf
 jg => sqs 11 jd je jf jg fun db dc dd de => mulC G H I J db dc dd de fun jh ji jj jk => sqs 4 jh ji jj jk fun df dg dh di => mulC a5 b5 c5 d5 df dg dh di fun jl jm jn jo => sqs 9 jl jm jn jo fun dj dk dl dm => mulC ei ej ek el dj dk dl dm
 fun jp jq jr js => sqs 8 jp jq jr js fun dn dp dq dr => mulC L M N O dn dp dq dr fun ds dt du dv => mulC e f g h ds dt du dv fun jt ju jv jw => sqs 7 jt ju jv jw fun dw dx dy dz => mulC C D E F dw dx dy dz fun ea eb ec ed => mulC ea eb ec
 ed ea eb ec ed fun jx jy jz j0 => K (.ptr 1 (.lit 0)) (memL [(1, ⟨false, w4 jx jy jz j0⟩), (513, ⟨false, w4 x0 x1 x2 x3⟩), (529, ⟨false, w4 dw dx dy dz⟩), (537, ⟨false, w4 ds dt du dv⟩), (545, ⟨false, w4 dn dp dq dr⟩), (553, ⟨false, w4 dj
 dk dl dm⟩), (561, ⟨false, w4 df dg dh di⟩), (569, ⟨false, w4 db dc dd de⟩), (577, ⟨false, w4 cx cy cz da⟩), (585, ⟨false, w4 ct cu cv cw⟩), (593, ⟨false, w4 cp cq cr cs⟩), (601, ⟨false, w4 cl cm cn co⟩), (609, ⟨false, w4 ch ci cj ck⟩),
 (617, ⟨false, w4 cd ce cf cg⟩), (625, ⟨false, w4 bz ca cb cc⟩), (633, ⟨false, w4 bu bv bw bx⟩), (641, ⟨false, w4 bq br bs bt⟩), (649, ⟨false, w4 bm bn bo bp⟩), (657, ⟨false, w4 bi bj bk bl⟩), (665, ⟨false, w4 be bf bg bh⟩), (673, ⟨false,
 w4 ba bb bc bd⟩)])
theorem vc_es (z0 z1 z2 z3 x0 x1 x2 x3 : Int) (K : SV → Mem → Prop) : execF cxEs uEs Tryz.f95 64 [.ptr 1 (.lit 0), ag4 x0 x1 x2 x3] (memL [(1, ⟨false, w4 z0 z1 z2 z3⟩)]) K = EsC x0 x1 x2 x3 K := by kernel_rfl
def EP (X e : Nat) (a b c d : Int) : Prop := El a b c d (mont (X ^ e))
theorem mulC_e {X e f g : Nat} {a0 a1 a2 a3 b0 b1 b2 b3 : Int} {K : Int → Int → Int → Int → Prop} (ha : EP X e a0 a1 a2 a3) (hb : EP X f b0 b1 b2 b3) (hg : e + f = g)
  (h : ∀ y0 y1 y2 y3, EP X g y0 y1 y2 y3 → K y0 y1 y2 y3) : mulC a0 a1 a2 a3 b0 b1 b2 b3 K :=
 ⟨_, _, ⟨El.ws ha, hb⟩, fun r hr y0 y1 y2 y3 hy => h y0 y1 y2 y3 (by rw [mont_mul, ← Nat.pow_add, hg] at hr; rw [hr] at hy; exact hy)⟩
theorem sqs_e {X : Nat} : ∀ {n e g : Nat} {a0 a1 a2 a3 : Int} {K : Int → Int → Int → Int → Prop}, EP X e a0 a1 a2 a3 → e * 2 ^ n = g → (∀ y0 y1 y2 y3, EP X g y0 y1 y2 y3 → K y0 y1 y2 y3) → sqs n a0 a1 a2 a3 K := by
 intro n
 induction n with
 | zero =>
  intro e g a0 a1 a2 a3 K ha hg h
  have hg : e = g := by omega
  rw [hg] at ha
  exact h _ _ _ _ ha
 | succ n ih =>
  intro e g a0 a1 a2 a3 K ha hg h
  have e2 : (e + e) * 2 ^ n = g := by rw [← hg, Nat.pow_succ, ← Nat.two_mul, Nat.mul_comm 2 e, Nat.mul_assoc, Nat.mul_comm 2]
  exact mulC_e ha ha rfl fun y0 y1 y2 y3 hy => ih hy e2 h
theorem es_walk {X : Nat} {x0 x1 x2 x3 : Int} {K : SV → Mem → Prop} (hup : KUp K) (hx : EP X 1 x0 x1 x2 x3) (hK : ∀ y0 y1 y2 y3, EP X e4N y0 y1 y2 y3 → K (.ptr 1 (.lit 0)) (memL [(1, ⟨false, w4 y0 y1 y2 y3⟩)])) :
  EsC x0 x1 x2 x3 K := by
 unfold EsC
 refine mulC_e (g := 2) hx hx rfl ?_
 intro a0 b0 c0 d0 h0
 refine mulC_e (g := 3) hx h0 rfl ?_
 intro a1 b1 c1 d1 h1
 refine mulC_e (g := 5) h0 h1 rfl ?_
 intro a2 b2 c2 d2 h2
 refine mulC_e (g := 6) hx h2 rfl ?_
 intro a3 b3 c3 d3 h3
 refine mulC_e (g := 7) hx h3 rfl ?_
 intro a4 b4 c4 d4 h4
 refine mulC_e (g := 11) h2 h3 rfl ?_
 intro a5 b5 c5 d5 h5
 refine mulC_e (g := 12) hx h5 rfl ?_
 intro a6 b6 c6 d6 h6
 refine mulC_e (g := 13) hx h6 rfl ?_
 intro a7 b7 c7 d7 h7
 refine mulC_e (g := 15) h0 h7 rfl ?_
 intro a8 b8 c8 d8 h8
 refine mulC_e (g := 17) h0 h8 rfl ?_
 intro a9 b9 c9 d9 h9
 refine mulC_e (g := 19) h0 h9 rfl ?_
 intro a10 b10 c10 d10 h10
 refine mulC_e (g := 23) h3 h9 rfl ?_
 intro a11 b11 c11 d11 h11
 refine mulC_e (g := 25) h0 h11 rfl ?_
 intro a12 b12 c12 d12 h12
 refine mulC_e (g := 27) h0 h12 rfl ?_
 intro a13 b13 c13 d13 h13
 refine mulC_e (g := 31) h3 h12 rfl ?_
 intro a14 b14 c14 d14 h14
 refine mulC_e (g := 35) h6 h11 rfl ?_
 intro a15 b15 c15 d15 h15
 refine mulC_e (g := 39) h6 h13 rfl ?_
 intro a16 b16 c16 d16 h16
 refine mulC_e (g := 41) h0 h16 rfl ?_
 intro a17 b17 c17 d17 h17
 refine mulC_e (g := 43) h0 h17 rfl ?_
 intro a18 b18 c18 d18 h18
 refine mulC_e (g := 45) h0 h18 rfl ?_
 intro a19 b19 c19 d19 h19
 refine mulC_e (g := 57) h6 h19 rfl ?_
 intro a20 b20 c20 d20 h20
 refine mulC_e (g := 96) h16 h20 rfl ?_
 intro a21 b21 c21 d21 h21
 refine sqs_e (g := 3072) h21 rfl ?_
 intro a22 b22 c22 d22 h22
 refine mulC_e (g := 3097) h12 h22 rfl ?_
 intro a23 b23 c23 d23 h23
 refine sqs_e (g := 1585664) h23 rfl ?_
 intro a24 b24 c24 d24 h24
 refine mulC_e (g := 1585703) h16 h24 rfl ?_
 intro a25 b25 c25 d25 h25
 refine sqs_e (g := 405939968) h25 rfl ?_
 intro a26 b26 c26 d26 h26
 refine mulC_e (g := 405940025) h20 h26 rfl ?_
 intro a27 b27 c27 d27 h27
 refine sqs_e (g := 6495040400) h27 rfl ?_
 intro a28 b28 c28 d28 h28
 refine mulC_e (g := 6495040407) h4 h28 rfl ?_
 intro a29 b29 c29 d29 h29
 refine sqs_e (g := 3325460688384) h29 rfl ?_
 intro a30 b30 c30 d30 h30
 refine mulC_e (g := 3325460688403) h10 h30 rfl ?_
 intro a31 b31 c31 d31 h31
 refine sqs_e (g := 425658968115584) h31 rfl ?_
 intro a32 b32 c32 d32 h32
 refine mulC_e (g := 425658968115597) h7 h32 rfl ?_
 intro a33 b33 c33 d33 h33
 refine sqs_e (g := 3486998266802970624) h33 rfl ?_
 intro a34 b34 c34 d34 h34
 refine mulC_e (g := 3486998266802970665) h17 h34 rfl ?_
 intro a35 b35 c35 d35 h35
 refine sqs_e (g := 111583944537695061280) h35 rfl ?_
 intro a36 b36 c36 d36 h36
 refine mulC_e (g := 111583944537695061303) h11 h36 rfl ?_
 intro a37 b37 c37 d37 h37
 refine sqs_e (g := 14282744900824967846784) h37 rfl ?_
 intro a38 b38 c38 d38 h38
 refine mulC_e (g := 14282744900824967846789) h2 h38 rfl ?_
 intro a39 b39 c39 d39 h39
 refine sqs_e (g := 14625530778444767075111936) h39 rfl ?_
 intro a40 b40 c40 d40 h40
 refine mulC_e (g := 14625530778444767075111953) h9 h40 rfl ?_
 intro a41 b41 c41 d41 h41
 refine sqs_e (g := 936033969820465092807164992) h41 rfl ?_
 intro a42 b42 c42 d42 h42
 refine mulC_e (g := 936033969820465092807165019) h13 h42 rfl ?_
 intro a43 b43 c43 d43 h43
 refine sqs_e (g := 29953087034254882969829280608) h43 rfl ?_
 intro a44 b44 c44 d44 h44
 refine mulC_e (g := 29953087034254882969829280621) h7 h44 rfl ?_
 intro a45 b45 c45 d45 h45
 refine sqs_e (g := 7667990280769250040276295838976) h45 rfl ?_
 intro a46 b46 c46 d46 h46
 refine mulC_e (g := 7667990280769250040276295838979) h1 h46 rfl ?_
 intro a47 b47 c47 d47 h47
 refine sqs_e (g := 31408088190030848164971707756457984) h47 rfl ?_
 intro a48 b48 c48 d48 h48
 refine mulC_e (g := 31408088190030848164971707756458027) h18 h48 rfl ?_
 intro a49 b49 c49 d49 h49
 refine sqs_e (g := 16080941153295794260465514371306509824) h49 rfl ?_
 intro a50 b50 c50 d50 h50
 refine mulC_e (g := 16080941153295794260465514371306509847) h11 h50 rfl ?_
 intro a51 b51 c51 d51 h51
 refine sqs_e (g := 1029180233810930832669792919763616630208) h51 rfl ?_
 intro a52 b52 c52 d52 h52
 refine mulC_e (g := 1029180233810930832669792919763616630233) h12 h52 rfl ?_
 intro a53 b53 c53 d53 h53
 refine sqs_e (g := 32933767481949786645433373432435732167456) h53 rfl ?_
 intro a54 b54 c54 d54 h54
 refine mulC_e (g := 32933767481949786645433373432435732167471) h8 h54 rfl ?_
 intro a55 b55 c55 d55 h55
 refine sqs_e (g := 134896711606066326099695097579256758957961216) h55 rfl ?_
 intro a56 b56 c56 d56 h56
 refine mulC_e (g := 134896711606066326099695097579256758957961261) h19 h56 rfl ?_
 intro a57 b57 c57 d57 h57
 refine sqs_e (g := 17266779085576489740760972490144865146619041408) h57 rfl ?_
 intro a58 b58 c58 d58 h58
 refine mulC_e (g := 17266779085576489740760972490144865146619041449) h17 h58 rfl ?_
 intro a59 b59 c59 d59 h59
 refine sqs_e (g := 8840590891815162747269617914954170955068949221888) h59 rfl ?_
 intro a60 b60 c60 d60 h60
 refine mulC_e (g := 8840590891815162747269617914954170955068949221933) h19 h60 rfl ?_
 intro a61 b61 c61 d61 h61
 refine sqs_e (g := 1131595634152340831650511093114133882248825500407424) h61 rfl ?_
 intro a62 b62 c62 d62 h62
 refine mulC_e (g := 1131595634152340831650511093114133882248825500407431) h4 h62 rfl ?_
 intro a63 b63 c63 d63 h63
 refine sqs_e (g := 579376964685998505805061679674436547711398656208604672) h63 rfl ?_
 intro a64 b64 c64 d64 h64
 refine mulC_e (g := 579376964685998505805061679674436547711398656208604729) h20 h64 rfl ?_
 intro a65 b65 c65 d65 h65
 refine sqs_e (g := 9270031434975976092880986874790984763382378499337675664) h65 rfl ?_
 intro a66 b66 c66 d66 h66
 refine mulC_e (g := 9270031434975976092880986874790984763382378499337675669) h2 h66 rfl ?_
 intro a67 b67 c67 d67 h67
 refine sqs_e (g := 1186564023676924939888766319973246049712944447915222485632) h67 rfl ?_
 intro a68 b68 c68 d68 h68
 refine mulC_e (g := 1186564023676924939888766319973246049712944447915222485645) h7 h68 rfl ?_
 intro a69 b69 c69 d69 h69
 refine sqs_e (g := 75940097515323196152881044478287747181628444666574239081280) h69 rfl ?_
 intro a70 b70 c70 d70 h70
 refine mulC_e (g := 75940097515323196152881044478287747181628444666574239081295) h8 h70 rfl ?_
 intro a71 b71 c71 d71 h71
 refine sqs_e (g := 2430083120490342276892193423305207909812110229330375650601440) h71 rfl ?_
 intro a72 b72 c72 d72 h72
 refine mulC_e (g := 2430083120490342276892193423305207909812110229330375650601441) hx h72 rfl ?_
 intro a73 b73 c73 d73 h73
 refine sqs_e (g := 4976810230764220983075212130929065799295201749668609332431751168) h73 rfl ?_
 intro a74 b74 c74 d74 h74
 refine mulC_e (g := 4976810230764220983075212130929065799295201749668609332431751203) h15 h74 rfl ?_
 intro a75 b75 c75 d75 h75
 refine sqs_e (g := 10192507352605124573338034444142726756956573183321311912820226463744) h75 rfl ?_
 intro a76 b76 c76 d76 h76
 refine mulC_e (g := 10192507352605124573338034444142726756956573183321311912820226463789) h19 h76 rfl ?_
 intro a77 b77 c77 d77 h77
 refine sqs_e (g := 163080117641681993173408551106283628111305170933140990605123623420624) h77 rfl ?_
 intro a78 b78 c78 d78 h78
 refine mulC_e (g := 163080117641681993173408551106283628111305170933140990605123623420635) h5 h78 rfl ?_
 intro a79 b79 c79 d79 h79
 refine sqs_e (g := 83497020232541180504785178166417217592988247517768187189823295191365120) h79 rfl ?_
 intro a80 b80 c80 d80 h80
 refine mulC_e (g := 83497020232541180504785178166417217592988247517768187189823295191365151) h14 h80 rfl ?_
 intro a81 b81 c81 d81 h81
 refine sqs_e (g := 21375237179530542209225005610602807703804991364548655920594763568989478656) h81 rfl ?_
 intro a82 b82 c82 d82 h82
 refine mulC_e (g := 21375237179530542209225005610602807703804991364548655920594763568989478713) h20 h82 rfl ?_
 intro a83 b83 c83 d83 h83
 refine mulC_e (g := 21375237179530542209225005610602807703804991364548655920594763568989478719) h3 h83 rfl ?_
 intro a84 b84 c84 d84 h84
 refine sqs_e (g := 2736030358979909402780800718157159386087038894662227957836129736830653276032) h84 rfl ?_
 intro a85 b85 c85 d85 h85
 refine mulC_e (g := 2736030358979909402780800718157159386087038894662227957836129736830653276073) h17 h85 rfl ?_
 intro a86 b86 c86 d86 h86
 refine mulC_e (g := 5472060717959818805561601436314318772174077789324455915672259473661306552146) h86 h86 rfl ?_
 intro a87 b87 c87 d87 h87
 refine hup.le (memL_sub [1, 513, 529, 537, 545, 553, 561, 569, 577, 585, 593, 601, 609, 617, 625, 633, 641, 649, 657, 665, 673] rfl (by decide) (by
  intro x hx
  simp only [List.mem_cons, List.not_mem_nil, or_false] at hx ⊢
  simp [hx])) (hK _ _ _ _ h87)
def EsR (X : Nat) (y0 y1 y2 y3 : Int) : Prop := EP X e4N y0 y1 y2 y3
theorem EsR.el {X : Nat} {a b c d : Int} (h : EsR X a b c d) : El a b c d (mont (X ^ e4N)) := h
theorem EsR.ex (X : Nat) : ∃ a b c d, EsR X a b c d := ⟨_, _, _, _, El.of (mont_lt _)⟩
def gEs : G0 := fun args l K =>
 match args, l with
 | [.ptr 1 (.lit 0), .agg [.int .u64 (.sym a0), .int .u64 (.sym a1), .int .u64 (.sym a2), .int .u64 (.sym a3)]], [(1, ⟨false, z⟩)] => c4 z fun _ _ _ _ => ∃ X, El a0 a1 a2 a3 (mont X) ∧ ∀ y0 y1 y2 y3, EsR X y0 y1 y2 y3 → K (.ptr 1 (.lit 0)) (memL [(1, ⟨false, w4 y0 y1 y2 y3⟩)])
 | _, _ => False
theorem es_good : Good gEs := by
 constructor
 ·intro args l K K' hk h
  unfold gEs at h ⊢
  split at h
  ·exact c4_mono (fun _ _ _ _ h => h.elim fun X h => ⟨X, h.1, fun y0 y1 y2 y3 hy => hk _ _ (h.2 y0 y1 y2 y3 hy)⟩) h
  ·exact h.elim
 ·intro args l K h
  unfold gEs at h
  split at h
  ·obtain ⟨_, _, _, _, _, h⟩ := c4_ex h
   obtain ⟨X, _, h⟩ := h
   obtain ⟨a, b, c, d, e⟩ := EsR.ex X
   exact ⟨_, _, h _ _ _ _ e⟩
  ·exact h.elim
theorem es_ok (args : List SV) (l : List (Nat × Reg)) (K : SV → Mem → Prop) (hup : KUp K) (h : gEs args l K) : ∃ U, execF cxEs U Tryz.f95 64 args (memL l) K := by
 unfold gEs at h
 split at h
 ·rename_i a0 a1 a2 a3 zz
  obtain ⟨z0, z1, z2, z3, rfl, q0⟩ := c4_ex h
  obtain ⟨X, hx, hK⟩ := q0
  have hx : EP X 1 a0 a1 a2 a3 := by unfold EP; rw [Nat.pow_one]; exact hx
  refine ⟨uEs, ?_⟩
  have := vc_es z0 z1 z2 z3 a0 a1 a2 a3 K
  unfold ag4 at this
  rw [this]
  exact es_walk hup hx fun y0 y1 y2 y3 hy => hK y0 y1 y2 y3 hy
 ·exact h.elim
def kEs : Ef Tryz.prog := mkE mixed 95 Tryz.func95 (by decide) (by kernel_rfl) [] [.ptr 4 false, .num] gEs es_good es_ok
instance (x : Int) : Decidable (Wd x) := by unfold Wd; infer_instance
theorem A4_eq {a b c d e f g h : Int} (k : W4 a b c d) (l : W4 e f g h) : A4 a b c d e f g h = (N4 a b c d + N4 e f g h) % qN := by
 unfold A4 N4
 rw [(ws_of k.1 k.2.1 k.2.2.1 k.2.2.2).val, (ws_of l.1 l.2.1 l.2.2.1 l.2.2.2).val, Int.toNat_natCast, Int.toNat_natCast]
 unfold qN
 omega
theorem Z4_0 : Z4 0 0 0 0 = True := by simp [Z4]
theorem qI_eq : qI = (qN : Int) := rfl
theorem N4l {v : Nat} (h : v < qN) : N4 (lm v 0) (lm v 1) (lm v 2) (lm v 3) = v := Vx (ws_q h)
theorem N4q (a : Nat) : N4 (lm (a % qN) 0) (lm (a % qN) 1) (lm (a % qN) 2) (lm (a % qN) 3) = a % qN := N4l (Nat.mod_lt _ (by decide))
theorem N4i (a : Nat) : N4 (lm (inv0 a) 0) (lm (inv0 a) 1) (lm (inv0 a) 2) (lm (inv0 a) 3) = inv0 a := N4l (inv0_lt a)
theorem N4r (a : Nat) : N4 (lm (rtN a) 0) (lm (rtN a) 1) (lm (rtN a) 2) (lm (rtN a) 3) = rtN a := N4l (rtN_lt a)
theorem N4n (n : Nat) : N4 n 0 0 0 = n := by unfold N4 V4; omega
theorem N4_0 : N4 0 0 0 0 = 0 := N4n 0
theorem N4_1 : N4 1 0 0 0 = 1 := N4n 1
theorem N4_2 : N4 2 0 0 0 = 2 := N4n 2
theorem N4_3 : N4 3 0 0 0 = 3 := N4n 3
theorem N4_4 : N4 4 0 0 0 = 4 := N4n 4
theorem W4l (v : Nat) : W4 (lm v 0) (lm v 1) (lm v 2) (lm v 3) = True := eq_true (lm4_wd v)
theorem W4n {n : Int} (h : Wd n) : W4 n 0 0 0 = True := eq_true ⟨h, wd0, wd0, wd0⟩
theorem W4_0 : W4 0 0 0 0 = True := W4n (by decide)
theorem W4_1 : W4 1 0 0 0 = True := W4n (by decide)
theorem W4_2 : W4 2 0 0 0 = True := W4n (by decide)
theorem W4_3 : W4 3 0 0 0 = True := W4n (by decide)
theorem W4_4 : W4 4 0 0 0 = True := W4n (by decide)
theorem Vlt {v : Nat} (h : v < qN) : (V4 (lm v 0) (lm v 1) (lm v 2) (lm v 3) < qI) = True := eq_true (by rw [(ws_q h).val, qI_eq]; omega)
theorem Vq_lt (a : Nat) : (V4 (lm (a % qN) 0) (lm (a % qN) 1) (lm (a % qN) 2) (lm (a % qN) 3) < qI) = True := Vlt (Nat.mod_lt _ (by decide))
theorem Vi_lt (a : Nat) : (V4 (lm (inv0 a) 0) (lm (inv0 a) 1) (lm (inv0 a) 2) (lm (inv0 a) 3) < qI) = True := Vlt (inv0_lt a)
theorem Vr_lt (a : Nat) : (V4 (lm (rtN a) 0) (lm (rtN a) 1) (lm (rtN a) 2) (lm (rtN a) 3) < qI) = True := Vlt (rtN_lt a)
theorem V0_lt : (V4 0 0 0 0 < qI) = True := by decide
theorem V1_lt : (V4 1 0 0 0 < qI) = True := by decide
theorem V2_lt : (V4 2 0 0 0 < qI) = True := by decide
theorem V3_lt : (V4 3 0 0 0 < qI) = True := by decide
theorem V4_lt' : (V4 4 0 0 0 < qI) = True := by decide
theorem z_lt : ((0 : Int) < qI) = True := by decide
def agF (a b c d : Int) : SV := .agg [.int .u64 (.sym a), .int .u64 (.sym b), .int .u64 (.sym c), .int .u64 (.sym d), .int .u64 (.sym 0), .int .u64 (.sym 0), .int .u64 (.sym 0), .int .u64 (.sym 0)]
theorem lq {x : Nat} (h : x < qN) : (x : Int) < 21888242871839275222246405745257275088696311157297823662689037894645226208583 := by
 unfold qN at h
 omega
theorem lm0 (i : Nat) : lm 0 i = 0 := by unfold lm; simp
theorem mul_z (x : Nat) : (x * 0) % qN = 0 := by rw [Nat.mul_zero, Nat.zero_mod]
theorem z_mul (x : Nat) : (0 * x) % qN = 0 := by rw [Nat.zero_mul, Nat.zero_mod]
theorem sub_z (x : Nat) : (x + (qN - 0)) % qN = x % qN := by rw [Nat.sub_zero, Nat.add_mod_right]
theorem z_sub : (0 + (qN - 0)) % qN = 0 := by decide
theorem z_add : (0 + 0) % qN = 0 := rfl
theorem inv_e {a : Nat} (h : a < qN) : a * inv0 (a * a % qN) % qN = inv0 a := by
 by_cases h0 : a = 0
 ·rw [h0, z_mul, inv0_zero]
 ·have hm : a % qN ≠ 0 := by rw [Nat.mod_eq_of_lt h]; exact h0
  refine inv0_unique (Nat.mod_lt _ (by decide)) ?_
  rw [Nat.mod_mul_mod, show a * inv0 (a * a % qN) * a = inv0 (a * a % qN) * (a * a) by rw [Nat.mul_comm a, Nat.mul_assoc], Nat.mul_mod, ← Nat.mod_mod (a * a), ← Nat.mul_mod, Nat.mod_mod,
   inv0_mul (by rw [Nat.mod_mod]; exact mul_ne hm hm)]
def cxE : Cx Tryz.prog := { rds := [cPP, cMl, cSb, cAd, cIm], efs := [], eqs := [] }
theorem vc_mule (a0 a1 a2 a3 b0 b1 b2 b3 : Int) (P : SV → Prop) : (execF cxE u9 Tryz.f27 64 [agF a0 a1 a2 a3, agF b0 b1 b2 b3] (memL []) fun v _ => P v) = (B4 a0 a1 a2 a3 fun q r s t => B4 b0 b1 b2 b3 fun u w x y => (W4 q r s t ∧ W4 u w x
 y) ∧ L4 (N4 q r s t * N4 u w x y % qN) fun a b c d => B4 0 0 0 0 fun z A B C => B4 0 0 0 0 fun D E F G => (W4 z A B C ∧ W4 D E F G) ∧ L4 (N4 z A B C * N4 D E F G % qN) fun e f g h => ((W4 a b c d ∧ W4 e f g h) ∧ V4 a b c d < qI ∧ V4 e f g
 h < qI) ∧ L4 ((N4 a b c d + (qN - N4 e f g h)) % qN) fun aa ab ac ad => B4 a0 a1 a2 a3 fun H I J K => B4 0 0 0 0 fun L M N O => (W4 H I J K ∧ W4 L M N O) ∧ L4 (N4 H I J K * N4 L M N O % qN) fun i j k l => B4 0 0 0 0 fun Q R S T => B4 b0 b1
 b2 b3 fun V X Y Z => (W4 Q R S T ∧ W4 V X Y Z) ∧ L4 (N4 Q R S T * N4 V X Y Z % qN) fun m n o p => ((W4 i j k l ∧ W4 m n o p) ∧ V4 i j k l < qI ∧ V4 m n o p < qI) ∧ L4 (A4 i j k l m n o p) fun ae af ag ah => P (.agg [U aa, U ab, U ac, U ad,
 U ae, U af, U ag, U ah])) := by kernel_rfl
theorem vc_adde (a0 a1 a2 a3 b0 b1 b2 b3 : Int) (P : SV → Prop) : (execF cxE u9 Tryz.f32 64 [agF a0 a1 a2 a3, agF b0 b1 b2 b3] (memL []) fun v _ => P v) = (B4 a0 a1 a2 a3 fun a b c d => B4 b0 b1 b2 b3 fun e f g h => ((W4 a b c d ∧ W4 e f g
 h) ∧ V4 a b c d < qI ∧ V4 e f g h < qI) ∧ L4 (A4 a b c d e f g h) fun q r s t => B4 0 0 0 0 fun i j k l => B4 0 0 0 0 fun m n o p => ((W4 i j k l ∧ W4 m n o p) ∧ V4 i j k l < qI ∧ V4 m n o p < qI) ∧ L4 (A4 i j k l m n o p) fun u w x y => P
 (.agg [U q, U r, U s, U t, U u, U w, U x, U y])) := by kernel_rfl
theorem vc_sube (a0 a1 a2 a3 b0 b1 b2 b3 : Int) (P : SV → Prop) : (execF cxE u9 Tryz.f29 64 [agF a0 a1 a2 a3, agF b0 b1 b2 b3] (memL []) fun v _ => P v) = (B4 a0 a1 a2 a3 fun a b c d => B4 b0 b1 b2 b3 fun e f g h => ((W4 a b c d ∧ W4 e f g
 h) ∧ V4 a b c d < qI ∧ V4 e f g h < qI) ∧ L4 ((N4 a b c d + (qN - N4 e f g h)) % qN) fun q r s t => B4 0 0 0 0 fun i j k l => B4 0 0 0 0 fun m n o p => ((W4 i j k l ∧ W4 m n o p) ∧ V4 i j k l < qI ∧ V4 m n o p < qI) ∧ L4 ((N4 i j k l + (qN
 - N4 m n o p)) % qN) fun u w x y => P (.agg [U q, U r, U s, U t, U u, U w, U x, U y])) := by kernel_rfl
theorem vc_inve (a0 a1 a2 a3 : Int) (P : SV → Prop) : (execF cxE u9 Tryz.f31 64 [agF a0 a1 a2 a3] (memL []) fun v _ => P v) = (B4 a0 a1 a2 a3 fun q r s t => B4 a0 a1 a2 a3 fun u w x y => (W4 q r s t ∧ W4 u w x y) ∧ L4 (N4 q r s t * N4 u w x
 y % qN) fun a b c d => B4 0 0 0 0 fun z A B C => B4 0 0 0 0 fun D E F G => (W4 z A B C ∧ W4 D E F G) ∧ L4 (N4 z A B C * N4 D E F G % qN) fun e f g h => ((W4 a b c d ∧ W4 e f g h) ∧ V4 a b c d < qI ∧ V4 e f g h < qI) ∧ L4 (A4 a b c d e f g
 h) fun i j k l => ((W4 i j k l ∧ W4 4332616871279656263 10917124144477883021 13281191951274694749 3486998266802970665) ∧ V4 i j k l < qI ∧ qI = qI) ∧ L4 (inv0 (N4 i j k l)) fun H I J K => B4 a0 a1 a2 a3 fun L M N O => B4 H I J K fun Q R S
 T => (W4 L M N O ∧ W4 Q R S T) ∧ L4 (N4 L M N O * N4 Q R S T % qN) fun ae af ag ah => B4 0 0 0 0 fun V X Y Z => B4 H I J K fun aa ab ac ad => (W4 V X Y Z ∧ W4 aa ab ac ad) ∧ L4 (N4 V X Y Z * N4 aa ab ac ad % qN) fun m n o p => ((W4 0 0 0 0
 ∧ W4 m n o p) ∧ 0 < qI ∧ V4 m n o p < qI) ∧ L4 ((0 + (qN - N4 m n o p)) % qN) fun ai aj ak al => P (.agg [U ae, U af, U ag, U ah, U ai, U aj, U ak, U al])) := by kernel_rfl
theorem mule_walk {A B : Nat} {a0 a1 a2 a3 b0 b1 b2 b3 : Int} {P : SV → Prop} (ha : Ws a0 a1 a2 a3 A) (hb : Ws b0 b1 b2 b3 B) (la : A < qN) (lb : B < qN) (hP : P (agF (lm (A * B % qN) 0) (lm (A * B % qN) 1) (lm (A * B % qN) 2) (lm (A * B % qN) 3))) :
  execF cxE u9 Tryz.f27 64 [agF a0 a1 a2 a3, agF b0 b1 b2 b3] (memL []) fun v _ => P v := by
 rw [vc_mule]
 have wa : W4 a0 a1 a2 a3 = True := eq_true ha.wd
 have na : N4 a0 a1 a2 a3 = A := Vx ha
 have va : (V4 a0 a1 a2 a3 < qI) = True := eq_true (by rw [ha.val, qI_eq]; omega)
 have wb : W4 b0 b1 b2 b3 = True := eq_true hb.wd
 have nb : N4 b0 b1 b2 b3 = B := Vx hb
 have vb : (V4 b0 b1 b2 b3 < qI) = True := eq_true (by rw [hb.val, qI_eq]; omega)
 simp only [wa, wb, na, nb, A4_eq, ↓L4_eq, ↓B4_eq, N4q, N4_0, W4l, W4_0, Vq_lt, V0_lt, true_and, and_self, mul_z, z_mul, sub_z, z_add, Nat.mod_mod, lm0]
 exact hP
def rMule : R0 := fun args l =>
 match args, l with
 | [.agg [.int .u64 (.sym a0), .int .u64 (.sym a1), .int .u64 (.sym a2), .int .u64 (.sym a3), .int .u64 (.sym a4), .int .u64 (.sym a5), .int .u64 (.sym a6), .int .u64 (.sym a7)], .agg [.int .u64 (.sym b0), .int .u64 (.sym b1), .int .u64 (.sym b2), .int .u64 (.sym b3), .int .u64 (.sym b4), .int .u64 (.sym b5), .int .u64 (.sym b6), .int .u64 (.sym b7)]], [] => some (some ((((Wd a0 ∧ Wd a1 ∧ Wd a2 ∧ Wd a3) ∧ (Wd b0 ∧ Wd b1 ∧ Wd b2 ∧ Wd b3)) ∧ (V4 a0 a1 a2 a3 < 21888242871839275222246405745257275088696311157297823662689037894645226208583 ∧ V4 b0 b1 b2 b3 < 21888242871839275222246405745257275088696311157297823662689037894645226208583)) ∧ (a4 = 0 ∧ a5 = 0 ∧ a6 = 0 ∧ a7 = 0) ∧ (b4 = 0 ∧ b5 = 0 ∧ b6 = 0 ∧ b7 = 0)), agF (lm ((V4 a0 a1 a2 a3).toNat * (V4 b0 b1 b2 b3).toNat % qN) 0) (lm ((V4 a0 a1 a2 a3).toNat * (V4 b0 b1 b2 b3).toNat % qN) 1) (lm ((V4 a0 a1 a2 a3).toNat * (V4 b0 b1 b2 b3).toNat % qN) 2) (lm ((V4 a0 a1 a2 a3).toNat * (V4 b0 b1 b2 b3).toNat % qN) 3))
 | _, _ => none
theorem Mule_ok (args : List SV) (l : List (Nat × Reg)) (p : Ob) (v : SV) (h : rMule args l = some (p, v)) (hp : p.ok) : ∃ U, execF cxE U Tryz.f27 64 args (memL l) fun v' _ => v' = v := by
 unfold rMule at h
 split at h
 ·rename_i a0 a1 a2 a3 a4 a5 a6 a7 b0 b1 b2 b3 b4 b5 b6 b7
  simp only [Option.some.injEq, Prod.mk.injEq] at h
  obtain ⟨rfl, rfl⟩ := h
  have hp : (((Wd a0 ∧ Wd a1 ∧ Wd a2 ∧ Wd a3) ∧ (Wd b0 ∧ Wd b1 ∧ Wd b2 ∧ Wd b3)) ∧ (V4 a0 a1 a2 a3 < 21888242871839275222246405745257275088696311157297823662689037894645226208583 ∧ V4 b0 b1 b2 b3 < 21888242871839275222246405745257275088696311157297823662689037894645226208583)) ∧ (a4 = 0 ∧ a5 = 0 ∧ a6 = 0 ∧ a7 = 0) ∧ (b4 = 0 ∧ b5 = 0 ∧ b6 = 0 ∧ b7 = 0) := hp
  obtain ⟨⟨⟨wa, wb⟩, la, lb⟩, ⟨z0, z1, z2, z3⟩, z4, z5, z6, z7⟩ := hp
  subst z0 z1 z2 z3 z4 z5 z6 z7
  have A := ws_of wa.1 wa.2.1 wa.2.2.1 wa.2.2.2
  have B := ws_of wb.1 wb.2.1 wb.2.2.1 wb.2.2.2
  have ea := Ws.val A
  have eb := Ws.val B
  exact ⟨_, mule_walk A B (by unfold qN; omega) (by unfold qN; omega) rfl⟩
 ·cases h
def cMule : Rd Tryz.prog := mkR mixed 27 Tryz.func27 (by decide) (by kernel_rfl) [] [.num, .num] rMule Mule_ok
theorem adde_walk {A B : Nat} {a0 a1 a2 a3 b0 b1 b2 b3 : Int} {P : SV → Prop} (ha : Ws a0 a1 a2 a3 A) (hb : Ws b0 b1 b2 b3 B) (la : A < qN) (lb : B < qN) (hP : P (agF (lm ((A + B) % qN) 0) (lm ((A + B) % qN) 1) (lm ((A + B) % qN) 2) (lm ((A + B) % qN) 3))) :
  execF cxE u9 Tryz.f32 64 [agF a0 a1 a2 a3, agF b0 b1 b2 b3] (memL []) fun v _ => P v := by
 rw [vc_adde]
 have wa : W4 a0 a1 a2 a3 = True := eq_true ha.wd
 have na : N4 a0 a1 a2 a3 = A := Vx ha
 have va : (V4 a0 a1 a2 a3 < qI) = True := eq_true (by rw [ha.val, qI_eq]; omega)
 have wb : W4 b0 b1 b2 b3 = True := eq_true hb.wd
 have nb : N4 b0 b1 b2 b3 = B := Vx hb
 have vb : (V4 b0 b1 b2 b3 < qI) = True := eq_true (by rw [hb.val, qI_eq]; omega)
 simp only [wa, wb, na, nb, va, vb, A4_eq, ↓L4_eq, ↓B4_eq, N4_0, W4_0, V0_lt, true_and, and_self, z_add, lm0]
 exact hP
def rAdde : R0 := fun args l =>
 match args, l with
 | [.agg [.int .u64 (.sym a0), .int .u64 (.sym a1), .int .u64 (.sym a2), .int .u64 (.sym a3), .int .u64 (.sym a4), .int .u64 (.sym a5), .int .u64 (.sym a6), .int .u64 (.sym a7)], .agg [.int .u64 (.sym b0), .int .u64 (.sym b1), .int .u64 (.sym b2), .int .u64 (.sym b3), .int .u64 (.sym b4), .int .u64 (.sym b5), .int .u64 (.sym b6), .int .u64 (.sym b7)]], [] => some (some ((((Wd a0 ∧ Wd a1 ∧ Wd a2 ∧ Wd a3) ∧ (Wd b0 ∧ Wd b1 ∧ Wd b2 ∧ Wd b3)) ∧ (V4 a0 a1 a2 a3 < 21888242871839275222246405745257275088696311157297823662689037894645226208583 ∧ V4 b0 b1 b2 b3 < 21888242871839275222246405745257275088696311157297823662689037894645226208583)) ∧ (a4 = 0 ∧ a5 = 0 ∧ a6 = 0 ∧ a7 = 0) ∧ (b4 = 0 ∧ b5 = 0 ∧ b6 = 0 ∧ b7 = 0)), agF (lm (((V4 a0 a1 a2 a3).toNat + (V4 b0 b1 b2 b3).toNat) % qN) 0) (lm (((V4 a0 a1 a2 a3).toNat + (V4 b0 b1 b2 b3).toNat) % qN) 1) (lm (((V4 a0 a1 a2 a3).toNat + (V4 b0 b1 b2 b3).toNat) % qN) 2) (lm (((V4 a0 a1 a2 a3).toNat + (V4 b0 b1 b2 b3).toNat) % qN) 3))
 | _, _ => none
theorem Adde_ok (args : List SV) (l : List (Nat × Reg)) (p : Ob) (v : SV) (h : rAdde args l = some (p, v)) (hp : p.ok) : ∃ U, execF cxE U Tryz.f32 64 args (memL l) fun v' _ => v' = v := by
 unfold rAdde at h
 split at h
 ·rename_i a0 a1 a2 a3 a4 a5 a6 a7 b0 b1 b2 b3 b4 b5 b6 b7
  simp only [Option.some.injEq, Prod.mk.injEq] at h
  obtain ⟨rfl, rfl⟩ := h
  have hp : (((Wd a0 ∧ Wd a1 ∧ Wd a2 ∧ Wd a3) ∧ (Wd b0 ∧ Wd b1 ∧ Wd b2 ∧ Wd b3)) ∧ (V4 a0 a1 a2 a3 < 21888242871839275222246405745257275088696311157297823662689037894645226208583 ∧ V4 b0 b1 b2 b3 < 21888242871839275222246405745257275088696311157297823662689037894645226208583)) ∧ (a4 = 0 ∧ a5 = 0 ∧ a6 = 0 ∧ a7 = 0) ∧ (b4 = 0 ∧ b5 = 0 ∧ b6 = 0 ∧ b7 = 0) := hp
  obtain ⟨⟨⟨wa, wb⟩, la, lb⟩, ⟨z0, z1, z2, z3⟩, z4, z5, z6, z7⟩ := hp
  subst z0 z1 z2 z3 z4 z5 z6 z7
  have A := ws_of wa.1 wa.2.1 wa.2.2.1 wa.2.2.2
  have B := ws_of wb.1 wb.2.1 wb.2.2.1 wb.2.2.2
  have ea := Ws.val A
  have eb := Ws.val B
  exact ⟨_, adde_walk A B (by unfold qN; omega) (by unfold qN; omega) rfl⟩
 ·cases h
def cAdde : Rd Tryz.prog := mkR mixed 32 Tryz.func32 (by decide) (by kernel_rfl) [] [.num, .num] rAdde Adde_ok
theorem sube_walk {A B : Nat} {a0 a1 a2 a3 b0 b1 b2 b3 : Int} {P : SV → Prop} (ha : Ws a0 a1 a2 a3 A) (hb : Ws b0 b1 b2 b3 B) (la : A < qN) (lb : B < qN) (hP : P (agF (lm ((A + (qN - B)) % qN) 0) (lm ((A + (qN - B)) % qN) 1) (lm ((A + (qN - B)) % qN) 2) (lm ((A + (qN - B)) % qN) 3))) :
  execF cxE u9 Tryz.f29 64 [agF a0 a1 a2 a3, agF b0 b1 b2 b3] (memL []) fun v _ => P v := by
 rw [vc_sube]
 have wa : W4 a0 a1 a2 a3 = True := eq_true ha.wd
 have na : N4 a0 a1 a2 a3 = A := Vx ha
 have va : (V4 a0 a1 a2 a3 < qI) = True := eq_true (by rw [ha.val, qI_eq]; omega)
 have wb : W4 b0 b1 b2 b3 = True := eq_true hb.wd
 have nb : N4 b0 b1 b2 b3 = B := Vx hb
 have vb : (V4 b0 b1 b2 b3 < qI) = True := eq_true (by rw [hb.val, qI_eq]; omega)
 simp only [wa, wb, na, nb, va, vb, ↓L4_eq, ↓B4_eq, N4_0, W4_0, V0_lt, true_and, and_self, z_sub, lm0]
 exact hP
def rSube : R0 := fun args l =>
 match args, l with
 | [.agg [.int .u64 (.sym a0), .int .u64 (.sym a1), .int .u64 (.sym a2), .int .u64 (.sym a3), .int .u64 (.sym a4), .int .u64 (.sym a5), .int .u64 (.sym a6), .int .u64 (.sym a7)], .agg [.int .u64 (.sym b0), .int .u64 (.sym b1), .int .u64 (.sym b2), .int .u64 (.sym b3), .int .u64 (.sym b4), .int .u64 (.sym b5), .int .u64 (.sym b6), .int .u64 (.sym b7)]], [] => some (some ((((Wd a0 ∧ Wd a1 ∧ Wd a2 ∧ Wd a3) ∧ (Wd b0 ∧ Wd b1 ∧ Wd b2 ∧ Wd b3)) ∧ (V4 a0 a1 a2 a3 < 21888242871839275222246405745257275088696311157297823662689037894645226208583 ∧ V4 b0 b1 b2 b3 < 21888242871839275222246405745257275088696311157297823662689037894645226208583)) ∧ (a4 = 0 ∧ a5 = 0 ∧ a6 = 0 ∧ a7 = 0) ∧ (b4 = 0 ∧ b5 = 0 ∧ b6 = 0 ∧ b7 = 0)), agF (lm (((V4 a0 a1 a2 a3).toNat + (qN - (V4 b0 b1 b2 b3).toNat)) % qN) 0) (lm (((V4 a0 a1 a2 a3).toNat + (qN - (V4 b0 b1 b2 b3).toNat)) % qN) 1) (lm (((V4 a0 a1 a2 a3).toNat + (qN - (V4 b0 b1 b2 b3).toNat)) % qN) 2) (lm (((V4 a0 a1 a2 a3).toNat + (qN - (V4 b0 b1 b2 b3).toNat)) % qN) 3))
 | _, _ => none
theorem Sube_ok (args : List SV) (l : List (Nat × Reg)) (p : Ob) (v : SV) (h : rSube args l = some (p, v)) (hp : p.ok) : ∃ U, execF cxE U Tryz.f29 64 args (memL l) fun v' _ => v' = v := by
 unfold rSube at h
 split at h
 ·rename_i a0 a1 a2 a3 a4 a5 a6 a7 b0 b1 b2 b3 b4 b5 b6 b7
  simp only [Option.some.injEq, Prod.mk.injEq] at h
  obtain ⟨rfl, rfl⟩ := h
  have hp : (((Wd a0 ∧ Wd a1 ∧ Wd a2 ∧ Wd a3) ∧ (Wd b0 ∧ Wd b1 ∧ Wd b2 ∧ Wd b3)) ∧ (V4 a0 a1 a2 a3 < 21888242871839275222246405745257275088696311157297823662689037894645226208583 ∧ V4 b0 b1 b2 b3 < 21888242871839275222246405745257275088696311157297823662689037894645226208583)) ∧ (a4 = 0 ∧ a5 = 0 ∧ a6 = 0 ∧ a7 = 0) ∧ (b4 = 0 ∧ b5 = 0 ∧ b6 = 0 ∧ b7 = 0) := hp
  obtain ⟨⟨⟨wa, wb⟩, la, lb⟩, ⟨z0, z1, z2, z3⟩, z4, z5, z6, z7⟩ := hp
  subst z0 z1 z2 z3 z4 z5 z6 z7
  have A := ws_of wa.1 wa.2.1 wa.2.2.1 wa.2.2.2
  have B := ws_of wb.1 wb.2.1 wb.2.2.1 wb.2.2.2
  have ea := Ws.val A
  have eb := Ws.val B
  exact ⟨_, sube_walk A B (by unfold qN; omega) (by unfold qN; omega) rfl⟩
 ·cases h
def cSube : Rd Tryz.prog := mkR mixed 29 Tryz.func29 (by decide) (by kernel_rfl) [] [.num, .num] rSube Sube_ok
theorem inve_walk {A : Nat} {a0 a1 a2 a3 : Int} {P : SV → Prop} (ha : Ws a0 a1 a2 a3 A) (la : A < qN) (hP : P (agF (lm (inv0 A) 0) (lm (inv0 A) 1) (lm (inv0 A) 2) (lm (inv0 A) 3))) :
  execF cxE u9 Tryz.f31 64 [agF a0 a1 a2 a3] (memL []) fun v _ => P v := by
 rw [vc_inve]
 have wq : W4 4332616871279656263 10917124144477883021 13281191951274694749 3486998266802970665 = True := eq_true q_ws.wd
 have wa : W4 a0 a1 a2 a3 = True := eq_true ha.wd
 have na : N4 a0 a1 a2 a3 = A := Vx ha
 have va : (V4 a0 a1 a2 a3 < qI) = True := eq_true (by rw [ha.val, qI_eq]; omega)
 have h := inv_e la
 simp only [wa, wq, na, A4_eq, ↓L4_eq, ↓B4_eq, N4q, N4i, N4_0, W4l, W4_0, Vq_lt, V0_lt, z_lt, true_and, and_self, z_mul, sub_z, z_add, Nat.add_zero, Nat.mod_mod, lm0, h]
 exact hP
def rInve : R0 := fun args l =>
 match args, l with
 | [.agg [.int .u64 (.sym a0), .int .u64 (.sym a1), .int .u64 (.sym a2), .int .u64 (.sym a3), .int .u64 (.sym a4), .int .u64 (.sym a5), .int .u64 (.sym a6), .int .u64 (.sym a7)]], [] => some (some (((Wd a0 ∧ Wd a1 ∧ Wd a2 ∧ Wd a3) ∧ V4 a0 a1 a2 a3 < 21888242871839275222246405745257275088696311157297823662689037894645226208583) ∧ (a4 = 0 ∧ a5 = 0 ∧ a6 = 0 ∧ a7 = 0)), agF (lm (inv0 (V4 a0 a1 a2 a3).toNat) 0) (lm (inv0 (V4 a0 a1 a2 a3).toNat) 1) (lm (inv0 (V4 a0 a1 a2 a3).toNat) 2) (lm (inv0 (V4 a0 a1 a2 a3).toNat) 3))
 | _, _ => none
theorem Inve_ok (args : List SV) (l : List (Nat × Reg)) (p : Ob) (v : SV) (h : rInve args l = some (p, v)) (hp : p.ok) : ∃ U, execF cxE U Tryz.f31 64 args (memL l) fun v' _ => v' = v := by
 unfold rInve at h
 split at h
 ·rename_i a0 a1 a2 a3 a4 a5 a6 a7
  simp only [Option.some.injEq, Prod.mk.injEq] at h
  obtain ⟨rfl, rfl⟩ := h
  have hp : ((Wd a0 ∧ Wd a1 ∧ Wd a2 ∧ Wd a3) ∧ V4 a0 a1 a2 a3 < 21888242871839275222246405745257275088696311157297823662689037894645226208583) ∧ (a4 = 0 ∧ a5 = 0 ∧ a6 = 0 ∧ a7 = 0) := hp
  obtain ⟨⟨wa, la⟩, z0, z1, z2, z3⟩ := hp
  subst z0 z1 z2 z3
  have A := ws_of wa.1 wa.2.1 wa.2.2.1 wa.2.2.2
  have ea := Ws.val A
  exact ⟨_, inve_walk A (by unfold qN; omega) rfl⟩
 ·cases h
def cInve : Rd Tryz.prog := mkR mixed 31 Tryz.func31 (by decide) (by kernel_rfl) [] [.num] rInve Inve_ok
theorem vc_small (n : Int) (P : SV → Prop) : (execF cxE u9 Tryz.f34 64 [.int .i64 (.sym n)] (memL []) fun v _ => P v) = (B1 (IntKind.wrap IntKind.u64 n) fun a => P (.agg [U a, .int .u64 (.lit 0), .int .u64 (.lit 0), .int .u64 (.lit 0)])) := by kernel_rfl
def rSmall : R0 := fun args l =>
 match args, l with
 | [.int .i64 (.sym n)], [] => some (some (0 ≤ n ∧ n < 18446744073709551616), .agg [.int .u64 (.sym n), .int .u64 (.sym 0), .int .u64 (.sym 0), .int .u64 (.sym 0)])
 | _, _ => none
theorem Small_ok (args : List SV) (l : List (Nat × Reg)) (p : Ob) (v : SV) (h : rSmall args l = some (p, v)) (hp : p.ok) : ∃ U, execF cxE U Tryz.f34 64 args (memL l) fun v' _ => ∀ β u, Den β v' u → Den β v u := by
 unfold rSmall at h
 split at h
 ·rename_i n
  simp only [Option.some.injEq, Prod.mk.injEq] at h
  obtain ⟨rfl, rfl⟩ := h
  have hp : 0 ≤ n ∧ n < 18446744073709551616 := hp
  refine ⟨u9, ?_⟩
  rw [vc_small, B1_eq, wu64, Int.emod_eq_of_lt hp.1 hp.2]
  intro β u hu
  exact hu
 ·cases h
def cSmall : Rd Tryz.prog := mkQ mixed 34 Tryz.func34 (by decide) (by kernel_rfl) [] [.num] rSmall Small_ok
def cxO : Cx Tryz.prog := { rds := [cSmall], efs := [], eqs := [] }
theorem vc_one (n : Int) (P : SV → Prop) : (execF cxO u9 Tryz.f14 64 [.int .i64 (.sym n)] (memL []) fun v _ => P v) = ((0 ≤ n ∧ n < 18446744073709551616) ∧ B4 n 0 0 0 fun a b c d => P (.agg [U a, U b, U c, U d, .int .u64 (.lit 0), .int .u64
 (.lit 0), .int .u64 (.lit 0), .int .u64 (.lit 0)])) := by kernel_rfl
def rOne : R0 := fun args l =>
 match args, l with
 | [.int .i64 (.sym n)], [] => some (some (0 ≤ n ∧ n < 18446744073709551616), agF n 0 0 0)
 | _, _ => none
theorem One_ok (args : List SV) (l : List (Nat × Reg)) (p : Ob) (v : SV) (h : rOne args l = some (p, v)) (hp : p.ok) : ∃ U, execF cxO U Tryz.f14 64 args (memL l) fun v' _ => ∀ β u, Den β v' u → Den β v u := by
 unfold rOne at h
 split at h
 ·rename_i n
  simp only [Option.some.injEq, Prod.mk.injEq] at h
  obtain ⟨rfl, rfl⟩ := h
  have hp : 0 ≤ n ∧ n < 18446744073709551616 := hp
  refine ⟨u9, ?_⟩
  rw [vc_one]
  refine ⟨hp, ?_⟩
  rw [B4_eq]
  intro β u hu
  exact hu
 ·cases h
def cOne : Rd Tryz.prog := mkQ mixed 14 Tryz.func14 (by decide) (by kernel_rfl) [] [.num] rOne One_ok
def cxE2 : Cx Tryz.prog := { rds := [cRt], efs := [], eqs := [eq23] }
theorem vc_sign (a0 a1 a2 a3 : Int) (P : SV → Prop) : (execF cxE2 u9 Tryz.f30 64 [agF a0 a1 a2 a3] (memL []) fun v _ => P v) = (B4 a0 a1 a2 a3 fun a b c d => (decide ([a, b, c, d] = [0, 0, 0, 0]) = true → B1 0 fun e => P (U e)) ∧ (decide
 ([a, b, c, d] = [0, 0, 0, 0]) = false → B1 (Int.tmod a0 2) fun f => P (U f))) := by kernel_rfl
theorem vc_roote (a0 a1 a2 a3 : Int) (P : SV → Prop) : (execF cxE2 u9 Tryz.f28 64 [agF a0 a1 a2 a3] (memL []) fun v _ => P v) = (B4 0 0 0 0 fun e f g h => (decide ([e, f, g, h] = [0, 0, 0, 0]) = true → B4 a0 a1 a2 a3 fun a b c d => W4 a b c
 d ∧ (sqN (N4 a b c d) = true → L4 (rtN (N4 a b c d)) fun i j k l => P (.tup [.agg [U i, U j, U k, U l, .int .u64 (.lit 0), .int .u64 (.lit 0), .int .u64 (.lit 0), .int .u64 (.lit 0)], .bool (.lit true)])) ∧ (sqN (N4 a b c d) = false → B4
 a0 a1 a2 a3 fun m n o p => False)) ∧ (decide ([e, f, g, h] = [0, 0, 0, 0]) = false → False)) := by kernel_rfl
theorem vc_issq (a0 a1 a2 a3 : Int) (P : SV → Prop) : (execF cxE2 u9 Tryz.f33 64 [agF a0 a1 a2 a3, .bool (.lit true)] (memL []) fun v _ => P v) = (B4 a0 a1 a2 a3 fun a b c d => W4 a b c d ∧ P (.bool (.sym (sqN (N4 a b c d))))) := by kernel_rfl
def rSign : R0 := fun args l =>
 match args, l with
 | [.agg [.int .u64 (.sym a0), .int .u64 (.sym a1), .int .u64 (.sym a2), .int .u64 (.sym a3), .int .u64 (.sym a4), .int .u64 (.sym a5), .int .u64 (.sym a6), .int .u64 (.sym a7)]], [] => some (some ((Wd a0 ∧ Wd a1 ∧ Wd a2 ∧ Wd a3) ∧ (a4 = 0 ∧ a5 = 0 ∧ a6 = 0 ∧ a7 = 0)), .int .u64 (.sym (((V4 a0 a1 a2 a3).toNat % 2 : Nat) : Int)))
 | _, _ => none
theorem Sign_ok (args : List SV) (l : List (Nat × Reg)) (p : Ob) (v : SV) (h : rSign args l = some (p, v)) (hp : p.ok) : ∃ U, execF cxE2 U Tryz.f30 64 args (memL l) fun v' _ => v' = v := by
 unfold rSign at h
 split at h
 ·rename_i a0 a1 a2 a3 a4 a5 a6 a7
  simp only [Option.some.injEq, Prod.mk.injEq] at h
  obtain ⟨rfl, rfl⟩ := h
  have hp : (Wd a0 ∧ Wd a1 ∧ Wd a2 ∧ Wd a3) ∧ (a4 = 0 ∧ a5 = 0 ∧ a6 = 0 ∧ a7 = 0) := hp
  obtain ⟨wa, z0, z1, z2, z3⟩ := hp
  subst z0 z1 z2 z3
  have A := ws_of wa.1 wa.2.1 wa.2.2.1 wa.2.2.2
  refine ⟨u9, ?_⟩
  have := vc_sign a0 a1 a2 a3 fun v' => v' = .int .u64 (.sym (((V4 a0 a1 a2 a3).toNat % 2 : Nat) : Int))
  unfold agF at this
  refine this.mpr ?_
  clear this
  rw [B4_eq, B1_eq, B1_eq]
  refine ⟨fun h => ?_, fun h => ?_⟩
  ·have e := (list_lit A 0 (by decide) (by decide)).1 (of_decide_eq_true h)
   rw [show (V4 a0 a1 a2 a3).toNat = 0 by omega]
   rfl
  ·rw [par A]
   rfl
 ·cases h
def cSign : Rd Tryz.prog := mkR mixed 30 Tryz.func30 (by decide) (by kernel_rfl) [] [.num] rSign Sign_ok
def rRe : R0 := fun args l =>
 match args, l with
 | [.agg [.int .u64 (.sym a0), .int .u64 (.sym a1), .int .u64 (.sym a2), .int .u64 (.sym a3), .int .u64 (.sym a4), .int .u64 (.sym a5), .int .u64 (.sym a6), .int .u64 (.sym a7)]], [] => some (some (((Wd a0 ∧ Wd a1 ∧ Wd a2 ∧ Wd a3) ∧ (a4 = 0 ∧ a5 = 0 ∧ a6 = 0 ∧ a7 = 0)) ∧ sqN (V4 a0 a1 a2 a3).toNat = true), .tup [agF (lm (rtN (V4 a0 a1 a2 a3).toNat) 0) (lm (rtN (V4 a0 a1 a2 a3).toNat) 1) (lm (rtN (V4 a0 a1 a2 a3).toNat) 2) (lm (rtN (V4 a0 a1 a2 a3).toNat) 3), .bool (.sym true)])
 | _, _ => none
theorem Re_ok (args : List SV) (l : List (Nat × Reg)) (p : Ob) (v : SV) (h : rRe args l = some (p, v)) (hp : p.ok) : ∃ U, execF cxE2 U Tryz.f28 64 args (memL l) fun v' _ => ∀ β u, Den β v' u → Den β v u := by
 unfold rRe at h
 split at h
 ·rename_i a0 a1 a2 a3 a4 a5 a6 a7
  simp only [Option.some.injEq, Prod.mk.injEq] at h
  obtain ⟨rfl, rfl⟩ := h
  have hp : ((Wd a0 ∧ Wd a1 ∧ Wd a2 ∧ Wd a3) ∧ (a4 = 0 ∧ a5 = 0 ∧ a6 = 0 ∧ a7 = 0)) ∧ sqN (V4 a0 a1 a2 a3).toNat = true := hp
  obtain ⟨⟨wa, z0, z1, z2, z3⟩, hs⟩ := hp
  subst z0 z1 z2 z3
  refine ⟨u9, ?_⟩
  have := vc_roote a0 a1 a2 a3 fun v' => ∀ β u, Den β v' u → Den β (.tup [agF (lm (rtN (V4 a0 a1 a2 a3).toNat) 0) (lm (rtN (V4 a0 a1 a2 a3).toNat) 1) (lm (rtN (V4 a0 a1 a2 a3).toNat) 2) (lm (rtN (V4 a0 a1 a2 a3).toNat) 3), .bool (.sym true)]) u
  unfold agF at this
  refine this.mpr ?_
  clear this
  rw [B4_eq]
  refine ⟨fun _ => ?_, fun h => absurd h (by decide)⟩
  rw [B4_eq]
  refine ⟨wa, fun _ => ?_, fun h => ?_⟩
  ·rw [L4_eq]
   intro β u hu
   exact hu
  ·exact absurd (h.symm.trans hs) (by decide)
 ·cases h
def cRe : Rd Tryz.prog := mkQ mixed 28 Tryz.func28 (by decide) (by kernel_rfl) [] [.num] rRe Re_ok
def rIs : R0 := fun args l =>
 match args, l with
 | [.agg [.int .u64 (.sym a0), .int .u64 (.sym a1), .int .u64 (.sym a2), .int .u64 (.sym a3), .int .u64 (.sym a4), .int .u64 (.sym a5), .int .u64 (.sym a6), .int .u64 (.sym a7)], .bool (.lit true)], [] => some (some ((Wd a0 ∧ Wd a1 ∧ Wd a2 ∧ Wd a3) ∧ (a4 = 0 ∧ a5 = 0 ∧ a6 = 0 ∧ a7 = 0)), .bool (.sym (sqN (V4 a0 a1 a2 a3).toNat)))
 | _, _ => none
theorem Is_ok (args : List SV) (l : List (Nat × Reg)) (p : Ob) (v : SV) (h : rIs args l = some (p, v)) (hp : p.ok) : ∃ U, execF cxE2 U Tryz.f33 64 args (memL l) fun v' _ => v' = v := by
 unfold rIs at h
 split at h
 ·rename_i a0 a1 a2 a3 a4 a5 a6 a7
  simp only [Option.some.injEq, Prod.mk.injEq] at h
  obtain ⟨rfl, rfl⟩ := h
  have hp : (Wd a0 ∧ Wd a1 ∧ Wd a2 ∧ Wd a3) ∧ (a4 = 0 ∧ a5 = 0 ∧ a6 = 0 ∧ a7 = 0) := hp
  obtain ⟨wa, z0, z1, z2, z3⟩ := hp
  subst z0 z1 z2 z3
  refine ⟨u9, ?_⟩
  have := vc_issq a0 a1 a2 a3 fun v' => v' = .bool (.sym (sqN (V4 a0 a1 a2 a3).toNat))
  unfold agF at this
  refine this.mpr ?_
  clear this
  rw [B4_eq]
  exact ⟨wa, rfl⟩
 ·cases h
def cIs : Rd Tryz.prog := mkR mixed 33 Tryz.func33 (by decide) (by kernel_rfl) [] [.num, .val] rIs Is_ok
def cxCv : Cx Tryz.prog := { rds := [cMule, cAdde], efs := [], eqs := [] }
theorem vc_cv (a0 a1 a2 a3 b0 b1 b2 b3 : Int) (P : SV → Prop) : (execF cxCv u9 Tryz.f26 64 [agF a0 a1 a2 a3, agF b0 b1 b2 b3] (memL []) fun v _ => P v) = (B4 a0 a1 a2 a3 fun a b c d => B4 0 0 0 0 fun z A B C => B4 a0 a1 a2 a3 fun e f g h =>
 B4 0 0 0 0 fun D E F G => B4 a0 a1 a2 a3 fun i j k l => B4 0 0 0 0 fun H I J K => (((W4 e f g h ∧ W4 i j k l) ∧ V4 e f g h < qI ∧ V4 i j k l < qI) ∧ Z4 D E F G ∧ Z4 H I J K) ∧ L4 (N4 e f g h * N4 i j k l % qN) fun m n o p => B4 0 0 0 0 fun
 L M N O => (((W4 a b c d ∧ W4 m n o p) ∧ V4 a b c d < qI ∧ V4 m n o p < qI) ∧ Z4 z A B C ∧ Z4 L M N O) ∧ L4 (N4 a b c d * N4 m n o p % qN) fun q r s t => B4 0 0 0 0 fun Q R S T => B4 b0 b1 b2 b3 fun u w x y => B4 0 0 0 0 fun V X Y Z =>
 (((W4 q r s t ∧ W4 u w x y) ∧ V4 q r s t < qI ∧ V4 u w x y < qI) ∧ Z4 Q R S T ∧ Z4 V X Y Z) ∧ L4 ((N4 q r s t + N4 u w x y) % qN) fun aa ab ac ad => B4 0 0 0 0 fun ae af ag ah => P (.agg [U aa, U ab, U ac, U ad, U ae, U af, U ag, U ah])) := by kernel_rfl
theorem cv_walk {A B : Nat} {a0 a1 a2 a3 b0 b1 b2 b3 : Int} {P : SV → Prop} (ha : Ws a0 a1 a2 a3 A) (hb : Ws b0 b1 b2 b3 B) (la : A < qN) (lb : B < qN) (hP : P (agF (lm ((A * (A * A % qN) % qN + B) % qN) 0) (lm ((A * (A * A % qN) % qN + B) % qN) 1) (lm ((A * (A * A % qN) % qN + B) % qN) 2) (lm ((A * (A * A % qN) % qN + B) % qN) 3))) :
  execF cxCv u9 Tryz.f26 64 [agF a0 a1 a2 a3, agF b0 b1 b2 b3] (memL []) fun v _ => P v := by
 rw [vc_cv]
 have wa : W4 a0 a1 a2 a3 = True := eq_true ha.wd
 have na : N4 a0 a1 a2 a3 = A := Vx ha
 have va : (V4 a0 a1 a2 a3 < qI) = True := eq_true (by rw [ha.val, qI_eq]; omega)
 have wb : W4 b0 b1 b2 b3 = True := eq_true hb.wd
 have nb : N4 b0 b1 b2 b3 = B := Vx hb
 have vb : (V4 b0 b1 b2 b3 < qI) = True := eq_true (by rw [hb.val, qI_eq]; omega)
 simp only [wa, wb, na, nb, va, vb, ↓L4_eq, ↓B4_eq, Z4_0, N4q, W4l, Vq_lt, true_and, and_self]
 exact hP
def rCv : R0 := fun args l =>
 match args, l with
 | [.agg [.int .u64 (.sym a0), .int .u64 (.sym a1), .int .u64 (.sym a2), .int .u64 (.sym a3), .int .u64 (.sym a4), .int .u64 (.sym a5), .int .u64 (.sym a6), .int .u64 (.sym a7)], .agg [.int .u64 (.sym b0), .int .u64 (.sym b1), .int .u64 (.sym b2), .int .u64 (.sym b3), .int .u64 (.sym b4), .int .u64 (.sym b5), .int .u64 (.sym b6), .int .u64 (.sym b7)]], [] => some (some ((((Wd a0 ∧ Wd a1 ∧ Wd a2 ∧ Wd a3) ∧ (Wd b0 ∧ Wd b1 ∧ Wd b2 ∧ Wd b3)) ∧ (V4 a0 a1 a2 a3 < 21888242871839275222246405745257275088696311157297823662689037894645226208583 ∧ V4 b0 b1 b2 b3 < 21888242871839275222246405745257275088696311157297823662689037894645226208583)) ∧ (a4 = 0 ∧ a5 = 0 ∧ a6 = 0 ∧ a7 = 0) ∧ (b4 = 0 ∧ b5 = 0 ∧ b6 = 0 ∧ b7 = 0)), agF (lm (((V4 a0 a1 a2 a3).toNat * ((V4 a0 a1 a2 a3).toNat * (V4 a0 a1 a2 a3).toNat % qN) % qN + (V4 b0 b1 b2 b3).toNat) % qN) 0) (lm (((V4 a0 a1 a2 a3).toNat * ((V4 a0 a1 a2 a3).toNat * (V4 a0 a1 a2 a3).toNat % qN) % qN + (V4 b0 b1 b2 b3).toNat) % qN) 1) (lm (((V4 a0 a1 a2 a3).toNat * ((V4 a0 a1 a2 a3).toNat * (V4 a0 a1 a2 a3).toNat % qN) % qN + (V4 b0 b1 b2 b3).toNat) % qN) 2) (lm (((V4 a0 a1 a2 a3).toNat * ((V4 a0 a1 a2 a3).toNat * (V4 a0 a1 a2 a3).toNat % qN) % qN + (V4 b0 b1 b2 b3).toNat) % qN) 3))
 | _, _ => none
theorem Cv_ok (args : List SV) (l : List (Nat × Reg)) (p : Ob) (v : SV) (h : rCv args l = some (p, v)) (hp : p.ok) : ∃ U, execF cxCv U Tryz.f26 64 args (memL l) fun v' _ => v' = v := by
 unfold rCv at h
 split at h
 ·rename_i a0 a1 a2 a3 a4 a5 a6 a7 b0 b1 b2 b3 b4 b5 b6 b7
  simp only [Option.some.injEq, Prod.mk.injEq] at h
  obtain ⟨rfl, rfl⟩ := h
  have hp : (((Wd a0 ∧ Wd a1 ∧ Wd a2 ∧ Wd a3) ∧ (Wd b0 ∧ Wd b1 ∧ Wd b2 ∧ Wd b3)) ∧ (V4 a0 a1 a2 a3 < 21888242871839275222246405745257275088696311157297823662689037894645226208583 ∧ V4 b0 b1 b2 b3 < 21888242871839275222246405745257275088696311157297823662689037894645226208583)) ∧ (a4 = 0 ∧ a5 = 0 ∧ a6 = 0 ∧ a7 = 0) ∧ (b4 = 0 ∧ b5 = 0 ∧ b6 = 0 ∧ b7 = 0) := hp
  obtain ⟨⟨⟨wa, wb⟩, la, lb⟩, ⟨z0, z1, z2, z3⟩, z4, z5, z6, z7⟩ := hp
  subst z0 z1 z2 z3 z4 z5 z6 z7
  have A := ws_of wa.1 wa.2.1 wa.2.2.1 wa.2.2.2
  have B := ws_of wb.1 wb.2.1 wb.2.2.1 wb.2.2.2
  have ea := Ws.val A
  have eb := Ws.val B
  exact ⟨_, cv_walk A B (by unfold qN; omega) (by unfold qN; omega) rfl⟩
 ·cases h
def cCv : Rd Tryz.prog := mkR mixed 26 Tryz.func26 (by decide) (by kernel_rfl) [] [.num, .num] rCv Cv_ok
def cxSt : Cx Tryz.prog := { rds := [cOne, cSube, cCv, cMule, cInve, cIs], efs := [], eqs := [eq43] }
def liNo : LI := { ι := Nat, keep := [], keepR := [], F := fun _ => ⟨[], []⟩, I := fun _ _ => False, μ := fun _ => 0, k := 0 }
def uSt : Nat → Lp := fun _ => .peel liNo
theorem vc_st (P : SV → Prop) : (execF cxSt uSt Tryz.f25 64 [agF 3 0 0 0, .bool (.lit true)] (memL []) fun v _ => P v) = (((0 : Int) ≤ 1 ∧ (1 : Int) < 18446744073709551616) ∧ B4 1 0 0 0 fun x0 x1 x2 x3 => B4 0 0 0 0 fun x4 x5 x6 x7 => ((0 :
 Int) ≤ 1 ∧ (1 : Int) < 18446744073709551616) ∧ B4 1 0 0 0 fun q r s t => B4 0 0 0 0 fun ct cu cv cw => (((W4 0 0 0 0 ∧ W4 q r s t) ∧ 0 < qI ∧ V4 q r s t < qI) ∧ Z4 0 0 0 0 ∧ Z4 ct cu cv cw) ∧ L4 ((0 + (qN - N4 q r s t)) % qN) fun fy fz f0
 f1 => B4 0 0 0 0 fun f2 f3 f4 f5 => B4 x0 x1 x2 x3 fun a b c d => B4 x4 x5 x6 x7 fun e f g h => B4 a b c d fun i j k l => B4 e f g h fun cx cy cz c0 => B4 3 0 0 0 fun u w x y => B4 0 0 0 0 fun c1 c2 c3 c4 => (((W4 i j k l ∧ W4 u w x y) ∧
 V4 i j k l < qI ∧ V4 u w x y < qI) ∧ Z4 cx cy cz c0 ∧ Z4 c1 c2 c3 c4) ∧ L4 ((N4 i j k l * (N4 i j k l * N4 i j k l % qN) % qN + N4 u w x y) % qN) fun z A B C => B4 0 0 0 0 fun D E F G => B4 z A B C fun bw bx bz b0 => B4 D E F G fun b1 b2
 b3 b4 => (decide ([bw, bx, bz, b0, b1, b2, b3, b4] = [0, 0, 0, 0, 0, 0, 0, 0]) = true → (∃ f6 : Nat, False ∧ True) ∧ (Nat → False → False)) ∧ (decide ([bw, bx, bz, b0, b1, b2, b3, b4] = [0, 0, 0, 0, 0, 0, 0, 0]) = false → (((0 : Int) ≤ 3 ∧
 (3 : Int) < 18446744073709551616) ∧ B4 3 0 0 0 fun H I J K => B4 0 0 0 0 fun c5 c6 c7 c8 => B4 a b c d fun L M N O => B4 e f g h fun c9 da db dc => B4 a b c d fun Q R S T => B4 e f g h fun dd de df dg => (((W4 L M N O ∧ W4 Q R S T) ∧ V4 L
 M N O < qI ∧ V4 Q R S T < qI) ∧ Z4 c9 da db dc ∧ Z4 dd de df dg) ∧ L4 (N4 L M N O * N4 Q R S T % qN) fun V X Y Z => B4 0 0 0 0 fun dh di dj dk => (((W4 H I J K ∧ W4 V X Y Z) ∧ V4 H I J K < qI ∧ V4 V X Y Z < qI) ∧ Z4 c5 c6 c7 c8 ∧ Z4 dh di
 dj dk) ∧ L4 (N4 H I J K * N4 V X Y Z % qN) fun aa ab ac ad => B4 0 0 0 0 fun dl dm dn dp => ((0 : Int) ≤ 4 ∧ (4 : Int) < 18446744073709551616) ∧ B4 4 0 0 0 fun ae af ag ah => B4 0 0 0 0 fun dq dr ds dt => B4 z A B C fun ai aj ak al => B4 D
 E F G fun du dv dw dx => (((W4 ae af ag ah ∧ W4 ai aj ak al) ∧ V4 ae af ag ah < qI ∧ V4 ai aj ak al < qI) ∧ Z4 dq dr ds dt ∧ Z4 du dv dw dx) ∧ L4 (N4 ae af ag ah * N4 ai aj ak al % qN) fun am an ao ap => B4 0 0 0 0 fun dy dz d0 d1 => ((W4
 am an ao ap ∧ V4 am an ao ap < qI) ∧ Z4 dy dz d0 d1) ∧ L4 (inv0 (N4 am an ao ap)) fun aq ar au av => B4 0 0 0 0 fun d2 d3 d4 d5 => (((W4 aa ab ac ad ∧ W4 aq ar au av) ∧ V4 aa ab ac ad < qI ∧ V4 aq ar au av < qI) ∧ Z4 dl dm dn dp ∧ Z4 d2 d3
 d4 d5) ∧ L4 (N4 aa ab ac ad * N4 aq ar au av % qN) fun aw ax ay az => B4 0 0 0 0 fun d6 d7 d8 d9 => (((W4 0 0 0 0 ∧ W4 aw ax ay az) ∧ 0 < qI ∧ V4 aw ax ay az < qI) ∧ Z4 0 0 0 0 ∧ Z4 d6 d7 d8 d9) ∧ L4 ((0 + (qN - N4 aw ax ay az)) % qN) fun
 b5 b6 b7 b8 => B4 0 0 0 0 fun b9 ca cb cc => B4 a b c d fun a0 a1 a2 a3 => B4 e f g h fun ea eb ec ed => (((W4 0 0 0 0 ∧ W4 a0 a1 a2 a3) ∧ 0 < qI ∧ V4 a0 a1 a2 a3 < qI) ∧ Z4 0 0 0 0 ∧ Z4 ea eb ec ed) ∧ L4 ((0 + (qN - N4 a0 a1 a2 a3)) % qN)
 fun a4 a5 a6 a7 => B4 0 0 0 0 fun ee ef eg eh => ((0 : Int) ≤ 2 ∧ (2 : Int) < 18446744073709551616) ∧ B4 2 0 0 0 fun a8 a9 ba bb => B4 0 0 0 0 fun ei ej ek el => ((W4 a8 a9 ba bb ∧ V4 a8 a9 ba bb < qI) ∧ Z4 ei ej ek el) ∧ L4 (inv0 (N4 a8
 a9 ba bb)) fun bc bd be bf => B4 0 0 0 0 fun em en eo ep => (((W4 a4 a5 a6 a7 ∧ W4 bc bd be bf) ∧ V4 a4 a5 a6 a7 < qI ∧ V4 bc bd be bf < qI) ∧ Z4 ee ef eg eh ∧ Z4 em en eo ep) ∧ L4 (N4 a4 a5 a6 a7 * N4 bc bd be bf % qN) fun m n o p => B4 0
 0 0 0 fun eq er es et => B4 3 0 0 0 fun bg bh bi bj => B4 0 0 0 0 fun eu ev ew ex => (((W4 m n o p ∧ W4 bg bh bi bj) ∧ V4 m n o p < qI ∧ V4 bg bh bi bj < qI) ∧ Z4 eq er es et ∧ Z4 eu ev ew ex) ∧ L4 ((N4 m n o p * (N4 m n o p * N4 m n o p %
 qN) % qN + N4 bg bh bi bj) % qN) fun ey ez e0 e1 => B4 0 0 0 0 fun e2 e3 e4 e5 => B4 b5 b6 b7 b8 fun cd ce cf cg => B4 b9 ca cb cc fun ch ci cj ck => (Bool.not (decide ([cd, ce, cf, cg, ch, ci, cj, ck] = [0, 0, 0, 0, 0, 0, 0, 0])) = true →
 B4 b5 b6 b7 b8 fun bk bl bm bn => B4 b9 ca cb cc fun e6 e7 e8 e9 => (W4 bk bl bm bn ∧ Z4 e6 e7 e8 e9) ∧ (sqN (N4 bk bl bm bn) = true → B4 z A B C fun bo bp bq br => B4 D E F G fun fa fb fc fd => (W4 bo bp bq br ∧ Z4 fa fb fc fd) ∧ (sqN (N4
 bo bp bq br) = true → B4 a b c d fun fe ff fg fh => B4 e f g h fun fi fj fk fl => P (.agg [U fe, U ff, U fg, U fh, U fi, U fj, U fk, U fl])) ∧ (sqN (N4 bo bp bq br) = false → B4 ey ez e0 e1 fun bs bt bu bv => B4 e2 e3 e4 e5 fun fm fn fo fp
 => (W4 bs bt bu bv ∧ Z4 fm fn fo fp) ∧ (sqN (N4 bs bt bu bv) = true → B4 a b c d fun fq fr fs ft => B4 e f g h fun fu fv fw fx => P (.agg [U fq, U fr, U fs, U ft, U fu, U fv, U fw, U fx])) ∧ (sqN (N4 bs bt bu bv) = false → (∃ f7 : Nat,
 False ∧ True) ∧ (Nat → False → False)))) ∧ (sqN (N4 bk bl bm bn) = false → (∃ f8 : Nat, False ∧ True) ∧ (Nat → False → False))) ∧ (Bool.not (decide ([cd, ce, cf, cg, ch, ci, cj, ck] = [0, 0, 0, 0, 0, 0, 0, 0])) = false → (∃ f9 : Nat, False
 ∧ True) ∧ (Nat → False → False))))) := by kernel_rfl
theorem st_walk {P : SV → Prop} (hP : P (agF 1 0 0 0)) : execF cxSt uSt Tryz.f25 64 [agF 3 0 0 0, .bool (.lit true)] (memL []) fun v _ => P v := by
 rw [vc_st]
 simp only [↓L4_eq, ↓B4_eq]
 unfold W4 Z4
 repeat' first
  | exact hP
  | refine ⟨by decide +kernel, ?_⟩
  | refine ⟨fun _ => ?_, fun h => absurd h (by decide +kernel)⟩
  | refine ⟨fun h => absurd h (by decide +kernel), fun _ => ?_⟩
def rSt : R0 := fun args l =>
 match args, l with
 | [.agg [.int .u64 (.sym b0), .int .u64 (.sym b1), .int .u64 (.sym b2), .int .u64 (.sym b3), .int .u64 (.sym b4), .int .u64 (.sym b5), .int .u64 (.sym b6), .int .u64 (.sym b7)], .bool (.lit true)], [] => some (some ((b0 = 3 ∧ b1 = 0 ∧ b2 = 0 ∧ b3 = 0) ∧ (b4 = 0 ∧ b5 = 0 ∧ b6 = 0 ∧ b7 = 0)), agF 1 0 0 0)
 | _, _ => none
theorem St_ok (args : List SV) (l : List (Nat × Reg)) (p : Ob) (v : SV) (h : rSt args l = some (p, v)) (hp : p.ok) : ∃ U, execF cxSt U Tryz.f25 64 args (memL l) fun v' _ => v' = v := by
 unfold rSt at h
 split at h
 ·rename_i b0 b1 b2 b3 b4 b5 b6 b7
  simp only [Option.some.injEq, Prod.mk.injEq] at h
  obtain ⟨rfl, rfl⟩ := h
  have hp : (b0 = 3 ∧ b1 = 0 ∧ b2 = 0 ∧ b3 = 0) ∧ (b4 = 0 ∧ b5 = 0 ∧ b6 = 0 ∧ b7 = 0) := hp
  obtain ⟨⟨y0, y1, y2, y3⟩, z0, z1, z2, z3⟩ := hp
  subst z0 z1 z2 z3 y0 y1 y2 y3
  exact ⟨_, st_walk rfl⟩
 ·cases h
def cSt : Rd Tryz.prog := mkR mixed 25 Tryz.func25 (by decide) (by kernel_rfl) [] [.num, .val] rSt St_ok
def cxMp : Cx Tryz.prog := { rds := [cOne, cSube, cAdde, cCv, cMule, cInve, cIs, cRe, cSign, cSt], efs := [], eqs := [eq43] }
def MpR (P : SV → Prop) (x32 x33 x34 x35 x36 x37 x38 x39 x72 x73 x74 x75 x76 x77 x78 x79 x8 x9 x10 x11 x12 x13 x14 x15 u0 u1 u2 u3 x9000 x9001 x9002 x9003 x9010 x9011 x9012 x9013 : Int) : Prop :=
 ((0 : Int) ≤ 4 ∧ (4 : Int) < 18446744073709551616) ∧ B4 4 0 0 0 fun y0 y1 y2 y3 => B4 0 0 0 0 fun y4 y5 y6 y7 => B4 x32 x33 x34 x35 fun y8 y9 a1 a2 => B4 x36 x37 x38 x39 fun lp lq lr ls => (((W4 y0 y1 y2 y3 ∧ W4 y8 y9 a1 a2) ∧ V4 y0 y1 y2
 y3 < qI ∧ V4 y8 y9 a1 a2 < qI) ∧ Z4 y4 y5 y6 y7 ∧ Z4 lp lq lr ls) ∧ L4 (N4 y0 y1 y2 y3 * N4 y8 y9 a1 a2 % qN) fun a3 a4 a5 a6 => B4 0 0 0 0 fun lt lu lv lw => B4 x72 x73 x74 x75 fun a7 a8 a9 ba => B4 x76 x77 x78 x79 fun lx ly lz l0 => ((W4
 a7 a8 a9 ba ∧ V4 a7 a8 a9 ba < qI) ∧ Z4 lx ly lz l0) ∧ L4 (inv0 (N4 a7 a8 a9 ba)) fun bb bc bd be => B4 0 0 0 0 fun l1 l2 l3 l4 => (((W4 a3 a4 a5 a6 ∧ W4 bb bc bd be) ∧ V4 a3 a4 a5 a6 < qI ∧ V4 bb bc bd be < qI) ∧ Z4 lt lu lv lw ∧ Z4 l1 l2
 l3 l4) ∧ L4 (N4 a3 a4 a5 a6 * N4 bb bc bd be % qN) fun bf bg bh bi => B4 0 0 0 0 fun l5 l6 l7 l8 => (((W4 0 0 0 0 ∧ W4 bf bg bh bi) ∧ 0 < qI ∧ V4 bf bg bh bi < qI) ∧ Z4 0 0 0 0 ∧ Z4 l5 l6 l7 l8) ∧ L4 ((0 + (qN - N4 bf bg bh bi)) % qN) fun
 iw ix iy iz => B4 0 0 0 0 fun i0 i1 i2 i3 => B4 x8 x9 x10 x11 fun bj bk bl bm => B4 x12 x13 x14 x15 fun l9 ma mb mc => (((W4 0 0 0 0 ∧ W4 bj bk bl bm) ∧ 0 < qI ∧ V4 bj bk bl bm < qI) ∧ Z4 0 0 0 0 ∧ Z4 l9 ma mb mc) ∧ L4 ((0 + (qN - N4 bj bk
 bl bm)) % qN) fun bn bo bp bq => B4 0 0 0 0 fun md me mf mg => ((0 : Int) ≤ 2 ∧ (2 : Int) < 18446744073709551616) ∧ B4 2 0 0 0 fun br bs bt bu => B4 0 0 0 0 fun mh mi mj mk => ((W4 br bs bt bu ∧ V4 br bs bt bu < qI) ∧ Z4 mh mi mj mk) ∧ L4
 (inv0 (N4 br bs bt bu)) fun bv bw bx bz => B4 0 0 0 0 fun ml mm mn mo => (((W4 bn bo bp bq ∧ W4 bv bw bx bz) ∧ V4 bn bo bp bq < qI ∧ V4 bv bw bx bz < qI) ∧ Z4 md me mf mg ∧ Z4 ml mm mn mo) ∧ L4 (N4 bn bo bp bq * N4 bv bw bx bz % qN) fun i4
 i5 i6 i7 => B4 0 0 0 0 fun i8 i9 ja jb => B4 u0 u1 u2 u3 fun b0 b1 b2 b3 => B4 0 0 0 0 fun mp mq mr ms => B4 u0 u1 u2 u3 fun b4 b5 b6 b7 => B4 0 0 0 0 fun mt mu mv mw => (((W4 b0 b1 b2 b3 ∧ W4 b4 b5 b6 b7) ∧ V4 b0 b1 b2 b3 < qI ∧ V4 b4 b5
 b6 b7 < qI) ∧ Z4 mp mq mr ms ∧ Z4 mt mu mv mw) ∧ L4 (N4 b0 b1 b2 b3 * N4 b4 b5 b6 b7 % qN) fun b8 b9 ca cb => B4 0 0 0 0 fun mx my mz m0 => B4 x32 x33 x34 x35 fun cc cd ce cf => B4 x36 x37 x38 x39 fun m1 m2 m3 m4 => (((W4 b8 b9 ca cb ∧ W4
 cc cd ce cf) ∧ V4 b8 b9 ca cb < qI ∧ V4 cc cd ce cf < qI) ∧ Z4 mx my mz m0 ∧ Z4 m1 m2 m3 m4) ∧ L4 (N4 b8 b9 ca cb * N4 cc cd ce cf % qN) fun jc jd je jf => B4 0 0 0 0 fun jg jh ji jj => ((0 : Int) ≤ 1 ∧ (1 : Int) < 18446744073709551616) ∧
 B4 1 0 0 0 fun cg ch ci cj => B4 0 0 0 0 fun m5 m6 m7 m8 => B4 jc jd je jf fun ck cl cm cn => B4 jg jh ji jj fun m9 na nb nc => (((W4 cg ch ci cj ∧ W4 ck cl cm cn) ∧ V4 cg ch ci cj < qI ∧ V4 ck cl cm cn < qI) ∧ Z4 m5 m6 m7 m8 ∧ Z4 m9 na nb
 nc) ∧ L4 ((N4 cg ch ci cj + N4 ck cl cm cn) % qN) fun a b c d => B4 0 0 0 0 fun e f g h => ((0 : Int) ≤ 1 ∧ (1 : Int) < 18446744073709551616) ∧ B4 1 0 0 0 fun co cp cq cr => B4 0 0 0 0 fun nd ne nf ng => B4 jc jd je jf fun cs ct cu cv =>
 B4 jg jh ji jj fun nh ni nj nk => (((W4 co cp cq cr ∧ W4 cs ct cu cv) ∧ V4 co cp cq cr < qI ∧ V4 cs ct cu cv < qI) ∧ Z4 nd ne nf ng ∧ Z4 nh ni nj nk) ∧ L4 ((N4 co cp cq cr + (qN - N4 cs ct cu cv)) % qN) fun jk jl jm jn => B4 0 0 0 0 fun jo
 jp jq jr => B4 jk jl jm jn fun cw cx cy cz => B4 jo jp jq jr fun nl nm nn no => B4 a b c d fun c0 c1 c2 c3 => B4 e f g h fun np nq nr ns => (((W4 cw cx cy cz ∧ W4 c0 c1 c2 c3) ∧ V4 cw cx cy cz < qI ∧ V4 c0 c1 c2 c3 < qI) ∧ Z4 nl nm nn no ∧
 Z4 np nq nr ns) ∧ L4 (N4 cw cx cy cz * N4 c0 c1 c2 c3 % qN) fun c4 c5 c6 c7 => B4 0 0 0 0 fun nt nu nv nw => ((W4 c4 c5 c6 c7 ∧ V4 c4 c5 c6 c7 < qI) ∧ Z4 nt nu nv nw) ∧ L4 (inv0 (N4 c4 c5 c6 c7)) fun c8 c9 da db => B4 0 0 0 0 fun dc dd de
 df => B4 u0 u1 u2 u3 fun dg dh di dj => B4 0 0 0 0 fun nx ny nz n0 => B4 jk jl jm jn fun dk dl dm dn => B4 jo jp jq jr fun n1 n2 n3 n4 => (((W4 dg dh di dj ∧ W4 dk dl dm dn) ∧ V4 dg dh di dj < qI ∧ V4 dk dl dm dn < qI) ∧ Z4 nx ny nz n0 ∧
 Z4 n1 n2 n3 n4) ∧ L4 (N4 dg dh di dj * N4 dk dl dm dn % qN) fun dp dq dr ds => B4 0 0 0 0 fun n5 n6 n7 n8 => B4 c8 c9 da db fun dt du dv dw => B4 dc dd de df fun n9 oa ob oc => (((W4 dp dq dr ds ∧ W4 dt du dv dw) ∧ V4 dp dq dr ds < qI ∧ V4
 dt du dv dw < qI) ∧ Z4 n5 n6 n7 n8 ∧ Z4 n9 oa ob oc) ∧ L4 (N4 dp dq dr ds * N4 dt du dv dw % qN) fun dx dy dz d0 => B4 0 0 0 0 fun od oe og oh => B4 x9000 x9001 x9002 x9003 fun d1 d2 d3 d4 => B4 x9010 x9011 x9012 x9013 fun oi oj ok ol =>
 (((W4 dx dy dz d0 ∧ W4 d1 d2 d3 d4) ∧ V4 dx dy dz d0 < qI ∧ V4 d1 d2 d3 d4 < qI) ∧ Z4 od oe og oh ∧ Z4 oi oj ok ol) ∧ L4 (N4 dx dy dz d0 * N4 d1 d2 d3 d4 % qN) fun js jt ju jv => B4 0 0 0 0 fun jw jx jy jz => B4 i4 i5 i6 i7 fun d5 d6 d7 d8
 => B4 i8 i9 ja jb fun om on oo op => B4 js jt ju jv fun d9 ea eb ec => B4 jw jx jy jz fun oq os ot ou => (((W4 d5 d6 d7 d8 ∧ W4 d9 ea eb ec) ∧ V4 d5 d6 d7 d8 < qI ∧ V4 d9 ea eb ec < qI) ∧ Z4 om on oo op ∧ Z4 oq os ot ou) ∧ L4 ((N4 d5 d6 d7
 d8 + (qN - N4 d9 ea eb ec)) % qN) fun i j k l => B4 0 0 0 0 fun m n o p => B4 i j k l fun q r s t => B4 m n o p fun ov ow ox oy => B4 3 0 0 0 fun ed ee ef eg => B4 0 0 0 0 fun oz o0 o1 o2 => (((W4 q r s t ∧ W4 ed ee ef eg) ∧ V4 q r s t <
 qI ∧ V4 ed ee ef eg < qI) ∧ Z4 ov ow ox oy ∧ Z4 oz o0 o1 o2) ∧ L4 ((N4 q r s t * (N4 q r s t * N4 q r s t % qN) % qN + N4 ed ee ef eg) % qN) fun eh ei ej ek => B4 0 0 0 0 fun o3 o4 o5 o6 => (W4 eh ei ej ek ∧ Z4 o3 o4 o5 o6) ∧ (Bool.not
 (sqN (N4 eh ei ej ek)) = true → B4 i4 i5 i6 i7 fun el em en eo => B4 i8 i9 ja jb fun o7 o8 o9 pa => B4 js jt ju jv fun ep eq er es => B4 jw jx jy jz fun pb pc pd pe => (((W4 el em en eo ∧ W4 ep eq er es) ∧ V4 el em en eo < qI ∧ V4 ep eq er
 es < qI) ∧ Z4 o7 o8 o9 pa ∧ Z4 pb pc pd pe) ∧ L4 ((N4 el em en eo + N4 ep eq er es) % qN) fun al am an ao => B4 0 0 0 0 fun ap aq ar au => B4 al am an ao fun u v w x => B4 ap aq ar au fun pf pg ph pi => B4 3 0 0 0 fun et eu ev ew => B4 0 0
 0 0 fun pj pk pl pm => (((W4 u v w x ∧ W4 et eu ev ew) ∧ V4 u v w x < qI ∧ V4 et eu ev ew < qI) ∧ Z4 pf pg ph pi ∧ Z4 pj pk pl pm) ∧ L4 ((N4 u v w x * (N4 u v w x * N4 u v w x % qN) % qN + N4 et eu ev ew) % qN) fun ex ey ez e0 => B4 0 0 0
 0 fun pn po pp pq => (W4 ex ey ez e0 ∧ Z4 pn po pp pq) ∧ (Bool.not (sqN (N4 ex ey ez e0)) = true → B4 a b c d fun e1 e2 e3 e4 => B4 e f g h fun pr ps pt pu => B4 a b c d fun e5 e6 e7 e8 => B4 e f g h fun pv pw px py => (((W4 e1 e2 e3 e4 ∧
 W4 e5 e6 e7 e8) ∧ V4 e1 e2 e3 e4 < qI ∧ V4 e5 e6 e7 e8 < qI) ∧ Z4 pr ps pt pu ∧ Z4 pv pw px py) ∧ L4 (N4 e1 e2 e3 e4 * N4 e5 e6 e7 e8 % qN) fun e9 fa fb fc => B4 0 0 0 0 fun pz p0 p1 p2 => B4 c8 c9 da db fun fd fe ff fg => B4 dc dd de df
 fun p3 p4 p5 p6 => (((W4 e9 fa fb fc ∧ W4 fd fe ff fg) ∧ V4 e9 fa fb fc < qI ∧ V4 fd fe ff fg < qI) ∧ Z4 pz p0 p1 p2 ∧ Z4 p3 p4 p5 p6) ∧ L4 (N4 e9 fa fb fc * N4 fd fe ff fg % qN) fun j0 j1 j2 j3 => B4 0 0 0 0 fun j4 j5 j6 j7 => B4 j0 j1 j2
 j3 fun fh fi fj fk => B4 j4 j5 j6 j7 fun p7 p8 p9 qa => B4 j0 j1 j2 j3 fun fl fm fn fo => B4 j4 j5 j6 j7 fun qb qc qd qe => (((W4 fh fi fj fk ∧ W4 fl fm fn fo) ∧ V4 fh fi fj fk < qI ∧ V4 fl fm fn fo < qI) ∧ Z4 p7 p8 p9 qa ∧ Z4 qb qc qd qe)
 ∧ L4 (N4 fh fi fj fk * N4 fl fm fn fo % qN) fun fp fq fr fs => B4 0 0 0 0 fun qf qg qh qi => B4 iw ix iy iz fun ft fu fv fw => B4 i0 i1 i2 i3 fun qj qk ql qm => (((W4 fp fq fr fs ∧ W4 ft fu fv fw) ∧ V4 fp fq fr fs < qI ∧ V4 ft fu fv fw <
 qI) ∧ Z4 qf qg qh qi ∧ Z4 qj qk ql qm) ∧ L4 (N4 fp fq fr fs * N4 ft fu fv fw % qN) fun fx fy fz f0 => B4 0 0 0 0 fun qn qo qp qq => B4 x8 x9 x10 x11 fun f1 f2 f3 f4 => B4 x12 x13 x14 x15 fun qr qs qt qu => (((W4 fx fy fz f0 ∧ W4 f1 f2 f3
 f4) ∧ V4 fx fy fz f0 < qI ∧ V4 f1 f2 f3 f4 < qI) ∧ Z4 qn qo qp qq ∧ Z4 qr qs qt qu) ∧ L4 ((N4 fx fy fz f0 + N4 f1 f2 f3 f4) % qN) fun f5 f6 f7 f8 => B4 0 0 0 0 fun f9 ga gb gc => B4 f5 f6 f7 f8 fun y z A B => B4 f9 ga gb gc fun qv qw qx qy
 => B4 3 0 0 0 fun gd ge gf gg => B4 0 0 0 0 fun qz q0 q1 q2 => (((W4 y z A B ∧ W4 gd ge gf gg) ∧ V4 y z A B < qI ∧ V4 gd ge gf gg < qI) ∧ Z4 qv qw qx qy ∧ Z4 qz q0 q1 q2) ∧ L4 ((N4 y z A B * (N4 y z A B * N4 y z A B % qN) % qN + N4 gd ge
 gf gg) % qN) fun C D E F => B4 0 0 0 0 fun q3 q4 q5 q6 => ((W4 C D E F ∧ Z4 q3 q4 q5 q6) ∧ sqN (N4 C D E F) = true) ∧ L4 (rtN (N4 C D E F)) fun j8 j9 ka kb => B4 0 0 0 0 fun q7 q8 q9 ra => (W4 j8 j9 ka kb ∧ Z4 q7 q8 q9 ra) ∧ B4 ((N4 j8 j9
 ka kb % 2 : Nat) : Int) u0 u1 u2 fun kc kd ke kf => B4 u3 0 0 0 fun kg rb rc rd => B1 0 fun re => (W4 kd ke kf kg ∧ Z4 rb rc rd re) ∧ B1 ((N4 kd ke kf kg % 2 : Nat) : Int) fun kh => ((kc != kh) = true → L4 (rtN (N4 C D E F)) fun gh gi gj
 gk => B4 0 0 0 0 fun rf rg rh ri => (((W4 0 0 0 0 ∧ W4 gh gi gj gk) ∧ 0 < qI ∧ V4 gh gi gj gk < qI) ∧ Z4 0 0 0 0 ∧ Z4 rf rg rh ri) ∧ L4 ((0 + (qN - N4 gh gi gj gk)) % qN) fun rj rk rl rm => B4 0 0 0 0 fun rn ro rp rq => B4 f5 f6 f7 f8 fun
 rr rs rt ru => B4 f9 ga gb gc fun rv rw rx ry => B4 rj rk rl rm fun rz r0 r1 r2 => B4 rn ro rp rq fun r3 r4 r5 r6 => P (.agg [U rr, U rs, U rt, U ru, U rv, U rw, U rx, U ry, U rz, U r0, U r1, U r2, U r3, U r4, U r5, U r6])) ∧ ((kc != kh) =
 false → B4 f5 f6 f7 f8 fun r7 r8 r9 sa => B4 f9 ga gb gc fun sb sc sd se => L4 (rtN (N4 C D E F)) fun sf sg sh si => B4 0 0 0 0 fun sj sk sl sm => P (.agg [U r7, U r8, U r9, U sa, U sb, U sc, U sd, U se, U sf, U sg, U sh, U si, U sj, U sk,
 U sl, U sm]))) ∧ (Bool.not (sqN (N4 ex ey ez e0)) = false → B4 al am an ao fun G H I J => B4 ap aq ar au fun sn so sp sq => B4 3 0 0 0 fun gl gm gn go => B4 0 0 0 0 fun sr ss st su => (((W4 G H I J ∧ W4 gl gm gn go) ∧ V4 G H I J < qI ∧ V4
 gl gm gn go < qI) ∧ Z4 sn so sp sq ∧ Z4 sr ss st su) ∧ L4 ((N4 G H I J * (N4 G H I J * N4 G H I J % qN) % qN + N4 gl gm gn go) % qN) fun K L M N => B4 0 0 0 0 fun sv sw sx sy => ((W4 K L M N ∧ Z4 sv sw sx sy) ∧ sqN (N4 K L M N) = true) ∧
 L4 (rtN (N4 K L M N)) fun ki kj kk kl => B4 0 0 0 0 fun sz s0 s1 s2 => (W4 ki kj kk kl ∧ Z4 sz s0 s1 s2) ∧ B4 ((N4 ki kj kk kl % 2 : Nat) : Int) u0 u1 u2 fun km kn ko kp => B4 u3 0 0 0 fun kq s3 s4 s5 => B1 0 fun s6 => (W4 kn ko kp kq ∧ Z4
 s3 s4 s5 s6) ∧ B1 ((N4 kn ko kp kq % 2 : Nat) : Int) fun kr => ((km != kr) = true → L4 (rtN (N4 K L M N)) fun gp gq gr gs => B4 0 0 0 0 fun s7 s8 s9 ta => (((W4 0 0 0 0 ∧ W4 gp gq gr gs) ∧ 0 < qI ∧ V4 gp gq gr gs < qI) ∧ Z4 0 0 0 0 ∧ Z4 s7
 s8 s9 ta) ∧ L4 ((0 + (qN - N4 gp gq gr gs)) % qN) fun tb tc td te => B4 0 0 0 0 fun tf tg th ti => B4 al am an ao fun tj tk tl tm => B4 ap aq ar au fun tn to tp tq => B4 tb tc td te fun tr ts tt tu => B4 tf tg th ti fun tv tw tx ty => P
 (.agg [U tj, U tk, U tl, U tm, U tn, U to, U tp, U tq, U tr, U ts, U tt, U tu, U tv, U tw, U tx, U ty])) ∧ ((km != kr) = false → B4 al am an ao fun tz t0 t1 t2 => B4 ap aq ar au fun t3 t4 t5 t6 => L4 (rtN (N4 K L M N)) fun t7 t8 t9 ua =>
 B4 0 0 0 0 fun ub uc ud ue => P (.agg [U tz, U t0, U t1, U t2, U t3, U t4, U t5, U t6, U t7, U t8, U t9, U ua, U ub, U uc, U ud, U ue])))) ∧ (Bool.not (sqN (N4 eh ei ej ek)) = false → B4 i j k l fun O Q R S => B4 m n o p fun uf ug uh ui =>
 B4 3 0 0 0 fun gt gu gv gw => B4 0 0 0 0 fun uj uk ul um => (((W4 O Q R S ∧ W4 gt gu gv gw) ∧ V4 O Q R S < qI ∧ V4 gt gu gv gw < qI) ∧ Z4 uf ug uh ui ∧ Z4 uj uk ul um) ∧ L4 ((N4 O Q R S * (N4 O Q R S * N4 O Q R S % qN) % qN + N4 gt gu gv
 gw) % qN) fun gx gy gz g0 => B4 0 0 0 0 fun un uo up uq => (W4 gx gy gz g0 ∧ Z4 un uo up uq) ∧ (Bool.not (sqN (N4 gx gy gz g0)) = true → B4 a b c d fun g1 g2 g3 g4 => B4 e f g h fun ur us ut uu => B4 a b c d fun g5 g6 g7 g8 => B4 e f g h
 fun uv uw ux uy => (((W4 g1 g2 g3 g4 ∧ W4 g5 g6 g7 g8) ∧ V4 g1 g2 g3 g4 < qI ∧ V4 g5 g6 g7 g8 < qI) ∧ Z4 ur us ut uu ∧ Z4 uv uw ux uy) ∧ L4 (N4 g1 g2 g3 g4 * N4 g5 g6 g7 g8 % qN) fun g9 ha hb hc => B4 0 0 0 0 fun uz u4 u5 u6 => B4 c8 c9 da
 db fun hd he hf hg => B4 dc dd de df fun u7 u8 u9 va => (((W4 g9 ha hb hc ∧ W4 hd he hf hg) ∧ V4 g9 ha hb hc < qI ∧ V4 hd he hf hg < qI) ∧ Z4 uz u4 u5 u6 ∧ Z4 u7 u8 u9 va) ∧ L4 (N4 g9 ha hb hc * N4 hd he hf hg % qN) fun ks kt ku kv => B4 0
 0 0 0 fun kw kx ky kz => B4 ks kt ku kv fun hh hi hj hk => B4 kw kx ky kz fun vb vc vd ve => B4 ks kt ku kv fun hl hm hn ho => B4 kw kx ky kz fun vf vg vh vi => (((W4 hh hi hj hk ∧ W4 hl hm hn ho) ∧ V4 hh hi hj hk < qI ∧ V4 hl hm hn ho <
 qI) ∧ Z4 vb vc vd ve ∧ Z4 vf vg vh vi) ∧ L4 (N4 hh hi hj hk * N4 hl hm hn ho % qN) fun hp hq hr hs => B4 0 0 0 0 fun vj vk vl vm => B4 iw ix iy iz fun ht hu hv hw => B4 i0 i1 i2 i3 fun vn vo vp vq => (((W4 hp hq hr hs ∧ W4 ht hu hv hw) ∧
 V4 hp hq hr hs < qI ∧ V4 ht hu hv hw < qI) ∧ Z4 vj vk vl vm ∧ Z4 vn vo vp vq) ∧ L4 (N4 hp hq hr hs * N4 ht hu hv hw % qN) fun hx hy hz h0 => B4 0 0 0 0 fun vr vs vt vu => B4 x8 x9 x10 x11 fun h1 h2 h3 h4 => B4 x12 x13 x14 x15 fun vv vw vx
 vy => (((W4 hx hy hz h0 ∧ W4 h1 h2 h3 h4) ∧ V4 hx hy hz h0 < qI ∧ V4 h1 h2 h3 h4 < qI) ∧ Z4 vr vs vt vu ∧ Z4 vv vw vx vy) ∧ L4 ((N4 hx hy hz h0 + N4 h1 h2 h3 h4) % qN) fun h5 h6 h7 h8 => B4 0 0 0 0 fun h9 ia ib ic => B4 h5 h6 h7 h8 fun T V
 X Y => B4 h9 ia ib ic fun vz v0 v1 v2 => B4 3 0 0 0 fun id ie ig ih => B4 0 0 0 0 fun v3 v4 v5 v6 => (((W4 T V X Y ∧ W4 id ie ig ih) ∧ V4 T V X Y < qI ∧ V4 id ie ig ih < qI) ∧ Z4 vz v0 v1 v2 ∧ Z4 v3 v4 v5 v6) ∧ L4 ((N4 T V X Y * (N4 T V X
 Y * N4 T V X Y % qN) % qN + N4 id ie ig ih) % qN) fun Z aa ab ac => B4 0 0 0 0 fun v7 v8 v9 wa => ((W4 Z aa ab ac ∧ Z4 v7 v8 v9 wa) ∧ sqN (N4 Z aa ab ac) = true) ∧ L4 (rtN (N4 Z aa ab ac)) fun k0 k1 k2 k3 => B4 0 0 0 0 fun wb wc wd we =>
 (W4 k0 k1 k2 k3 ∧ Z4 wb wc wd we) ∧ B4 ((N4 k0 k1 k2 k3 % 2 : Nat) : Int) u0 u1 u2 fun k4 k5 k6 k7 => B4 u3 0 0 0 fun k8 wf wg wh => B1 0 fun wi => (W4 k5 k6 k7 k8 ∧ Z4 wf wg wh wi) ∧ B1 ((N4 k5 k6 k7 k8 % 2 : Nat) : Int) fun k9 => ((k4 !=
 k9) = true → L4 (rtN (N4 Z aa ab ac)) fun ii ij ik il => B4 0 0 0 0 fun wj wk wl wm => (((W4 0 0 0 0 ∧ W4 ii ij ik il) ∧ 0 < qI ∧ V4 ii ij ik il < qI) ∧ Z4 0 0 0 0 ∧ Z4 wj wk wl wm) ∧ L4 ((0 + (qN - N4 ii ij ik il)) % qN) fun wn wo wp wq
 => B4 0 0 0 0 fun wr ws wt wu => B4 h5 h6 h7 h8 fun wv ww wx wy => B4 h9 ia ib ic fun wz w0 w1 w2 => B4 wn wo wp wq fun w3 w4 w5 w6 => B4 wr ws wt wu fun w7 w8 w9 xa => P (.agg [U wv, U ww, U wx, U wy, U wz, U w0, U w1, U w2, U w3, U w4, U
 w5, U w6, U w7, U w8, U w9, U xa])) ∧ ((k4 != k9) = false → B4 h5 h6 h7 h8 fun xb xc xd xe => B4 h9 ia ib ic fun xf xg xh xi => L4 (rtN (N4 Z aa ab ac)) fun xj xk xl xm => B4 0 0 0 0 fun xn xo xp xq => P (.agg [U xb, U xc, U xd, U xe, U
 xf, U xg, U xh, U xi, U xj, U xk, U xl, U xm, U xn, U xo, U xp, U xq]))) ∧ (Bool.not (sqN (N4 gx gy gz g0)) = false → B4 i j k l fun ad ae af ag => B4 m n o p fun xr xs xt xu => B4 3 0 0 0 fun im io ip iq => B4 0 0 0 0 fun xv xw xx xy =>
 (((W4 ad ae af ag ∧ W4 im io ip iq) ∧ V4 ad ae af ag < qI ∧ V4 im io ip iq < qI) ∧ Z4 xr xs xt xu ∧ Z4 xv xw xx xy) ∧ L4 ((N4 ad ae af ag * (N4 ad ae af ag * N4 ad ae af ag % qN) % qN + N4 im io ip iq) % qN) fun ah ai aj ak => B4 0 0 0 0
 fun xz x0 x1 x2 => ((W4 ah ai aj ak ∧ Z4 xz x0 x1 x2) ∧ sqN (N4 ah ai aj ak) = true) ∧ L4 (rtN (N4 ah ai aj ak)) fun la lb lc ld => B4 0 0 0 0 fun x3 x4 x5 x6 => (W4 la lb lc ld ∧ Z4 x3 x4 x5 x6) ∧ B4 ((N4 la lb lc ld % 2 : Nat) : Int) u0
 u1 u2 fun le lf lg lh => B4 u3 0 0 0 fun li x7 ya yb => B1 0 fun yc => (W4 lf lg lh li ∧ Z4 x7 ya yb yc) ∧ B1 ((N4 lf lg lh li % 2 : Nat) : Int) fun lj => ((le != lj) = true → L4 (rtN (N4 ah ai aj ak)) fun ir it iu iv => B4 0 0 0 0 fun yd
 ye yf yg => (((W4 0 0 0 0 ∧ W4 ir it iu iv) ∧ 0 < qI ∧ V4 ir it iu iv < qI) ∧ Z4 0 0 0 0 ∧ Z4 yd ye yf yg) ∧ L4 ((0 + (qN - N4 ir it iu iv)) % qN) fun yh yi yj yk => B4 0 0 0 0 fun yl ym yn yo => B4 i j k l fun yp yq yr ys => B4 m n o p
 fun yt yu yv yw => B4 yh yi yj yk fun yx yy yz za => B4 yl ym yn yo fun zb zc zd ze => P (.agg [U yp, U yq, U yr, U ys, U yt, U yu, U yv, U yw, U yx, U yy, U yz, U za, U zb, U zc, U zd, U ze])) ∧ ((le != lj) = false → B4 i j k l fun zf zg
 zh zi => B4 m n o p fun zj zk zl zm => L4 (rtN (N4 ah ai aj ak)) fun zn zo zp zq => B4 0 0 0 0 fun zr zs zt zu => P (.agg [U zf, U zg, U zh, U zi, U zj, U zk, U zl, U zm, U zn, U zo, U zp, U zq, U zr, U zs, U zt, U zu]))))
theorem vc_mp (u0 u1 u2 u3 : Int) (P : SV → Prop) : (execF cxMp u9 Tryz.f13 64 [agF u0 u1 u2 u3, agF 3 0 0 0, .bool (.lit true)] (memL []) fun v _ => P v) = (B4 3 0 0 0 fun x0 x1 x2 x3 => B4 0 0 0 0 fun x4 x5 x6 x7 => ((x0 = 3 ∧ x1 = 0 ∧ x2
 = 0 ∧ x3 = 0) ∧ Z4 x4 x5 x6 x7) ∧ B4 1 0 0 0 fun e f g h => B4 0 0 0 0 fun i j k l => B4 e f g h fun m n o p => B4 i j k l fun a9 ba bb bc => B4 3 0 0 0 fun q r s t => B4 0 0 0 0 fun bd be bf bg => (((W4 m n o p ∧ W4 q r s t) ∧ V4 m n o p
 < qI ∧ V4 q r s t < qI) ∧ Z4 a9 ba bb bc ∧ Z4 bd be bf bg) ∧ L4 ((N4 m n o p * (N4 m n o p * N4 m n o p % qN) % qN + N4 q r s t) % qN) fun u w x y => B4 0 0 0 0 fun z A B C => ((0 : Int) ≤ 3 ∧ (3 : Int) < 18446744073709551616) ∧ B4 3 0 0 0
 fun D E F G => B4 0 0 0 0 fun bh bi bj bk => B4 e f g h fun H I J K => B4 i j k l fun bl bm bn bo => B4 e f g h fun L M N O => B4 i j k l fun bp bq br bs => (((W4 H I J K ∧ W4 L M N O) ∧ V4 H I J K < qI ∧ V4 L M N O < qI) ∧ Z4 bl bm bn bo
 ∧ Z4 bp bq br bs) ∧ L4 (N4 H I J K * N4 L M N O % qN) fun Q R S T => B4 0 0 0 0 fun bt bu bv bw => (((W4 D E F G ∧ W4 Q R S T) ∧ V4 D E F G < qI ∧ V4 Q R S T < qI) ∧ Z4 bh bi bj bk ∧ Z4 bt bu bv bw) ∧ L4 (N4 D E F G * N4 Q R S T % qN) fun
 V X Y Z => B4 0 0 0 0 fun aa ab ac ad => B4 u w x y fun ae af ag ah => B4 z A B C fun bx bz b0 b1 => B4 V X Y Z fun ai aj ak al => B4 aa ab ac ad fun b2 b3 b4 b5 => (((W4 ae af ag ah ∧ W4 ai aj ak al) ∧ V4 ae af ag ah < qI ∧ V4 ai aj ak al
 < qI) ∧ Z4 bx bz b0 b1 ∧ Z4 b2 b3 b4 b5) ∧ L4 (N4 ae af ag ah * N4 ai aj ak al % qN) fun am an ao ap => B4 0 0 0 0 fun b6 b7 b8 b9 => (((W4 0 0 0 0 ∧ W4 am an ao ap) ∧ 0 < qI ∧ V4 am an ao ap < qI) ∧ Z4 0 0 0 0 ∧ Z4 b6 b7 b8 b9) ∧ L4 ((0 +
 (qN - N4 am an ao ap)) % qN) fun a b c d => B4 0 0 0 0 fun ca cb cc cd => ((W4 a b c d ∧ Z4 ca cb cc cd) ∧ sqN (N4 a b c d) = true) ∧ L4 (rtN (N4 a b c d)) fun aw ax ay az => B4 0 0 0 0 fun ce cf cg ch => (W4 aw ax ay az ∧ Z4 ce cf cg ch)
 ∧ B1 ((N4 aw ax ay az % 2 : Nat) : Int) fun a0 => ((a0 == 1) = true → L4 (rtN (N4 a b c d)) fun aq ar au av => B4 0 0 0 0 fun ci cj ck cl => (((W4 0 0 0 0 ∧ W4 aq ar au av) ∧ 0 < qI ∧ V4 aq ar au av < qI) ∧ Z4 0 0 0 0 ∧ Z4 ci cj ck cl) ∧
 L4 ((0 + (qN - N4 aq ar au av)) % qN) fun cm cn co cp => B4 0 0 0 0 fun cq cr cs ct => MpR P u w x y z A B C V X Y Z aa ab ac ad e f g h i j k l u0 u1 u2 u3 cm cn co cp cq cr cs ct) ∧ ((a0 == 1) = false → MpR P u w x y z A B C V X Y Z aa
 ab ac ad e f g h i j k l u0 u1 u2 u3 (lm (rtN (N4 a b c d)) 0) (lm (rtN (N4 a b c d)) 1) (lm (rtN (N4 a b c d)) 2) (lm (rtN (N4 a b c d)) 3) 0 0 0 0)) := by kernel_rfl
def mxN (A : Nat) : Nat := if sqN (gN (x1N A)) = true then x1N A else if sqN (gN (x2N A)) = true then x2N A else x3N A
def myN (A : Nat) : Nat := if rtN (gN (mxN A)) % 2 = A % 2 then rtN (gN (mxN A)) else (0 + (qN - rtN (gN (mxN A)))) % qN
def agM (x y : Nat) : SV := .agg [U (lm x 0), U (lm x 1), U (lm x 2), U (lm x 3), U 0, U 0, U 0, U 0, U (lm y 0), U (lm y 1), U (lm y 2), U (lm y 3), U 0, U 0, U 0, U 0]
theorem mp_walk {A : Nat} {a0 a1 a2 a3 : Int} {P : SV → Prop} (ha : Ws a0 a1 a2 a3 A) (la : A < qN) (hK : P (agM (mxN A) (myN A))) :
  execF cxMp u9 Tryz.f13 64 [agF a0 a1 a2 a3, agF 3 0 0 0, .bool (.lit true)] (memL []) fun v _ => P v := by
 rw [vc_mp]
 have wa : W4 a0 a1 a2 a3 = True := eq_true ha.wd
 have na : N4 a0 a1 a2 a3 = A := Vx ha
 have va : (V4 a0 a1 a2 a3 < qI) = True := eq_true (by rw [ha.val, qI_eq]; omega)
 simp only [MpR, wa, na, va, ↓L4_eq, ↓B4_eq, ↓B1_eq, Z4_0, N4q, N4i, N4r, N4_1, N4_2, N4_3, N4_4, W4l, W4_0, W4_1, W4_2, W4_3, W4_4, Vq_lt, Vi_lt, Vr_lt, V1_lt, V2_lt, V3_lt, V4_lt', z_lt, true_and, and_self]
 have r1 : ((0 : Int) ≤ 1 ∧ (1 : Int) < 18446744073709551616) = True := by decide
 have r2 : ((0 : Int) ≤ 2 ∧ (2 : Int) < 18446744073709551616) = True := by decide
 have r3 : ((0 : Int) ≤ 3 ∧ (3 : Int) < 18446744073709551616) = True := by decide
 have r4 : ((0 : Int) ≤ 4 ∧ (4 : Int) < 18446744073709551616) = True := by decide
 have e1 : (1 * (1 * 1 % qN) % qN + 3) % qN = 4 := by decide
 have e2 : 3 * (1 * 1 % qN) % qN = 3 := by decide
 have e3 : (0 + (qN - 4 * 3 % qN)) % qN = 21888242871839275222246405745257275088696311157297823662689037894645226208571 := by decide
 have e4 : rtN 21888242871839275222246405745257275088696311157297823662689037894645226208571 = c3N := by decide +kernel
 have e5 : sqN 21888242871839275222246405745257275088696311157297823662689037894645226208571 = true := by decide +kernel
 have e6 : (((((c3N % 2 : Nat)) : Int) == 1) = true) = False := by decide +kernel
 have e7 : (((((c3N % 2 : Nat)) : Int) == 1) = false) = True := by decide +kernel
 have e8 : (0 + (qN - 4 * 4 % qN * inv0 3 % qN)) % qN = c4N := by decide +kernel
 have e9 : (0 + (qN - 1)) % qN * inv0 2 % qN = c2N := by decide +kernel
 have t1 : A * A % qN * 4 % qN = tN A := rfl
 have t2 : (1 + tN A) % qN = moN A := rfl
 have t3 : (1 + (qN - tN A)) % qN = leN A := rfl
 have t4 : inv0 (leN A * moN A % qN) = ivN A := rfl
 have t5 : A * leN A % qN * ivN A % qN * c3N % qN = stN A := rfl
 have t6 : (c2N + (qN - stN A)) % qN = x1N A := rfl
 have t7 : (c2N + stN A) % qN = x2N A := rfl
 have t8 : moN A * moN A % qN * ivN A % qN = vvN A := rfl
 have t9 : (vvN A * vvN A % qN * c4N % qN + 1) % qN = x3N A := rfl
 have g1 : ∀ x, (x * (x * x % qN) % qN + 3) % qN = gN x := fun _ => rfl
 simp only [r1, r2, r3, r4, e1, e2, e3, e4, e5, e6, e7, e8, e9, t1, t2, t3, t4, t5, t6, t7, t8, t9, g1, true_and, false_imp_iff, true_implies]
 have fin : ∀ x, mxN A = x → ((((rtN (gN x) % 2 : Nat) : Int) != ((A % 2 : Nat) : Int)) = true → P (agM x ((0 + (qN - rtN (gN x))) % qN))) ∧ ((((rtN (gN x) % 2 : Nat) : Int) != ((A % 2 : Nat) : Int)) = false → P (agM x (rtN (gN x)))) := by
  intro x hx
  unfold myN at hK
  rw [hx] at hK
  constructor
  ·intro h
   have h : ¬ rtN (gN x) % 2 = A % 2 := fun e => by rw [e] at h; simp at h
   rw [if_neg h] at hK
   exact hK
  ·intro h
   have h : rtN (gN x) % 2 = A % 2 := by simp at h; omega
   rw [if_pos h] at hK
   exact hK
 have sv := svdw A
 cases h1 : sqN (gN (x1N A)) <;> cases h2 : sqN (gN (x2N A)) <;> simp only [Bool.not_true, Bool.not_false, true_implies, false_imp_iff, and_true, true_and, reduceCtorEq]
 ·have h3 : sqN (gN (x3N A)) = true := by
   rw [h1, h2] at sv
   simpa using sv
  have fx := fin (x3N A) (by unfold mxN; rw [if_neg (by rw [h1]; decide), if_neg (by rw [h2]; decide)])
  exact ⟨h3, fun h => fx.1 h, fun h => fx.2 h⟩
 ·have fx := fin (x2N A) (by unfold mxN; rw [if_neg (by rw [h1]; decide), if_pos h2])
  exact ⟨fun h => fx.1 h, fun h => fx.2 h⟩
 ·have fx := fin (x1N A) (by unfold mxN; rw [if_pos h1])
  exact ⟨fun h => fx.1 h, fun h => fx.2 h⟩
 ·have fx := fin (x1N A) (by unfold mxN; rw [if_pos h1])
  exact ⟨fun h => fx.1 h, fun h => fx.2 h⟩
def rMp : R0 := fun args l =>
 match args, l with
 | [.agg [.int .u64 (.sym a0), .int .u64 (.sym a1), .int .u64 (.sym a2), .int .u64 (.sym a3), .int .u64 (.sym a4), .int .u64 (.sym a5), .int .u64 (.sym a6), .int .u64 (.sym a7)], .agg [.int .u64 (.sym b0), .int .u64 (.sym b1), .int .u64 (.sym b2), .int .u64 (.sym b3), .int .u64 (.sym b4), .int .u64 (.sym b5), .int .u64 (.sym b6), .int .u64 (.sym b7)], .bool (.lit true)], [] => some (some ((((Wd a0 ∧ Wd a1 ∧ Wd a2 ∧ Wd a3) ∧ V4 a0 a1 a2 a3 < 21888242871839275222246405745257275088696311157297823662689037894645226208583) ∧ (a4 = 0 ∧ a5 = 0 ∧ a6 = 0 ∧ a7 = 0)) ∧ (b0 = 3 ∧ b1 = 0 ∧ b2 = 0 ∧ b3 = 0) ∧ (b4 = 0 ∧ b5 = 0 ∧ b6 = 0 ∧ b7 = 0)), agM (mxN (V4 a0 a1 a2 a3).toNat) (myN (V4 a0 a1 a2 a3).toNat))
 | _, _ => none
theorem Mp_ok (args : List SV) (l : List (Nat × Reg)) (p : Ob) (v : SV) (h : rMp args l = some (p, v)) (hp : p.ok) : ∃ U, execF cxMp U Tryz.f13 64 args (memL l) fun v' _ => v' = v := by
 unfold rMp at h
 split at h
 ·rename_i a0 a1 a2 a3 a4 a5 a6 a7 b0 b1 b2 b3 b4 b5 b6 b7
  simp only [Option.some.injEq, Prod.mk.injEq] at h
  obtain ⟨rfl, rfl⟩ := h
  have hp : (((Wd a0 ∧ Wd a1 ∧ Wd a2 ∧ Wd a3) ∧ V4 a0 a1 a2 a3 < 21888242871839275222246405745257275088696311157297823662689037894645226208583) ∧ (a4 = 0 ∧ a5 = 0 ∧ a6 = 0 ∧ a7 = 0)) ∧ (b0 = 3 ∧ b1 = 0 ∧ b2 = 0 ∧ b3 = 0) ∧ (b4 = 0 ∧ b5 = 0 ∧ b6 = 0 ∧ b7 = 0) := hp
  obtain ⟨⟨⟨wa, la⟩, z0, z1, z2, z3⟩, ⟨y0, y1, y2, y3⟩, z4, z5, z6, z7⟩ := hp
  subst z0 z1 z2 z3 z4 z5 z6 z7 y0 y1 y2 y3
  have A := ws_of wa.1 wa.2.1 wa.2.2.1 wa.2.2.2
  have ea := Ws.val A
  exact ⟨_, mp_walk A (by unfold qN; omega) rfl⟩
 ·cases h
def cMp : Rd Tryz.prog := mkR mixed 13 Tryz.func13 (by decide) (by kernel_rfl) [] [.num, .num, .val] rMp Mp_ok
def cxMapa : Cx Tryz.prog := { rds := [cOne, cMp], efs := [], eqs := [] }
theorem vc_mapa (u0 u1 u2 u3 : Int) (K : SV → Mem → Prop) : (execF cxMapa u9 Tryz.f6 64 [ag4 u0 u1 u2 u3] (memL []) K) = (B4 u0 u1 u2 u3 fun a b c d => ((0 : Int) ≤ 3 ∧ (3 : Int) < 18446744073709551616) ∧ B4 3 0 0 0 fun u v w x => B4 0 0 0
 0 fun y z A B => (((W4 a b c d ∧ V4 a b c d < qI) ∧ Z4 0 0 0 0) ∧ (u = 3 ∧ v = 0 ∧ w = 0 ∧ x = 0) ∧ Z4 y z A B) ∧ L4 (mxN (N4 a b c d)) fun e f g h => B4 0 0 0 0 fun C D E F => L4 (myN (N4 a b c d)) fun i j k l => B4 0 0 0 0 fun G H I J =>
 B4 e f g h fun m n o p => B4 i j k l fun q r s t => K (.agg [U m, U n, U o, U p, U q, U r, U s, U t]) (memL [(513, ⟨false, .cells [U u0, U u1, U u2, U u3]⟩), (521, ⟨false, .cells [U m, U n, U o, U p, U q, U r, U s, U t]⟩), (561, ⟨false,
 .cells [U e, U f, U g, U h, U C, U D, U E, U F, U i, U j, U k, U l, U G, U H, U I, U J]⟩)])) := by kernel_rfl
theorem mxN_lt (A : Nat) : mxN A < qN := by
 unfold mxN
 split
 ·exact Nat.mod_lt _ (by decide)
 ·split
  ·exact Nat.mod_lt _ (by decide)
  ·exact Nat.mod_lt _ (by decide)
theorem myN_lt (A : Nat) : myN A < qN := by
 unfold myN
 split
 ·exact rtN_lt _
 ·exact Nat.mod_lt _ (by decide)
theorem m1_walk {A : Nat} {a0 a1 a2 a3 : Int} {K : SV → Mem → Prop} (ha : Ws a0 a1 a2 a3 A) (la : A < qN) (hK : ∀ m, K (.agg [U (lm (mxN A) 0), U (lm (mxN A) 1), U (lm (mxN A) 2), U (lm (mxN A) 3), U (lm (myN A) 0), U (lm (myN A) 1), U (lm (myN A) 2), U (lm (myN A) 3)]) m) :
  execF cxMapa u9 Tryz.f6 64 [ag4 a0 a1 a2 a3] (memL []) K := by
 rw [vc_mapa]
 have wa : W4 a0 a1 a2 a3 = True := eq_true ha.wd
 have na : N4 a0 a1 a2 a3 = A := Vx ha
 have va : (V4 a0 a1 a2 a3 < qI) = True := eq_true (by rw [ha.val, qI_eq]; omega)
 have r3 : ((0 : Int) ≤ 3 ∧ (3 : Int) < 18446744073709551616) = True := by decide
 simp only [wa, na, va, r3, ↓L4_eq, ↓B4_eq, Z4_0, true_and, and_self]
 exact hK _
def rMapa : R0 := fun args l =>
 match args, l with
 | [.agg [.int .u64 (.sym a0), .int .u64 (.sym a1), .int .u64 (.sym a2), .int .u64 (.sym a3)]], [] => some (some ((Wd a0 ∧ Wd a1 ∧ Wd a2 ∧ Wd a3) ∧ V4 a0 a1 a2 a3 < 21888242871839275222246405745257275088696311157297823662689037894645226208583), .agg [U (lm (mxN (V4 a0 a1 a2 a3).toNat) 0), U (lm (mxN (V4 a0 a1 a2 a3).toNat) 1), U (lm (mxN (V4 a0 a1 a2 a3).toNat) 2), U (lm (mxN (V4 a0 a1 a2 a3).toNat) 3), U (lm (myN (V4 a0 a1 a2 a3).toNat) 0), U (lm (myN (V4 a0 a1 a2 a3).toNat) 1), U (lm (myN (V4 a0 a1 a2 a3).toNat) 2), U (lm (myN (V4 a0 a1 a2 a3).toNat) 3)])
 | _, _ => none
theorem Mapa_ok (args : List SV) (l : List (Nat × Reg)) (p : Ob) (v : SV) (h : rMapa args l = some (p, v)) (hp : p.ok) : ∃ U, execF cxMapa U Tryz.f6 64 args (memL l) fun v' _ => v' = v := by
 unfold rMapa at h
 split at h
 ·rename_i a0 a1 a2 a3
  simp only [Option.some.injEq, Prod.mk.injEq] at h
  obtain ⟨rfl, rfl⟩ := h
  have hp : (Wd a0 ∧ Wd a1 ∧ Wd a2 ∧ Wd a3) ∧ V4 a0 a1 a2 a3 < 21888242871839275222246405745257275088696311157297823662689037894645226208583 := hp
  have A := ws_of hp.1.1 hp.1.2.1 hp.1.2.2.1 hp.1.2.2.2
  have ea := Ws.val A
  have la := hp.2
  exact ⟨_, m1_walk A (by unfold qN; omega) fun _ => rfl⟩
 ·cases h
def cMapa : Rd Tryz.prog := mkR mixed 6 Tryz.func6 (by decide) (by kernel_rfl) [] [.num] rMapa Mapa_ok
end Go.Sx
