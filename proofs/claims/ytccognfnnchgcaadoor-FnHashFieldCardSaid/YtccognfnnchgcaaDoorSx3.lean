/- Part 3 of the proof: for every message, domain and count the law FnHashField returns true (a verified symbolic evaluator, contracts of each function reached, the law, its row and card). Conditions: those of the given statement, none besides. -/
import Derived.Test.YtccognfnnchgcaaDoorSx2
/- Lists and words, in plain Lean. -/
namespace Go.Sx
open Go

theorem getD_set_self {w : List Int} {i : Nat} {v : Int} (h : i < w.length) : (w.set i v).getD i 0 = v := by
  simp [List.getD_eq_getElem?_getD, h]
theorem getD_set_ne {w : List Int} {i j : Nat} {v : Int} (h : i ≠ j) : (w.set i v).getD j 0 = w.getD j 0 := by
  simp [List.getD_eq_getElem?_getD, List.getElem?_set_ne h]
theorem at0_blk {xs : List Int} {k j : Nat} (h : j < 64) : at0 (blk xs k) j = xs.getD (64 * k + j) 0 := by
  unfold at0 blk
  simp only [List.getD_eq_getElem?_getD, List.getElem?_take, List.getElem?_drop, if_pos h]
theorem bytes_blk {xs : List Int} (h : Bytes xs) (k : Nat) : Bytes (blk xs k) := fun x hx => h x (List.mem_of_mem_drop (List.mem_of_mem_take hx))

theorem shlv_byte {x : Int} {n : Nat} (h1 : 0 ≤ x) (h2 : x < 256) (hn : n ≤ 24) : shlv .u32 x n = x * 2 ^ n := by
  unfold shlv
  have : min n IntKind.u32.bits = n := by simp [IntKind.bits]; omega
  rw [this]
  show w32 _ = _
  rw [w32_eq]
  have h3 : (2 : Int) ^ n ≤ 2 ^ 24 := by
    exact_mod_cast Nat.pow_le_pow_right (by omega : 0 < 2) hn
  have h4 : 0 ≤ x * 2 ^ n := Int.mul_nonneg h1 (Int.le_of_lt (by exact_mod_cast Nat.two_pow_pos n))
  have h5 : x * 2 ^ n ≤ 255 * 2 ^ 24 := by
    refine Int.le_trans (Int.mul_le_mul_of_nonneg_right (show x ≤ 255 by omega) (Int.le_of_lt (by exact_mod_cast Nat.two_pow_pos n))) ?_
    exact Int.mul_le_mul_of_nonneg_left h3 (by omega)
  rw [Int.emod_eq_of_lt h4 (by omega)]

theorem bor_nat {a b : Nat} (ha : a < 4294967296) (hb : b < 4294967296) : bor .u32 (a : Int) (b : Int) = ((a ||| b : Nat) : Int) := by
  unfold bor
  show w32 _ = _
  have : (BitVec.ofInt IntKind.u32.bits (a : Int) ||| BitVec.ofInt IntKind.u32.bits (b : Int)).toNat = a ||| b := by
    rw [BitVec.toNat_or]
    simp only [IntKind.bits, BitVec.toNat_ofInt]
    have e : ∀ n : Nat, n < 4294967296 → ((n : Int) % ((2 ^ 32 : Nat) : Int)).toNat = n := by intro n hn; omega
    rw [e a ha, e b hb]
  rw [this, w32_eq]
  have : a ||| b < 2 ^ 32 := Nat.or_lt_two_pow (by omega) (by omega)
  omega

theorem or_add {a b : Nat} (i : Nat) (hb : b < 2 ^ i) : (2 ^ i * a) ||| b = 2 ^ i * a + b := (Nat.two_pow_add_eq_or_of_lt hb a).symm

theorem be_or {a b c d : Int} (ha : 0 ≤ a ∧ a < 256) (hb : 0 ≤ b ∧ b < 256) (hc : 0 ≤ c ∧ c < 256) (hd : 0 ≤ d ∧ d < 256) :
    bor .u32 (bor .u32 (bor .u32 (shlv .u32 a 24) (shlv .u32 b 16)) (shlv .u32 c 8)) d = a * 16777216 + b * 65536 + c * 256 + d := by
  rw [shlv_byte ha.1 ha.2 (by omega), shlv_byte hb.1 hb.2 (by omega), shlv_byte hc.1 hc.2 (by omega)]
  obtain ⟨a, rfl⟩ := Int.eq_ofNat_of_zero_le ha.1
  obtain ⟨b, rfl⟩ := Int.eq_ofNat_of_zero_le hb.1
  obtain ⟨c, rfl⟩ := Int.eq_ofNat_of_zero_le hc.1
  obtain ⟨d, rfl⟩ := Int.eq_ofNat_of_zero_le hd.1
  have e1 : (a : Int) * 2 ^ 24 = ((2 ^ 24 * a : Nat) : Int) := by omega
  have e2 : (b : Int) * 2 ^ 16 = ((2 ^ 16 * b : Nat) : Int) := by omega
  have e3 : (c : Int) * 2 ^ 8 = ((2 ^ 8 * c : Nat) : Int) := by omega
  rw [e1, e2, e3, bor_nat (by omega) (by omega)]
  rw [or_add 24 (by omega)]
  rw [bor_nat (by omega) (by omega)]
  rw [show 2 ^ 24 * a + 2 ^ 16 * b = 2 ^ 16 * (2 ^ 8 * a + b) by omega, or_add 16 (by omega)]
  rw [bor_nat (by omega) (by omega)]
  rw [show 2 ^ 16 * (2 ^ 8 * a + b) + 2 ^ 8 * c = 2 ^ 8 * (2 ^ 16 * a + 2 ^ 8 * b + c) by omega, or_add 8 (by omega)]
  omega
theorem be_add {a b c d : Int} (ha : 0 ≤ a ∧ a < 256) (hb : 0 ≤ b ∧ b < 256) (hc : 0 ≤ c ∧ c < 256) (hd : 0 ≤ d ∧ d < 256) :
    w32 (w32 (w32 (shlv .u32 a 24 + shlv .u32 b 16) + shlv .u32 c 8) + d) = a * 16777216 + b * 65536 + c * 256 + d := by
  rw [shlv_byte ha.1 ha.2 (by omega), shlv_byte hb.1 hb.2 (by omega), shlv_byte hc.1 hc.2 (by omega)]
  simp only [w32_eq]
  omega
theorem w32_byte {a : Int} (ha : 0 ≤ a ∧ a < 256) : w32 a = a := by rw [w32_eq]; omega
theorem w32_sum1 (a b c d : Int) : w32 (w32 (w32 (a + b) + c) + d) = w32 (d + b + c + a) := by simp only [w32_eq]; omega
theorem w32_sum2 (a b c d : Int) : w32 (w32 (w32 (a + b) + c) + d) = w32 (a + b + c + d) := by simp only [w32_eq]; omega
end Go.Sx

/- sha256.blockGeneric. -/
namespace Go.Sx
open Go Go.Proofs
set_option maxRecDepth 100000
theorem vc_bg (H : S8) (xs : List Int) (l c : Nat) (K : SV → Mem → Prop) : (execF cxBg (uBg H xs l c) Tryd.f50 64 [.ptr 9 (.lit 0), .slice 17 (.lit 0) (.sym l) (.sym c)] (memL [(2, ⟨true, .ints .u32 kL⟩), (9, ⟨false, s8C H⟩), (17, ⟨true, .ints .u8 xs⟩)]) K) =
  (((∃ (i00 : (Go.Sx.LI.ι (Go.Sx.liBg H xs l c))), (((((64 : Nat) * (Prod.fst i00)) ≤ l) ∧
 (((List.length (Prod.snd (Prod.snd i00))) = (64 : Nat)) ∧
 ((((64 : Nat) * (Prod.fst i00)) < l) → ((Prod.fst (Prod.snd i00)) = ((64 : Nat) * (Prod.fst i00)))))) ∧
 (((((0 : Nat) = (Prod.fst (Prod.snd i00))) ∧
 ((l = (l - ((64 : Nat) * (Prod.fst i00)))) ∧
 (c = (c - ((64 : Nat) * (Prod.fst i00)))))) ∧
 (((Go.Sx.S8.a H) = (Go.Sx.S8.a (Go.Sx.hB H xs (Prod.fst i00)))) ∧
 (((Go.Sx.S8.b H) = (Go.Sx.S8.b (Go.Sx.hB H xs (Prod.fst i00)))) ∧
 (((Go.Sx.S8.c H) = (Go.Sx.S8.c (Go.Sx.hB H xs (Prod.fst i00)))) ∧
 (((Go.Sx.S8.d H) = (Go.Sx.S8.d (Go.Sx.hB H xs (Prod.fst i00)))) ∧
 (((Go.Sx.S8.e H) = (Go.Sx.S8.e (Go.Sx.hB H xs (Prod.fst i00)))) ∧
 (((Go.Sx.S8.f H) = (Go.Sx.S8.f (Go.Sx.hB H xs (Prod.fst i00)))) ∧
 (((Go.Sx.S8.g H) = (Go.Sx.S8.g (Go.Sx.hB H xs (Prod.fst i00)))) ∧
 ((Go.Sx.S8.h H) = (Go.Sx.S8.h (Go.Sx.hB H xs (Prod.fst i00)))))))))))) ∧
 ((Go.Sx.kL = Go.Sx.kL) ∧
 ((((Go.Sx.S8.a H) = (Go.Sx.S8.a H)) ∧
 (((Go.Sx.S8.b H) = (Go.Sx.S8.b H)) ∧
 (((Go.Sx.S8.c H) = (Go.Sx.S8.c H)) ∧
 (((Go.Sx.S8.d H) = (Go.Sx.S8.d H)) ∧
 (((Go.Sx.S8.e H) = (Go.Sx.S8.e H)) ∧
 (((Go.Sx.S8.f H) = (Go.Sx.S8.f H)) ∧
 (((Go.Sx.S8.g H) = (Go.Sx.S8.g H)) ∧
 ((Go.Sx.S8.h H) = (Go.Sx.S8.h H))))))))) ∧
 ((xs = xs) ∧
 ([(0 : Int), (0 : Int), (0 : Int), (0 : Int), (0 : Int), (0 : Int), (0 : Int), (0 : Int), (0 : Int), (0 : Int), (0 : Int), (0 : Int), (0 : Int), (0 : Int), (0 : Int), (0 : Int), (0 : Int), (0 : Int), (0 : Int), (0 : Int), (0 : Int), (0 : Int), (0 : Int), (0 : Int), (0 : Int), (0 : Int), (0 : Int), (0 : Int), (0 : Int), (0 : Int), (0 : Int), (0 : Int), (0 : Int), (0 : Int), (0 : Int), (0 : Int), (0 : Int), (0 : Int), (0 : Int), (0 : Int), (0 : Int), (0 : Int), (0 : Int), (0 : Int), (0 : Int), (0 : Int), (0 : Int), (0 : Int), (0 : Int), (0 : Int), (0 : Int), (0 : Int), (0 : Int), (0 : Int), (0 : Int), (0 : Int), (0 : Int), (0 : Int), (0 : Int), (0 : Int), (0 : Int), (0 : Int), (0 : Int), (0 : Int)] = (Prod.snd (Prod.snd i00))))))))) ∧
 (∀ (i1 : (Go.Sx.LI.ι (Go.Sx.liBg H xs l c))), (((((64 : Nat) * (Prod.fst i1)) ≤ l) ∧
 (((List.length (Prod.snd (Prod.snd i1))) = (64 : Nat)) ∧
 ((((64 : Nat) * (Prod.fst i1)) < l) → ((Prod.fst (Prod.snd i1)) = ((64 : Nat) * (Prod.fst i1)))))) → (∀ (x2 : Int), ((x2 = (((l - ((64 : Nat) * (Prod.fst i1))) : Nat) : Int)) → ((((decide (x2 ≥ (64 : Int))) = Bool.true) → ((∃ (i03 : (Go.Sx.LI.ι (Go.Sx.liBgIn H xs l))), ((((Prod.fst (Prod.snd i1)) = ((64 : Nat) * (Prod.fst i03))) ∧
 (((((64 : Nat) * (Prod.fst i03)) + (64 : Nat)) ≤ l) ∧
 (((Prod.fst (Prod.snd i03)) ≤ (64 : Nat)) ∧
 (((List.length (Prod.snd (Prod.snd i03))) = (64 : Nat)) ∧
 (∀ (j4 : Nat), ((j4 < (Prod.fst (Prod.snd i03))) → ((List.getD (Prod.snd (Prod.snd i03)) j4 (0 : Int)) = (Go.Sx.W (Go.Sx.blk xs (Prod.fst i03)) j4)))))))) ∧
 (((((Prod.fst (Prod.snd i1)) = (Prod.fst (Prod.snd i1))) ∧
 (((l - ((64 : Nat) * (Prod.fst i1))) = (l - ((64 : Nat) * (Prod.fst i1)))) ∧
 ((c - ((64 : Nat) * (Prod.fst i1))) = (c - ((64 : Nat) * (Prod.fst i1)))))) ∧
 (((Go.Sx.S8.a (Go.Sx.hB H xs (Prod.fst i1))) = (Go.Sx.S8.a (Go.Sx.hB H xs (Prod.fst i1)))) ∧
 (((Go.Sx.S8.b (Go.Sx.hB H xs (Prod.fst i1))) = (Go.Sx.S8.b (Go.Sx.hB H xs (Prod.fst i1)))) ∧
 (((Go.Sx.S8.c (Go.Sx.hB H xs (Prod.fst i1))) = (Go.Sx.S8.c (Go.Sx.hB H xs (Prod.fst i1)))) ∧
 (((Go.Sx.S8.d (Go.Sx.hB H xs (Prod.fst i1))) = (Go.Sx.S8.d (Go.Sx.hB H xs (Prod.fst i1)))) ∧
 (((Go.Sx.S8.e (Go.Sx.hB H xs (Prod.fst i1))) = (Go.Sx.S8.e (Go.Sx.hB H xs (Prod.fst i1)))) ∧
 (((Go.Sx.S8.f (Go.Sx.hB H xs (Prod.fst i1))) = (Go.Sx.S8.f (Go.Sx.hB H xs (Prod.fst i1)))) ∧
 (((Go.Sx.S8.g (Go.Sx.hB H xs (Prod.fst i1))) = (Go.Sx.S8.g (Go.Sx.hB H xs (Prod.fst i1)))) ∧
 (((Go.Sx.S8.h (Go.Sx.hB H xs (Prod.fst i1))) = (Go.Sx.S8.h (Go.Sx.hB H xs (Prod.fst i1)))) ∧
 (((0 : Int) = (((Prod.fst (Prod.snd i03)) : Nat) : Int)) ∧
 (((Go.Sx.S8.a (Go.Sx.hB H xs (Prod.fst i1))) = (Go.Sx.S8.a (Go.Sx.rounds (Go.Sx.hB H xs (Prod.fst i03)) (Go.Sx.blk xs (Prod.fst i03)) (Prod.fst (Prod.snd i03))))) ∧
 (((Go.Sx.S8.b (Go.Sx.hB H xs (Prod.fst i1))) = (Go.Sx.S8.b (Go.Sx.rounds (Go.Sx.hB H xs (Prod.fst i03)) (Go.Sx.blk xs (Prod.fst i03)) (Prod.fst (Prod.snd i03))))) ∧
 (((Go.Sx.S8.c (Go.Sx.hB H xs (Prod.fst i1))) = (Go.Sx.S8.c (Go.Sx.rounds (Go.Sx.hB H xs (Prod.fst i03)) (Go.Sx.blk xs (Prod.fst i03)) (Prod.fst (Prod.snd i03))))) ∧
 (((Go.Sx.S8.d (Go.Sx.hB H xs (Prod.fst i1))) = (Go.Sx.S8.d (Go.Sx.rounds (Go.Sx.hB H xs (Prod.fst i03)) (Go.Sx.blk xs (Prod.fst i03)) (Prod.fst (Prod.snd i03))))) ∧
 (((Go.Sx.S8.e (Go.Sx.hB H xs (Prod.fst i1))) = (Go.Sx.S8.e (Go.Sx.rounds (Go.Sx.hB H xs (Prod.fst i03)) (Go.Sx.blk xs (Prod.fst i03)) (Prod.fst (Prod.snd i03))))) ∧
 (((Go.Sx.S8.f (Go.Sx.hB H xs (Prod.fst i1))) = (Go.Sx.S8.f (Go.Sx.rounds (Go.Sx.hB H xs (Prod.fst i03)) (Go.Sx.blk xs (Prod.fst i03)) (Prod.fst (Prod.snd i03))))) ∧
 (((Go.Sx.S8.g (Go.Sx.hB H xs (Prod.fst i1))) = (Go.Sx.S8.g (Go.Sx.rounds (Go.Sx.hB H xs (Prod.fst i03)) (Go.Sx.blk xs (Prod.fst i03)) (Prod.fst (Prod.snd i03))))) ∧
 ((Go.Sx.S8.h (Go.Sx.hB H xs (Prod.fst i1))) = (Go.Sx.S8.h (Go.Sx.rounds (Go.Sx.hB H xs (Prod.fst i03)) (Go.Sx.blk xs (Prod.fst i03)) (Prod.fst (Prod.snd i03)))))))))))))))))))))) ∧
 ((Go.Sx.kL = Go.Sx.kL) ∧
 ((((Go.Sx.S8.a H) = (Go.Sx.S8.a H)) ∧
 (((Go.Sx.S8.b H) = (Go.Sx.S8.b H)) ∧
 (((Go.Sx.S8.c H) = (Go.Sx.S8.c H)) ∧
 (((Go.Sx.S8.d H) = (Go.Sx.S8.d H)) ∧
 (((Go.Sx.S8.e H) = (Go.Sx.S8.e H)) ∧
 (((Go.Sx.S8.f H) = (Go.Sx.S8.f H)) ∧
 (((Go.Sx.S8.g H) = (Go.Sx.S8.g H)) ∧
 ((Go.Sx.S8.h H) = (Go.Sx.S8.h H))))))))) ∧
 ((xs = xs) ∧
 ((Prod.snd (Prod.snd i1)) = (Prod.snd (Prod.snd i03))))))))) ∧
 (∀ (i5 : (Go.Sx.LI.ι (Go.Sx.liBgIn H xs l))), ((((Prod.fst (Prod.snd i1)) = ((64 : Nat) * (Prod.fst i5))) ∧
 (((((64 : Nat) * (Prod.fst i5)) + (64 : Nat)) ≤ l) ∧
 (((Prod.fst (Prod.snd i5)) ≤ (64 : Nat)) ∧
 (((List.length (Prod.snd (Prod.snd i5))) = (64 : Nat)) ∧
 (∀ (j6 : Nat), ((j6 < (Prod.fst (Prod.snd i5))) → ((List.getD (Prod.snd (Prod.snd i5)) j6 (0 : Int)) = (Go.Sx.W (Go.Sx.blk xs (Prod.fst i5)) j6)))))))) → ((((decide ((((Prod.fst (Prod.snd i5)) : Nat) : Int) < (64 : Int))) = Bool.true) → ((((decide ((((Prod.fst (Prod.snd i5)) : Nat) : Int) < (16 : Int))) = Bool.true) → (∀ (x7 : Int), ((x7 = (Go.IntKind.wrap Go.IntKind.i64 ((((Prod.fst (Prod.snd i5)) : Nat) : Int) * (4 : Int)))) → ((((0 : Int) ≤ x7) ∧
 (x7 < (((l - ((64 : Nat) * (Prod.fst i1))) : Nat) : Int))) ∧
 (((((Prod.fst (Prod.snd i1)) + ((Int.toNat x7) * (1 : Nat))) + (1 : Nat)) ≤ (List.length xs)) ∧
 (∀ (x8 : Int), ((x8 = (List.getD xs ((Prod.fst (Prod.snd i1)) + ((Int.toNat x7) * (1 : Nat))) (0 : Int))) → (∀ (x9 : Int), ((x9 = (Go.IntKind.wrap Go.IntKind.u32 x8)) → (∀ (x10 : Int), ((x10 = (Go.Sx.shlv Go.IntKind.u32 x9 (24 : Nat))) → (∀ (x11 : Int), ((x11 = (Go.IntKind.wrap Go.IntKind.i64 (x7 + (1 : Int)))) → ((((0 : Int) ≤ x11) ∧
 (x11 < (((l - ((64 : Nat) * (Prod.fst i1))) : Nat) : Int))) ∧
 (((((Prod.fst (Prod.snd i1)) + ((Int.toNat x11) * (1 : Nat))) + (1 : Nat)) ≤ (List.length xs)) ∧
 (∀ (x12 : Int), ((x12 = (List.getD xs ((Prod.fst (Prod.snd i1)) + ((Int.toNat x11) * (1 : Nat))) (0 : Int))) → (∀ (x13 : Int), ((x13 = (Go.IntKind.wrap Go.IntKind.u32 x12)) → (∀ (x14 : Int), ((x14 = (Go.Sx.shlv Go.IntKind.u32 x13 (16 : Nat))) → (∀ (x15 : Int), ((x15 = (Go.Sx.bor Go.IntKind.u32 x10 x14)) → (∀ (x16 : Int), ((x16 = (Go.IntKind.wrap Go.IntKind.i64 (x7 + (2 : Int)))) → ((((0 : Int) ≤ x16) ∧
 (x16 < (((l - ((64 : Nat) * (Prod.fst i1))) : Nat) : Int))) ∧
 (((((Prod.fst (Prod.snd i1)) + ((Int.toNat x16) * (1 : Nat))) + (1 : Nat)) ≤ (List.length xs)) ∧
 (∀ (x17 : Int), ((x17 = (List.getD xs ((Prod.fst (Prod.snd i1)) + ((Int.toNat x16) * (1 : Nat))) (0 : Int))) → (∀ (x18 : Int), ((x18 = (Go.IntKind.wrap Go.IntKind.u32 x17)) → (∀ (x19 : Int), ((x19 = (Go.Sx.shlv Go.IntKind.u32 x18 (8 : Nat))) → (∀ (x20 : Int), ((x20 = (Go.Sx.bor Go.IntKind.u32 x15 x19)) → (∀ (x21 : Int), ((x21 = (Go.IntKind.wrap Go.IntKind.i64 (x7 + (3 : Int)))) → ((((0 : Int) ≤ x21) ∧
 (x21 < (((l - ((64 : Nat) * (Prod.fst i1))) : Nat) : Int))) ∧
 (((((Prod.fst (Prod.snd i1)) + ((Int.toNat x21) * (1 : Nat))) + (1 : Nat)) ≤ (List.length xs)) ∧
 (∀ (x22 : Int), ((x22 = (List.getD xs ((Prod.fst (Prod.snd i1)) + ((Int.toNat x21) * (1 : Nat))) (0 : Int))) → (∀ (x23 : Int), ((x23 = (Go.IntKind.wrap Go.IntKind.u32 x22)) → (∀ (x24 : Int), ((x24 = (Go.Sx.bor Go.IntKind.u32 x20 x23)) → ((((0 : Int) ≤ (((Prod.fst (Prod.snd i5)) : Nat) : Int)) ∧
 ((((Prod.fst (Prod.snd i5)) : Nat) : Int) < (64 : Int))) ∧
 ((((Int.toNat (((Prod.fst (Prod.snd i5)) : Nat) : Int)) * (1 : Nat)) < (List.length (Prod.snd (Prod.snd i5)))) ∧
 ((((-(32 : Int)) < (-(6 : Int))) ∧
 ((-(6 : Int)) < (0 : Int))) ∧
 (∀ (x25 : Int), ((x25 = (Go.Sx.rot (Go.Sx.S8.e (Go.Sx.rounds (Go.Sx.hB H xs (Prod.fst i5)) (Go.Sx.blk xs (Prod.fst i5)) (Prod.fst (Prod.snd i5)))) (6 : Nat))) → ((((-(32 : Int)) < (-(11 : Int))) ∧
 ((-(11 : Int)) < (0 : Int))) ∧
 (∀ (x26 : Int), ((x26 = (Go.Sx.rot (Go.Sx.S8.e (Go.Sx.rounds (Go.Sx.hB H xs (Prod.fst i5)) (Go.Sx.blk xs (Prod.fst i5)) (Prod.fst (Prod.snd i5)))) (11 : Nat))) → (∀ (x27 : Int), ((x27 = (Go.Sx.bxor Go.IntKind.u32 x25 x26)) → ((((-(32 : Int)) < (-(25 : Int))) ∧
 ((-(25 : Int)) < (0 : Int))) ∧
 (∀ (x28 : Int), ((x28 = (Go.Sx.rot (Go.Sx.S8.e (Go.Sx.rounds (Go.Sx.hB H xs (Prod.fst i5)) (Go.Sx.blk xs (Prod.fst i5)) (Prod.fst (Prod.snd i5)))) (25 : Nat))) → (∀ (x29 : Int), ((x29 = (Go.Sx.bxor Go.IntKind.u32 x27 x28)) → (∀ (x30 : Int), ((x30 = (Go.IntKind.wrap Go.IntKind.u32 ((Go.Sx.S8.h (Go.Sx.rounds (Go.Sx.hB H xs (Prod.fst i5)) (Go.Sx.blk xs (Prod.fst i5)) (Prod.fst (Prod.snd i5)))) + x29))) → (∀ (x31 : Int), ((x31 = (Go.Sx.band Go.IntKind.u32 (Go.Sx.S8.e (Go.Sx.rounds (Go.Sx.hB H xs (Prod.fst i5)) (Go.Sx.blk xs (Prod.fst i5)) (Prod.fst (Prod.snd i5)))) (Go.Sx.S8.f (Go.Sx.rounds (Go.Sx.hB H xs (Prod.fst i5)) (Go.Sx.blk xs (Prod.fst i5)) (Prod.fst (Prod.snd i5)))))) → (∀ (x32 : Int), ((x32 = (Go.Sx.bxor Go.IntKind.u32 (4294967295 : Int) (Go.Sx.S8.e (Go.Sx.rounds (Go.Sx.hB H xs (Prod.fst i5)) (Go.Sx.blk xs (Prod.fst i5)) (Prod.fst (Prod.snd i5)))))) → (∀ (x33 : Int), ((x33 = (Go.Sx.band Go.IntKind.u32 x32 (Go.Sx.S8.g (Go.Sx.rounds (Go.Sx.hB H xs (Prod.fst i5)) (Go.Sx.blk xs (Prod.fst i5)) (Prod.fst (Prod.snd i5)))))) → (∀ (x34 : Int), ((x34 = (Go.Sx.bxor Go.IntKind.u32 x31 x33)) → (∀ (x35 : Int), ((x35 = (Go.IntKind.wrap Go.IntKind.u32 (x30 + x34))) → ((((0 : Int) ≤ (((Prod.fst (Prod.snd i5)) : Nat) : Int)) ∧
 ((((Prod.fst (Prod.snd i5)) : Nat) : Int) < (64 : Int))) ∧
 (((((Int.toNat (((Prod.fst (Prod.snd i5)) : Nat) : Int)) * (1 : Nat)) + (1 : Nat)) ≤ (64 : Nat)) ∧
 (∀ (x36 : Int), ((x36 = (List.getD Go.Sx.kL ((Int.toNat (((Prod.fst (Prod.snd i5)) : Nat) : Int)) * (1 : Nat)) (0 : Int))) → (∀ (x37 : Int), ((x37 = (Go.IntKind.wrap Go.IntKind.u32 (x35 + x36))) → ((((0 : Int) ≤ (((Prod.fst (Prod.snd i5)) : Nat) : Int)) ∧
 ((((Prod.fst (Prod.snd i5)) : Nat) : Int) < (64 : Int))) ∧
 (((((Int.toNat (((Prod.fst (Prod.snd i5)) : Nat) : Int)) * (1 : Nat)) + (1 : Nat)) ≤ (List.length (List.set (Prod.snd (Prod.snd i5)) ((Int.toNat (((Prod.fst (Prod.snd i5)) : Nat) : Int)) * (1 : Nat)) x24))) ∧
 (∀ (x38 : Int), ((x38 = (List.getD (List.set (Prod.snd (Prod.snd i5)) ((Int.toNat (((Prod.fst (Prod.snd i5)) : Nat) : Int)) * (1 : Nat)) x24) ((Int.toNat (((Prod.fst (Prod.snd i5)) : Nat) : Int)) * (1 : Nat)) (0 : Int))) → (∀ (x39 : Int), ((x39 = (Go.IntKind.wrap Go.IntKind.u32 (x37 + x38))) → ((((-(32 : Int)) < (-(2 : Int))) ∧
 ((-(2 : Int)) < (0 : Int))) ∧
 (∀ (x40 : Int), ((x40 = (Go.Sx.rot (Go.Sx.S8.a (Go.Sx.rounds (Go.Sx.hB H xs (Prod.fst i5)) (Go.Sx.blk xs (Prod.fst i5)) (Prod.fst (Prod.snd i5)))) (2 : Nat))) → ((((-(32 : Int)) < (-(13 : Int))) ∧
 ((-(13 : Int)) < (0 : Int))) ∧
 (∀ (x41 : Int), ((x41 = (Go.Sx.rot (Go.Sx.S8.a (Go.Sx.rounds (Go.Sx.hB H xs (Prod.fst i5)) (Go.Sx.blk xs (Prod.fst i5)) (Prod.fst (Prod.snd i5)))) (13 : Nat))) → (∀ (x42 : Int), ((x42 = (Go.Sx.bxor Go.IntKind.u32 x40 x41)) → ((((-(32 : Int)) < (-(22 : Int))) ∧
 ((-(22 : Int)) < (0 : Int))) ∧
 (∀ (x43 : Int), ((x43 = (Go.Sx.rot (Go.Sx.S8.a (Go.Sx.rounds (Go.Sx.hB H xs (Prod.fst i5)) (Go.Sx.blk xs (Prod.fst i5)) (Prod.fst (Prod.snd i5)))) (22 : Nat))) → (∀ (x44 : Int), ((x44 = (Go.Sx.bxor Go.IntKind.u32 x42 x43)) → (∀ (x45 : Int), ((x45 = (Go.Sx.band Go.IntKind.u32 (Go.Sx.S8.a (Go.Sx.rounds (Go.Sx.hB H xs (Prod.fst i5)) (Go.Sx.blk xs (Prod.fst i5)) (Prod.fst (Prod.snd i5)))) (Go.Sx.S8.b (Go.Sx.rounds (Go.Sx.hB H xs (Prod.fst i5)) (Go.Sx.blk xs (Prod.fst i5)) (Prod.fst (Prod.snd i5)))))) → (∀ (x46 : Int), ((x46 = (Go.Sx.band Go.IntKind.u32 (Go.Sx.S8.a (Go.Sx.rounds (Go.Sx.hB H xs (Prod.fst i5)) (Go.Sx.blk xs (Prod.fst i5)) (Prod.fst (Prod.snd i5)))) (Go.Sx.S8.c (Go.Sx.rounds (Go.Sx.hB H xs (Prod.fst i5)) (Go.Sx.blk xs (Prod.fst i5)) (Prod.fst (Prod.snd i5)))))) → (∀ (x47 : Int), ((x47 = (Go.Sx.bxor Go.IntKind.u32 x45 x46)) → (∀ (x48 : Int), ((x48 = (Go.Sx.band Go.IntKind.u32 (Go.Sx.S8.b (Go.Sx.rounds (Go.Sx.hB H xs (Prod.fst i5)) (Go.Sx.blk xs (Prod.fst i5)) (Prod.fst (Prod.snd i5)))) (Go.Sx.S8.c (Go.Sx.rounds (Go.Sx.hB H xs (Prod.fst i5)) (Go.Sx.blk xs (Prod.fst i5)) (Prod.fst (Prod.snd i5)))))) → (∀ (x49 : Int), ((x49 = (Go.Sx.bxor Go.IntKind.u32 x47 x48)) → (∀ (x50 : Int), ((x50 = (Go.IntKind.wrap Go.IntKind.u32 (x44 + x49))) → (∀ (x51 : Int), ((x51 = (Go.IntKind.wrap Go.IntKind.u32 ((Go.Sx.S8.d (Go.Sx.rounds (Go.Sx.hB H xs (Prod.fst i5)) (Go.Sx.blk xs (Prod.fst i5)) (Prod.fst (Prod.snd i5)))) + x39))) → (∀ (x52 : Int), ((x52 = (Go.IntKind.wrap Go.IntKind.u32 (x39 + x50))) → (∀ (x53 : Int), ((x53 = (Go.IntKind.wrap Go.IntKind.i64 ((((Prod.fst (Prod.snd i5)) : Nat) : Int) + (1 : Int)))) → (∃ (x54 : (Go.Sx.LI.ι (Go.Sx.liBgIn H xs l))), ((((Prod.fst (Prod.snd i1)) = ((64 : Nat) * (Prod.fst x54))) ∧
 (((((64 : Nat) * (Prod.fst x54)) + (64 : Nat)) ≤ l) ∧
 (((Prod.fst (Prod.snd x54)) ≤ (64 : Nat)) ∧
 (((List.length (Prod.snd (Prod.snd x54))) = (64 : Nat)) ∧
 (∀ (j55 : Nat), ((j55 < (Prod.fst (Prod.snd x54))) → ((List.getD (Prod.snd (Prod.snd x54)) j55 (0 : Int)) = (Go.Sx.W (Go.Sx.blk xs (Prod.fst x54)) j55)))))))) ∧
 ((((((Prod.fst (Prod.snd i1)) = (Prod.fst (Prod.snd i1))) ∧
 (((l - ((64 : Nat) * (Prod.fst i1))) = (l - ((64 : Nat) * (Prod.fst i1)))) ∧
 ((c - ((64 : Nat) * (Prod.fst i1))) = (c - ((64 : Nat) * (Prod.fst i1)))))) ∧
 (((Go.Sx.S8.a (Go.Sx.hB H xs (Prod.fst i1))) = (Go.Sx.S8.a (Go.Sx.hB H xs (Prod.fst i1)))) ∧
 (((Go.Sx.S8.b (Go.Sx.hB H xs (Prod.fst i1))) = (Go.Sx.S8.b (Go.Sx.hB H xs (Prod.fst i1)))) ∧
 (((Go.Sx.S8.c (Go.Sx.hB H xs (Prod.fst i1))) = (Go.Sx.S8.c (Go.Sx.hB H xs (Prod.fst i1)))) ∧
 (((Go.Sx.S8.d (Go.Sx.hB H xs (Prod.fst i1))) = (Go.Sx.S8.d (Go.Sx.hB H xs (Prod.fst i1)))) ∧
 (((Go.Sx.S8.e (Go.Sx.hB H xs (Prod.fst i1))) = (Go.Sx.S8.e (Go.Sx.hB H xs (Prod.fst i1)))) ∧
 (((Go.Sx.S8.f (Go.Sx.hB H xs (Prod.fst i1))) = (Go.Sx.S8.f (Go.Sx.hB H xs (Prod.fst i1)))) ∧
 (((Go.Sx.S8.g (Go.Sx.hB H xs (Prod.fst i1))) = (Go.Sx.S8.g (Go.Sx.hB H xs (Prod.fst i1)))) ∧
 (((Go.Sx.S8.h (Go.Sx.hB H xs (Prod.fst i1))) = (Go.Sx.S8.h (Go.Sx.hB H xs (Prod.fst i1)))) ∧
 ((x53 = (((Prod.fst (Prod.snd x54)) : Nat) : Int)) ∧
 ((x52 = (Go.Sx.S8.a (Go.Sx.rounds (Go.Sx.hB H xs (Prod.fst x54)) (Go.Sx.blk xs (Prod.fst x54)) (Prod.fst (Prod.snd x54))))) ∧
 (((Go.Sx.S8.a (Go.Sx.rounds (Go.Sx.hB H xs (Prod.fst i5)) (Go.Sx.blk xs (Prod.fst i5)) (Prod.fst (Prod.snd i5)))) = (Go.Sx.S8.b (Go.Sx.rounds (Go.Sx.hB H xs (Prod.fst x54)) (Go.Sx.blk xs (Prod.fst x54)) (Prod.fst (Prod.snd x54))))) ∧
 (((Go.Sx.S8.b (Go.Sx.rounds (Go.Sx.hB H xs (Prod.fst i5)) (Go.Sx.blk xs (Prod.fst i5)) (Prod.fst (Prod.snd i5)))) = (Go.Sx.S8.c (Go.Sx.rounds (Go.Sx.hB H xs (Prod.fst x54)) (Go.Sx.blk xs (Prod.fst x54)) (Prod.fst (Prod.snd x54))))) ∧
 (((Go.Sx.S8.c (Go.Sx.rounds (Go.Sx.hB H xs (Prod.fst i5)) (Go.Sx.blk xs (Prod.fst i5)) (Prod.fst (Prod.snd i5)))) = (Go.Sx.S8.d (Go.Sx.rounds (Go.Sx.hB H xs (Prod.fst x54)) (Go.Sx.blk xs (Prod.fst x54)) (Prod.fst (Prod.snd x54))))) ∧
 ((x51 = (Go.Sx.S8.e (Go.Sx.rounds (Go.Sx.hB H xs (Prod.fst x54)) (Go.Sx.blk xs (Prod.fst x54)) (Prod.fst (Prod.snd x54))))) ∧
 (((Go.Sx.S8.e (Go.Sx.rounds (Go.Sx.hB H xs (Prod.fst i5)) (Go.Sx.blk xs (Prod.fst i5)) (Prod.fst (Prod.snd i5)))) = (Go.Sx.S8.f (Go.Sx.rounds (Go.Sx.hB H xs (Prod.fst x54)) (Go.Sx.blk xs (Prod.fst x54)) (Prod.fst (Prod.snd x54))))) ∧
 (((Go.Sx.S8.f (Go.Sx.rounds (Go.Sx.hB H xs (Prod.fst i5)) (Go.Sx.blk xs (Prod.fst i5)) (Prod.fst (Prod.snd i5)))) = (Go.Sx.S8.g (Go.Sx.rounds (Go.Sx.hB H xs (Prod.fst x54)) (Go.Sx.blk xs (Prod.fst x54)) (Prod.fst (Prod.snd x54))))) ∧
 ((Go.Sx.S8.g (Go.Sx.rounds (Go.Sx.hB H xs (Prod.fst i5)) (Go.Sx.blk xs (Prod.fst i5)) (Prod.fst (Prod.snd i5)))) = (Go.Sx.S8.h (Go.Sx.rounds (Go.Sx.hB H xs (Prod.fst x54)) (Go.Sx.blk xs (Prod.fst x54)) (Prod.fst (Prod.snd x54)))))))))))))))))))))) ∧
 ((Go.Sx.kL = Go.Sx.kL) ∧
 ((((Go.Sx.S8.a H) = (Go.Sx.S8.a H)) ∧
 (((Go.Sx.S8.b H) = (Go.Sx.S8.b H)) ∧
 (((Go.Sx.S8.c H) = (Go.Sx.S8.c H)) ∧
 (((Go.Sx.S8.d H) = (Go.Sx.S8.d H)) ∧
 (((Go.Sx.S8.e H) = (Go.Sx.S8.e H)) ∧
 (((Go.Sx.S8.f H) = (Go.Sx.S8.f H)) ∧
 (((Go.Sx.S8.g H) = (Go.Sx.S8.g H)) ∧
 ((Go.Sx.S8.h H) = (Go.Sx.S8.h H))))))))) ∧
 ((xs = xs) ∧
 ((List.set (Prod.snd (Prod.snd i5)) ((Int.toNat (((Prod.fst (Prod.snd i5)) : Nat) : Int)) * (1 : Nat)) x24) = (Prod.snd (Prod.snd x54))))))) ∧
 (((64 : Nat) - (Prod.fst (Prod.snd x54))) < ((64 : Nat) - (Prod.fst (Prod.snd i5)))))))))))))))))))))))))))))))))))))))))))))))))))))))))))))))))))))))))))))))))))))))))))))))))))))))))))))))))))))))))) ∧
 (((decide ((((Prod.fst (Prod.snd i5)) : Nat) : Int) < (16 : Int))) = Bool.false) → (∀ (x56 : Int), ((x56 = (Go.IntKind.wrap Go.IntKind.i64 ((((Prod.fst (Prod.snd i5)) : Nat) : Int) - (2 : Int)))) → ((((0 : Int) ≤ x56) ∧
 (x56 < (64 : Int))) ∧
 (((((Int.toNat x56) * (1 : Nat)) + (1 : Nat)) ≤ (List.length (Prod.snd (Prod.snd i5)))) ∧
 (∀ (x57 : Int), ((x57 = (List.getD (Prod.snd (Prod.snd i5)) ((Int.toNat x56) * (1 : Nat)) (0 : Int))) → ((((-(32 : Int)) < (-(17 : Int))) ∧
 ((-(17 : Int)) < (0 : Int))) ∧
 (∀ (x58 : Int), ((x58 = (Go.Sx.rot x57 (17 : Nat))) → ((((-(32 : Int)) < (-(19 : Int))) ∧
 ((-(19 : Int)) < (0 : Int))) ∧
 (∀ (x59 : Int), ((x59 = (Go.Sx.rot x57 (19 : Nat))) → (∀ (x60 : Int), ((x60 = (Go.Sx.bxor Go.IntKind.u32 x58 x59)) → (∀ (x61 : Int), ((x61 = (Go.Sx.shrv Go.IntKind.u32 x57 (10 : Nat))) → (∀ (x62 : Int), ((x62 = (Go.Sx.bxor Go.IntKind.u32 x60 x61)) → (∀ (x63 : Int), ((x63 = (Go.IntKind.wrap Go.IntKind.i64 ((((Prod.fst (Prod.snd i5)) : Nat) : Int) - (15 : Int)))) → ((((0 : Int) ≤ x63) ∧
 (x63 < (64 : Int))) ∧
 (((((Int.toNat x63) * (1 : Nat)) + (1 : Nat)) ≤ (List.length (Prod.snd (Prod.snd i5)))) ∧
 (∀ (x64 : Int), ((x64 = (List.getD (Prod.snd (Prod.snd i5)) ((Int.toNat x63) * (1 : Nat)) (0 : Int))) → ((((-(32 : Int)) < (-(7 : Int))) ∧
 ((-(7 : Int)) < (0 : Int))) ∧
 (∀ (x65 : Int), ((x65 = (Go.Sx.rot x64 (7 : Nat))) → ((((-(32 : Int)) < (-(18 : Int))) ∧
 ((-(18 : Int)) < (0 : Int))) ∧
 (∀ (x66 : Int), ((x66 = (Go.Sx.rot x64 (18 : Nat))) → (∀ (x67 : Int), ((x67 = (Go.Sx.bxor Go.IntKind.u32 x65 x66)) → (∀ (x68 : Int), ((x68 = (Go.Sx.shrv Go.IntKind.u32 x64 (3 : Nat))) → (∀ (x69 : Int), ((x69 = (Go.Sx.bxor Go.IntKind.u32 x67 x68)) → (∀ (x70 : Int), ((x70 = (Go.IntKind.wrap Go.IntKind.i64 ((((Prod.fst (Prod.snd i5)) : Nat) : Int) - (7 : Int)))) → ((((0 : Int) ≤ x70) ∧
 (x70 < (64 : Int))) ∧
 (((((Int.toNat x70) * (1 : Nat)) + (1 : Nat)) ≤ (List.length (Prod.snd (Prod.snd i5)))) ∧
 (∀ (x71 : Int), ((x71 = (List.getD (Prod.snd (Prod.snd i5)) ((Int.toNat x70) * (1 : Nat)) (0 : Int))) → (∀ (x72 : Int), ((x72 = (Go.IntKind.wrap Go.IntKind.u32 (x62 + x71))) → (∀ (x73 : Int), ((x73 = (Go.IntKind.wrap Go.IntKind.u32 (x72 + x69))) → (∀ (x74 : Int), ((x74 = (Go.IntKind.wrap Go.IntKind.i64 ((((Prod.fst (Prod.snd i5)) : Nat) : Int) - (16 : Int)))) → ((((0 : Int) ≤ x74) ∧
 (x74 < (64 : Int))) ∧
 (((((Int.toNat x74) * (1 : Nat)) + (1 : Nat)) ≤ (List.length (Prod.snd (Prod.snd i5)))) ∧
 (∀ (x75 : Int), ((x75 = (List.getD (Prod.snd (Prod.snd i5)) ((Int.toNat x74) * (1 : Nat)) (0 : Int))) → (∀ (x76 : Int), ((x76 = (Go.IntKind.wrap Go.IntKind.u32 (x73 + x75))) → ((((0 : Int) ≤ (((Prod.fst (Prod.snd i5)) : Nat) : Int)) ∧
 ((((Prod.fst (Prod.snd i5)) : Nat) : Int) < (64 : Int))) ∧
 ((((Int.toNat (((Prod.fst (Prod.snd i5)) : Nat) : Int)) * (1 : Nat)) < (List.length (Prod.snd (Prod.snd i5)))) ∧
 ((((-(32 : Int)) < (-(6 : Int))) ∧
 ((-(6 : Int)) < (0 : Int))) ∧
 (∀ (x77 : Int), ((x77 = (Go.Sx.rot (Go.Sx.S8.e (Go.Sx.rounds (Go.Sx.hB H xs (Prod.fst i5)) (Go.Sx.blk xs (Prod.fst i5)) (Prod.fst (Prod.snd i5)))) (6 : Nat))) → ((((-(32 : Int)) < (-(11 : Int))) ∧
 ((-(11 : Int)) < (0 : Int))) ∧
 (∀ (x78 : Int), ((x78 = (Go.Sx.rot (Go.Sx.S8.e (Go.Sx.rounds (Go.Sx.hB H xs (Prod.fst i5)) (Go.Sx.blk xs (Prod.fst i5)) (Prod.fst (Prod.snd i5)))) (11 : Nat))) → (∀ (x79 : Int), ((x79 = (Go.Sx.bxor Go.IntKind.u32 x77 x78)) → ((((-(32 : Int)) < (-(25 : Int))) ∧
 ((-(25 : Int)) < (0 : Int))) ∧
 (∀ (x80 : Int), ((x80 = (Go.Sx.rot (Go.Sx.S8.e (Go.Sx.rounds (Go.Sx.hB H xs (Prod.fst i5)) (Go.Sx.blk xs (Prod.fst i5)) (Prod.fst (Prod.snd i5)))) (25 : Nat))) → (∀ (x81 : Int), ((x81 = (Go.Sx.bxor Go.IntKind.u32 x79 x80)) → (∀ (x82 : Int), ((x82 = (Go.IntKind.wrap Go.IntKind.u32 ((Go.Sx.S8.h (Go.Sx.rounds (Go.Sx.hB H xs (Prod.fst i5)) (Go.Sx.blk xs (Prod.fst i5)) (Prod.fst (Prod.snd i5)))) + x81))) → (∀ (x83 : Int), ((x83 = (Go.Sx.band Go.IntKind.u32 (Go.Sx.S8.e (Go.Sx.rounds (Go.Sx.hB H xs (Prod.fst i5)) (Go.Sx.blk xs (Prod.fst i5)) (Prod.fst (Prod.snd i5)))) (Go.Sx.S8.f (Go.Sx.rounds (Go.Sx.hB H xs (Prod.fst i5)) (Go.Sx.blk xs (Prod.fst i5)) (Prod.fst (Prod.snd i5)))))) → (∀ (x84 : Int), ((x84 = (Go.Sx.bxor Go.IntKind.u32 (4294967295 : Int) (Go.Sx.S8.e (Go.Sx.rounds (Go.Sx.hB H xs (Prod.fst i5)) (Go.Sx.blk xs (Prod.fst i5)) (Prod.fst (Prod.snd i5)))))) → (∀ (x85 : Int), ((x85 = (Go.Sx.band Go.IntKind.u32 x84 (Go.Sx.S8.g (Go.Sx.rounds (Go.Sx.hB H xs (Prod.fst i5)) (Go.Sx.blk xs (Prod.fst i5)) (Prod.fst (Prod.snd i5)))))) → (∀ (x86 : Int), ((x86 = (Go.Sx.bxor Go.IntKind.u32 x83 x85)) → (∀ (x87 : Int), ((x87 = (Go.IntKind.wrap Go.IntKind.u32 (x82 + x86))) → ((((0 : Int) ≤ (((Prod.fst (Prod.snd i5)) : Nat) : Int)) ∧
 ((((Prod.fst (Prod.snd i5)) : Nat) : Int) < (64 : Int))) ∧
 (((((Int.toNat (((Prod.fst (Prod.snd i5)) : Nat) : Int)) * (1 : Nat)) + (1 : Nat)) ≤ (64 : Nat)) ∧
 (∀ (x88 : Int), ((x88 = (List.getD Go.Sx.kL ((Int.toNat (((Prod.fst (Prod.snd i5)) : Nat) : Int)) * (1 : Nat)) (0 : Int))) → (∀ (x89 : Int), ((x89 = (Go.IntKind.wrap Go.IntKind.u32 (x87 + x88))) → ((((0 : Int) ≤ (((Prod.fst (Prod.snd i5)) : Nat) : Int)) ∧
 ((((Prod.fst (Prod.snd i5)) : Nat) : Int) < (64 : Int))) ∧
 (((((Int.toNat (((Prod.fst (Prod.snd i5)) : Nat) : Int)) * (1 : Nat)) + (1 : Nat)) ≤ (List.length (List.set (Prod.snd (Prod.snd i5)) ((Int.toNat (((Prod.fst (Prod.snd i5)) : Nat) : Int)) * (1 : Nat)) x76))) ∧
 (∀ (x90 : Int), ((x90 = (List.getD (List.set (Prod.snd (Prod.snd i5)) ((Int.toNat (((Prod.fst (Prod.snd i5)) : Nat) : Int)) * (1 : Nat)) x76) ((Int.toNat (((Prod.fst (Prod.snd i5)) : Nat) : Int)) * (1 : Nat)) (0 : Int))) → (∀ (x91 : Int), ((x91 = (Go.IntKind.wrap Go.IntKind.u32 (x89 + x90))) → ((((-(32 : Int)) < (-(2 : Int))) ∧
 ((-(2 : Int)) < (0 : Int))) ∧
 (∀ (x92 : Int), ((x92 = (Go.Sx.rot (Go.Sx.S8.a (Go.Sx.rounds (Go.Sx.hB H xs (Prod.fst i5)) (Go.Sx.blk xs (Prod.fst i5)) (Prod.fst (Prod.snd i5)))) (2 : Nat))) → ((((-(32 : Int)) < (-(13 : Int))) ∧
 ((-(13 : Int)) < (0 : Int))) ∧
 (∀ (x93 : Int), ((x93 = (Go.Sx.rot (Go.Sx.S8.a (Go.Sx.rounds (Go.Sx.hB H xs (Prod.fst i5)) (Go.Sx.blk xs (Prod.fst i5)) (Prod.fst (Prod.snd i5)))) (13 : Nat))) → (∀ (x94 : Int), ((x94 = (Go.Sx.bxor Go.IntKind.u32 x92 x93)) → ((((-(32 : Int)) < (-(22 : Int))) ∧
 ((-(22 : Int)) < (0 : Int))) ∧
 (∀ (x95 : Int), ((x95 = (Go.Sx.rot (Go.Sx.S8.a (Go.Sx.rounds (Go.Sx.hB H xs (Prod.fst i5)) (Go.Sx.blk xs (Prod.fst i5)) (Prod.fst (Prod.snd i5)))) (22 : Nat))) → (∀ (x96 : Int), ((x96 = (Go.Sx.bxor Go.IntKind.u32 x94 x95)) → (∀ (x97 : Int), ((x97 = (Go.Sx.band Go.IntKind.u32 (Go.Sx.S8.a (Go.Sx.rounds (Go.Sx.hB H xs (Prod.fst i5)) (Go.Sx.blk xs (Prod.fst i5)) (Prod.fst (Prod.snd i5)))) (Go.Sx.S8.b (Go.Sx.rounds (Go.Sx.hB H xs (Prod.fst i5)) (Go.Sx.blk xs (Prod.fst i5)) (Prod.fst (Prod.snd i5)))))) → (∀ (x98 : Int), ((x98 = (Go.Sx.band Go.IntKind.u32 (Go.Sx.S8.a (Go.Sx.rounds (Go.Sx.hB H xs (Prod.fst i5)) (Go.Sx.blk xs (Prod.fst i5)) (Prod.fst (Prod.snd i5)))) (Go.Sx.S8.c (Go.Sx.rounds (Go.Sx.hB H xs (Prod.fst i5)) (Go.Sx.blk xs (Prod.fst i5)) (Prod.fst (Prod.snd i5)))))) → (∀ (x99 : Int), ((x99 = (Go.Sx.bxor Go.IntKind.u32 x97 x98)) → (∀ (x100 : Int), ((x100 = (Go.Sx.band Go.IntKind.u32 (Go.Sx.S8.b (Go.Sx.rounds (Go.Sx.hB H xs (Prod.fst i5)) (Go.Sx.blk xs (Prod.fst i5)) (Prod.fst (Prod.snd i5)))) (Go.Sx.S8.c (Go.Sx.rounds (Go.Sx.hB H xs (Prod.fst i5)) (Go.Sx.blk xs (Prod.fst i5)) (Prod.fst (Prod.snd i5)))))) → (∀ (x101 : Int), ((x101 = (Go.Sx.bxor Go.IntKind.u32 x99 x100)) → (∀ (x102 : Int), ((x102 = (Go.IntKind.wrap Go.IntKind.u32 (x96 + x101))) → (∀ (x103 : Int), ((x103 = (Go.IntKind.wrap Go.IntKind.u32 ((Go.Sx.S8.d (Go.Sx.rounds (Go.Sx.hB H xs (Prod.fst i5)) (Go.Sx.blk xs (Prod.fst i5)) (Prod.fst (Prod.snd i5)))) + x91))) → (∀ (x104 : Int), ((x104 = (Go.IntKind.wrap Go.IntKind.u32 (x91 + x102))) → (∀ (x105 : Int), ((x105 = (Go.IntKind.wrap Go.IntKind.i64 ((((Prod.fst (Prod.snd i5)) : Nat) : Int) + (1 : Int)))) → (∃ (x106 : (Go.Sx.LI.ι (Go.Sx.liBgIn H xs l))), ((((Prod.fst (Prod.snd i1)) = ((64 : Nat) * (Prod.fst x106))) ∧
 (((((64 : Nat) * (Prod.fst x106)) + (64 : Nat)) ≤ l) ∧
 (((Prod.fst (Prod.snd x106)) ≤ (64 : Nat)) ∧
 (((List.length (Prod.snd (Prod.snd x106))) = (64 : Nat)) ∧
 (∀ (j107 : Nat), ((j107 < (Prod.fst (Prod.snd x106))) → ((List.getD (Prod.snd (Prod.snd x106)) j107 (0 : Int)) = (Go.Sx.W (Go.Sx.blk xs (Prod.fst x106)) j107)))))))) ∧
 ((((((Prod.fst (Prod.snd i1)) = (Prod.fst (Prod.snd i1))) ∧
 (((l - ((64 : Nat) * (Prod.fst i1))) = (l - ((64 : Nat) * (Prod.fst i1)))) ∧
 ((c - ((64 : Nat) * (Prod.fst i1))) = (c - ((64 : Nat) * (Prod.fst i1)))))) ∧
 (((Go.Sx.S8.a (Go.Sx.hB H xs (Prod.fst i1))) = (Go.Sx.S8.a (Go.Sx.hB H xs (Prod.fst i1)))) ∧
 (((Go.Sx.S8.b (Go.Sx.hB H xs (Prod.fst i1))) = (Go.Sx.S8.b (Go.Sx.hB H xs (Prod.fst i1)))) ∧
 (((Go.Sx.S8.c (Go.Sx.hB H xs (Prod.fst i1))) = (Go.Sx.S8.c (Go.Sx.hB H xs (Prod.fst i1)))) ∧
 (((Go.Sx.S8.d (Go.Sx.hB H xs (Prod.fst i1))) = (Go.Sx.S8.d (Go.Sx.hB H xs (Prod.fst i1)))) ∧
 (((Go.Sx.S8.e (Go.Sx.hB H xs (Prod.fst i1))) = (Go.Sx.S8.e (Go.Sx.hB H xs (Prod.fst i1)))) ∧
 (((Go.Sx.S8.f (Go.Sx.hB H xs (Prod.fst i1))) = (Go.Sx.S8.f (Go.Sx.hB H xs (Prod.fst i1)))) ∧
 (((Go.Sx.S8.g (Go.Sx.hB H xs (Prod.fst i1))) = (Go.Sx.S8.g (Go.Sx.hB H xs (Prod.fst i1)))) ∧
 (((Go.Sx.S8.h (Go.Sx.hB H xs (Prod.fst i1))) = (Go.Sx.S8.h (Go.Sx.hB H xs (Prod.fst i1)))) ∧
 ((x105 = (((Prod.fst (Prod.snd x106)) : Nat) : Int)) ∧
 ((x104 = (Go.Sx.S8.a (Go.Sx.rounds (Go.Sx.hB H xs (Prod.fst x106)) (Go.Sx.blk xs (Prod.fst x106)) (Prod.fst (Prod.snd x106))))) ∧
 (((Go.Sx.S8.a (Go.Sx.rounds (Go.Sx.hB H xs (Prod.fst i5)) (Go.Sx.blk xs (Prod.fst i5)) (Prod.fst (Prod.snd i5)))) = (Go.Sx.S8.b (Go.Sx.rounds (Go.Sx.hB H xs (Prod.fst x106)) (Go.Sx.blk xs (Prod.fst x106)) (Prod.fst (Prod.snd x106))))) ∧
 (((Go.Sx.S8.b (Go.Sx.rounds (Go.Sx.hB H xs (Prod.fst i5)) (Go.Sx.blk xs (Prod.fst i5)) (Prod.fst (Prod.snd i5)))) = (Go.Sx.S8.c (Go.Sx.rounds (Go.Sx.hB H xs (Prod.fst x106)) (Go.Sx.blk xs (Prod.fst x106)) (Prod.fst (Prod.snd x106))))) ∧
 (((Go.Sx.S8.c (Go.Sx.rounds (Go.Sx.hB H xs (Prod.fst i5)) (Go.Sx.blk xs (Prod.fst i5)) (Prod.fst (Prod.snd i5)))) = (Go.Sx.S8.d (Go.Sx.rounds (Go.Sx.hB H xs (Prod.fst x106)) (Go.Sx.blk xs (Prod.fst x106)) (Prod.fst (Prod.snd x106))))) ∧
 ((x103 = (Go.Sx.S8.e (Go.Sx.rounds (Go.Sx.hB H xs (Prod.fst x106)) (Go.Sx.blk xs (Prod.fst x106)) (Prod.fst (Prod.snd x106))))) ∧
 (((Go.Sx.S8.e (Go.Sx.rounds (Go.Sx.hB H xs (Prod.fst i5)) (Go.Sx.blk xs (Prod.fst i5)) (Prod.fst (Prod.snd i5)))) = (Go.Sx.S8.f (Go.Sx.rounds (Go.Sx.hB H xs (Prod.fst x106)) (Go.Sx.blk xs (Prod.fst x106)) (Prod.fst (Prod.snd x106))))) ∧
 (((Go.Sx.S8.f (Go.Sx.rounds (Go.Sx.hB H xs (Prod.fst i5)) (Go.Sx.blk xs (Prod.fst i5)) (Prod.fst (Prod.snd i5)))) = (Go.Sx.S8.g (Go.Sx.rounds (Go.Sx.hB H xs (Prod.fst x106)) (Go.Sx.blk xs (Prod.fst x106)) (Prod.fst (Prod.snd x106))))) ∧
 ((Go.Sx.S8.g (Go.Sx.rounds (Go.Sx.hB H xs (Prod.fst i5)) (Go.Sx.blk xs (Prod.fst i5)) (Prod.fst (Prod.snd i5)))) = (Go.Sx.S8.h (Go.Sx.rounds (Go.Sx.hB H xs (Prod.fst x106)) (Go.Sx.blk xs (Prod.fst x106)) (Prod.fst (Prod.snd x106)))))))))))))))))))))) ∧
 ((Go.Sx.kL = Go.Sx.kL) ∧
 ((((Go.Sx.S8.a H) = (Go.Sx.S8.a H)) ∧
 (((Go.Sx.S8.b H) = (Go.Sx.S8.b H)) ∧
 (((Go.Sx.S8.c H) = (Go.Sx.S8.c H)) ∧
 (((Go.Sx.S8.d H) = (Go.Sx.S8.d H)) ∧
 (((Go.Sx.S8.e H) = (Go.Sx.S8.e H)) ∧
 (((Go.Sx.S8.f H) = (Go.Sx.S8.f H)) ∧
 (((Go.Sx.S8.g H) = (Go.Sx.S8.g H)) ∧
 ((Go.Sx.S8.h H) = (Go.Sx.S8.h H))))))))) ∧
 ((xs = xs) ∧
 ((List.set (Prod.snd (Prod.snd i5)) ((Int.toNat (((Prod.fst (Prod.snd i5)) : Nat) : Int)) * (1 : Nat)) x76) = (Prod.snd (Prod.snd x106))))))) ∧
 (((64 : Nat) - (Prod.fst (Prod.snd x106))) < ((64 : Nat) - (Prod.fst (Prod.snd i5)))))))))))))))))))))))))))))))))))))))))))))))))))))))))))))))))))))))))))))))))))))))))))))))))))))))))))))))))))))))))))))))))))))) ∧
 (((decide ((((Prod.fst (Prod.snd i5)) : Nat) : Int) < (64 : Int))) = Bool.false) → (∀ (x108 : Int), ((x108 = (Go.IntKind.wrap Go.IntKind.u32 ((Go.Sx.S8.a (Go.Sx.hB H xs (Prod.fst i1))) + (Go.Sx.S8.a (Go.Sx.rounds (Go.Sx.hB H xs (Prod.fst i5)) (Go.Sx.blk xs (Prod.fst i5)) (Prod.fst (Prod.snd i5))))))) → (∀ (x109 : Int), ((x109 = (Go.IntKind.wrap Go.IntKind.u32 ((Go.Sx.S8.b (Go.Sx.hB H xs (Prod.fst i1))) + (Go.Sx.S8.b (Go.Sx.rounds (Go.Sx.hB H xs (Prod.fst i5)) (Go.Sx.blk xs (Prod.fst i5)) (Prod.fst (Prod.snd i5))))))) → (∀ (x110 : Int), ((x110 = (Go.IntKind.wrap Go.IntKind.u32 ((Go.Sx.S8.c (Go.Sx.hB H xs (Prod.fst i1))) + (Go.Sx.S8.c (Go.Sx.rounds (Go.Sx.hB H xs (Prod.fst i5)) (Go.Sx.blk xs (Prod.fst i5)) (Prod.fst (Prod.snd i5))))))) → (∀ (x111 : Int), ((x111 = (Go.IntKind.wrap Go.IntKind.u32 ((Go.Sx.S8.d (Go.Sx.hB H xs (Prod.fst i1))) + (Go.Sx.S8.d (Go.Sx.rounds (Go.Sx.hB H xs (Prod.fst i5)) (Go.Sx.blk xs (Prod.fst i5)) (Prod.fst (Prod.snd i5))))))) → (∀ (x112 : Int), ((x112 = (Go.IntKind.wrap Go.IntKind.u32 ((Go.Sx.S8.e (Go.Sx.hB H xs (Prod.fst i1))) + (Go.Sx.S8.e (Go.Sx.rounds (Go.Sx.hB H xs (Prod.fst i5)) (Go.Sx.blk xs (Prod.fst i5)) (Prod.fst (Prod.snd i5))))))) → (∀ (x113 : Int), ((x113 = (Go.IntKind.wrap Go.IntKind.u32 ((Go.Sx.S8.f (Go.Sx.hB H xs (Prod.fst i1))) + (Go.Sx.S8.f (Go.Sx.rounds (Go.Sx.hB H xs (Prod.fst i5)) (Go.Sx.blk xs (Prod.fst i5)) (Prod.fst (Prod.snd i5))))))) → (∀ (x114 : Int), ((x114 = (Go.IntKind.wrap Go.IntKind.u32 ((Go.Sx.S8.g (Go.Sx.hB H xs (Prod.fst i1))) + (Go.Sx.S8.g (Go.Sx.rounds (Go.Sx.hB H xs (Prod.fst i5)) (Go.Sx.blk xs (Prod.fst i5)) (Prod.fst (Prod.snd i5))))))) → (∀ (x115 : Int), ((x115 = (Go.IntKind.wrap Go.IntKind.u32 ((Go.Sx.S8.h (Go.Sx.hB H xs (Prod.fst i1))) + (Go.Sx.S8.h (Go.Sx.rounds (Go.Sx.hB H xs (Prod.fst i5)) (Go.Sx.blk xs (Prod.fst i5)) (Prod.fst (Prod.snd i5))))))) → ((((0 : Int) ≤ (64 : Int)) ∧
 ((64 : Int) ≤ (((l - ((64 : Nat) * (Prod.fst i1))) : Nat) : Int))) ∧
 (∃ (x116 : (Go.Sx.LI.ι (Go.Sx.liBg H xs l c))), (((((64 : Nat) * (Prod.fst x116)) ≤ l) ∧
 (((List.length (Prod.snd (Prod.snd x116))) = (64 : Nat)) ∧
 ((((64 : Nat) * (Prod.fst x116)) < l) → ((Prod.fst (Prod.snd x116)) = ((64 : Nat) * (Prod.fst x116)))))) ∧
 (((((((Prod.fst (Prod.snd i1)) + (if ((c - ((64 : Nat) * (Prod.fst i1))) = (64 : Nat)) then (0 : Nat) else (64 : Nat))) = (Prod.fst (Prod.snd x116))) ∧
 ((((l - ((64 : Nat) * (Prod.fst i1))) - (64 : Nat)) = (l - ((64 : Nat) * (Prod.fst x116)))) ∧
 (((c - ((64 : Nat) * (Prod.fst i1))) - (64 : Nat)) = (c - ((64 : Nat) * (Prod.fst x116)))))) ∧
 ((x108 = (Go.Sx.S8.a (Go.Sx.hB H xs (Prod.fst x116)))) ∧
 ((x109 = (Go.Sx.S8.b (Go.Sx.hB H xs (Prod.fst x116)))) ∧
 ((x110 = (Go.Sx.S8.c (Go.Sx.hB H xs (Prod.fst x116)))) ∧
 ((x111 = (Go.Sx.S8.d (Go.Sx.hB H xs (Prod.fst x116)))) ∧
 ((x112 = (Go.Sx.S8.e (Go.Sx.hB H xs (Prod.fst x116)))) ∧
 ((x113 = (Go.Sx.S8.f (Go.Sx.hB H xs (Prod.fst x116)))) ∧
 ((x114 = (Go.Sx.S8.g (Go.Sx.hB H xs (Prod.fst x116)))) ∧
 (x115 = (Go.Sx.S8.h (Go.Sx.hB H xs (Prod.fst x116)))))))))))) ∧
 ((Go.Sx.kL = Go.Sx.kL) ∧
 ((((Go.Sx.S8.a H) = (Go.Sx.S8.a H)) ∧
 (((Go.Sx.S8.b H) = (Go.Sx.S8.b H)) ∧
 (((Go.Sx.S8.c H) = (Go.Sx.S8.c H)) ∧
 (((Go.Sx.S8.d H) = (Go.Sx.S8.d H)) ∧
 (((Go.Sx.S8.e H) = (Go.Sx.S8.e H)) ∧
 (((Go.Sx.S8.f H) = (Go.Sx.S8.f H)) ∧
 (((Go.Sx.S8.g H) = (Go.Sx.S8.g H)) ∧
 ((Go.Sx.S8.h H) = (Go.Sx.S8.h H))))))))) ∧
 ((xs = xs) ∧
 ((Prod.snd (Prod.snd i5)) = (Prod.snd (Prod.snd x116))))))) ∧
 ((l - ((64 : Nat) * (Prod.fst x116))) < (l - ((64 : Nat) * (Prod.fst i1)))))))))))))))))))))))))))))) ∧
 (((decide (x2 ≥ (64 : Int))) = Bool.false) → (K (Go.Sx.SV.tup []) (Go.Sx.memL [((2 : Nat), (Go.Sx.Reg.mk Bool.true (Go.Sx.Ct.ints Go.IntKind.u32 Go.Sx.kL))), ((9 : Nat), (Go.Sx.Reg.mk Bool.false (Go.Sx.Ct.cells [(Go.Sx.SV.int Go.IntKind.u32 (Go.Sx.A.sym (Go.Sx.S8.a (Go.Sx.hB H xs (Prod.fst i1))))), (Go.Sx.SV.int Go.IntKind.u32 (Go.Sx.A.sym (Go.Sx.S8.b (Go.Sx.hB H xs (Prod.fst i1))))), (Go.Sx.SV.int Go.IntKind.u32 (Go.Sx.A.sym (Go.Sx.S8.c (Go.Sx.hB H xs (Prod.fst i1))))), (Go.Sx.SV.int Go.IntKind.u32 (Go.Sx.A.sym (Go.Sx.S8.d (Go.Sx.hB H xs (Prod.fst i1))))), (Go.Sx.SV.int Go.IntKind.u32 (Go.Sx.A.sym (Go.Sx.S8.e (Go.Sx.hB H xs (Prod.fst i1))))), (Go.Sx.SV.int Go.IntKind.u32 (Go.Sx.A.sym (Go.Sx.S8.f (Go.Sx.hB H xs (Prod.fst i1))))), (Go.Sx.SV.int Go.IntKind.u32 (Go.Sx.A.sym (Go.Sx.S8.g (Go.Sx.hB H xs (Prod.fst i1))))), (Go.Sx.SV.int Go.IntKind.u32 (Go.Sx.A.sym (Go.Sx.S8.h (Go.Sx.hB H xs (Prod.fst i1)))))]))), ((17 : Nat), (Go.Sx.Reg.mk Bool.true (Go.Sx.Ct.ints Go.IntKind.u8 xs))), ((513 : Nat), (Go.Sx.Reg.mk Bool.false (Go.Sx.Ct.ints Go.IntKind.u32 (Prod.snd (Prod.snd i1)))))])))))))))) := by kernel_rfl
end Go.Sx

/- sha256.blockGeneric: what it computes. -/
namespace Go.Sx
open Go Go.Proofs
set_option maxRecDepth 100000
set_option maxHeartbeats 4000000

theorem bg_walk (H : S8) (xs : List Int) (l c : Nat) (K : SV → Mem → Prop) (hl : xs.length = l) (hc : l ≤ c) (hb : Bytes xs) (hbig : l < 2 ^ 40)
    (hK : ∀ w : List Int, K (.tup []) (memL [(2, ⟨true, .ints .u32 kL⟩), (9, ⟨false, s8C (hB H xs (l / 64))⟩), (17, ⟨true, .ints .u8 xs⟩), (513, ⟨false, .ints .u32 w⟩)])) :
    execF cxBg (uBg H xs l c) Tryd.f50 64 [.ptr 9 (.lit 0), .slice 17 (.lit 0) (.sym l) (.sym c)] (memL [(2, ⟨true, .ints .u32 kL⟩), (9, ⟨false, s8C H⟩), (17, ⟨true, .ints .u8 xs⟩)]) K := by
  rw [vc_bg]
  refine ⟨⟨(0, 0, List.replicate 64 0), ⟨by simp, by simp, by simp⟩, ⟨⟨rfl, by simp, by simp⟩, rfl, rfl, rfl, rfl, rfl, rfl, rfl, rfl⟩, rfl, ⟨rfl, rfl, rfl, rfl, rfl, rfl, rfl, rfl⟩, rfl, rfl⟩, ?_⟩
  rintro ⟨k, off, w⟩ ⟨h1, h2, h3⟩ x2 rfl
  simp only at h1 h2 h3
  refine ⟨fun hge => ?_, fun hge => ?_⟩
  · simp only [decide_eq_true_eq] at hge
    have hoff : off = 64 * k := h3 (by omega)
    subst hoff
    refine ⟨⟨(k, 0, w), ⟨rfl, by simp only; omega, by simp, h2, by simp⟩, ⟨⟨rfl, rfl, rfl⟩, rfl, rfl, rfl, rfl, rfl, rfl, rfl, rfl, rfl, rfl, rfl, rfl, rfl, rfl, rfl, rfl, rfl⟩, rfl, ⟨rfl, rfl, rfl, rfl, rfl, rfl, rfl, rfl⟩, rfl, rfl⟩, ?_⟩
    rintro ⟨k', i, w'⟩ ⟨g1, g2, g3, g4, g5⟩
    simp only at g1 g2 g3 g4 g5
    obtain rfl : k = k' := by omega
    have tail : ∀ v, v = W (blk xs k) i → i < 64 → (w'.set i v).getD i 0 = W (blk xs k) i ∧ (∀ j, j < i + 1 → (w'.set i v).getD j 0 = W (blk xs k) j) := by
      intro v hv hi
      have e : (w'.set i v).getD i 0 = W (blk xs k) i := by rw [getD_set_self (by omega), hv]
      refine ⟨e, fun j hj => ?_⟩
      by_cases hji : j = i
      · rw [hji]; exact e
      · rw [getD_set_ne (by omega)]; exact g5 j (by omega)
    simp only [Int.toNat_natCast, Nat.mul_one, true_and, and_true]
    refine ⟨fun hi => ⟨fun h16 => ?_, fun h16 => ?_⟩, fun hi => ?_⟩
    · simp only [decide_eq_true_eq] at hi h16
      rintro x7 hx7
      rw [wrap64 (by omega) (by omega)] at hx7
      refine ⟨by omega, by omega, ?_⟩
      rintro x8 rfl x9 rfl x10 rfl x11 hx11
      rw [wrap64 (by omega) (by omega)] at hx11
      refine ⟨by omega, by omega, ?_⟩
      rintro x12 rfl x13 rfl x14 rfl x15 rfl x16 hx16
      rw [wrap64 (by omega) (by omega)] at hx16
      refine ⟨by omega, by omega, ?_⟩
      rintro x17 rfl x18 rfl x19 rfl x20 rfl x21 hx21
      rw [wrap64 (by omega) (by omega)] at hx21
      refine ⟨by omega, by omega, ?_⟩
      rintro x22 rfl x23 rfl x24 hx24
      have hv : x24 = W (blk xs k) i := by
        have hby := bytes_at (bytes_blk hb k)
        have e0 : xs.getD (64 * k + x7.toNat) 0 = at0 (blk xs k) (4 * i) := by rw [at0_blk (by omega)]; congr 2; omega
        have e1 : xs.getD (64 * k + x11.toNat) 0 = at0 (blk xs k) (4 * i + 1) := by rw [at0_blk (by omega)]; congr 2; omega
        have e2 : xs.getD (64 * k + x16.toNat) 0 = at0 (blk xs k) (4 * i + 2) := by rw [at0_blk (by omega)]; congr 2; omega
        have e3 : xs.getD (64 * k + x21.toNat) 0 = at0 (blk xs k) (4 * i + 3) := by rw [at0_blk (by omega)]; congr 2; omega
        rw [hx24, e0, e1, e2, e3]
        have w := fun n => w32_byte (hby n)
        unfold w32 at w
        rw [w, w, w, w, be_or (hby _) (hby _) (hby _) (hby _), W_lo _ (by omega)]
      obtain ⟨t1, t2⟩ := tail x24 hv (by omega)
      clear hx24 hv
      simp only [Nat.mul_one] at *
      refine ⟨⟨by omega, by omega⟩, by omega, ?_⟩
      refine ⟨⟨by omega, by omega⟩, ?_⟩
      rintro _ rfl
      refine ⟨⟨by omega, by omega⟩, ?_⟩
      rintro _ rfl _ rfl
      refine ⟨⟨by omega, by omega⟩, ?_⟩
      rintro _ rfl _ rfl _ rfl _ rfl _ rfl _ rfl _ rfl _ rfl
      refine ⟨⟨by omega, by omega⟩, by omega, ?_⟩
      rintro _ rfl _ rfl
      refine ⟨⟨by omega, by omega⟩, by simp only [List.length_set]; omega, ?_⟩
      rintro _ rfl _ rfl
      refine ⟨⟨by omega, by omega⟩, ?_⟩
      rintro _ rfl
      refine ⟨⟨by omega, by omega⟩, ?_⟩
      rintro _ rfl _ rfl
      refine ⟨⟨by omega, by omega⟩, ?_⟩
      rintro _ rfl _ rfl _ rfl _ rfl _ rfl _ rfl _ rfl _ rfl _ rfl _ rfl x53 hx53
      rw [wrap64 (by omega) (by omega)] at hx53
      rw [t1]
      refine ⟨(k, i + 1, w'.set i x24), ⟨rfl, g2, by simp only; omega, by simp only [List.length_set]; exact g4, t2⟩, ?_, by simp only; omega⟩
      repeat' apply And.intro
      all_goals first | rfl | (simp only; omega)
    · simp only [decide_eq_true_eq, decide_eq_false_iff_not] at hi h16
      rintro x56 hx56
      rw [wrap64 (by omega) (by omega)] at hx56
      refine ⟨by omega, by omega, ?_⟩
      rintro x57 rfl
      refine ⟨⟨by omega, by omega⟩, ?_⟩
      rintro _ rfl
      refine ⟨⟨by omega, by omega⟩, ?_⟩
      rintro _ rfl _ rfl _ rfl _ rfl x63 hx63
      rw [wrap64 (by omega) (by omega)] at hx63
      refine ⟨by omega, by omega, ?_⟩
      rintro x64 rfl
      refine ⟨⟨by omega, by omega⟩, ?_⟩
      rintro _ rfl
      refine ⟨⟨by omega, by omega⟩, ?_⟩
      rintro _ rfl _ rfl _ rfl _ rfl x70 hx70
      rw [wrap64 (by omega) (by omega)] at hx70
      refine ⟨by omega, by omega, ?_⟩
      rintro x71 rfl _ rfl _ rfl x74 hx74
      rw [wrap64 (by omega) (by omega)] at hx74
      refine ⟨by omega, by omega, ?_⟩
      rintro x75 rfl x76 hx76
      have hv : x76 = W (blk xs k) i := by
        have e1 : w'.getD x56.toNat 0 = W (blk xs k) (i - 2) := by rw [← g5 (i - 2) (by omega)]; congr 1; omega
        have e2 : w'.getD x63.toNat 0 = W (blk xs k) (i - 15) := by rw [← g5 (i - 15) (by omega)]; congr 1; omega
        have e3 : w'.getD x70.toNat 0 = W (blk xs k) (i - 7) := by rw [← g5 (i - 7) (by omega)]; congr 1; omega
        have e4 : w'.getD x74.toNat 0 = W (blk xs k) (i - 16) := by rw [← g5 (i - 16) (by omega)]; congr 1; omega
        rw [hx76, e1, e2, e3, e4, W_hi (t := i) _ (by omega)]
        exact w32_sum1 _ _ _ _
      clear hx76
      obtain ⟨t1, t2⟩ := tail x76 hv (by omega)
      clear hv
      simp only [Nat.mul_one] at *
      refine ⟨⟨by omega, by omega⟩, by omega, ?_⟩
      refine ⟨⟨by omega, by omega⟩, ?_⟩
      rintro _ rfl
      refine ⟨⟨by omega, by omega⟩, ?_⟩
      rintro _ rfl _ rfl
      refine ⟨⟨by omega, by omega⟩, ?_⟩
      rintro _ rfl _ rfl _ rfl _ rfl _ rfl _ rfl _ rfl _ rfl
      refine ⟨⟨by omega, by omega⟩, by omega, ?_⟩
      rintro _ rfl _ rfl
      refine ⟨⟨by omega, by omega⟩, by simp only [List.length_set]; omega, ?_⟩
      rintro _ rfl _ rfl
      refine ⟨⟨by omega, by omega⟩, ?_⟩
      rintro _ rfl
      refine ⟨⟨by omega, by omega⟩, ?_⟩
      rintro _ rfl _ rfl
      refine ⟨⟨by omega, by omega⟩, ?_⟩
      rintro _ rfl _ rfl _ rfl _ rfl _ rfl _ rfl _ rfl _ rfl _ rfl _ rfl x53 hx53
      rw [wrap64 (by omega) (by omega)] at hx53
      rw [t1]
      refine ⟨(k, i + 1, w'.set i x76), ⟨rfl, g2, by simp only; omega, by simp only [List.length_set]; exact g4, t2⟩, ?_, by simp only; omega⟩
      repeat' apply And.intro
      all_goals first | rfl | (simp only; omega)
    · simp only [decide_eq_false_iff_not] at hi
      obtain rfl : i = 64 := by omega
      rintro _ rfl _ rfl _ rfl _ rfl _ rfl _ rfl _ rfl _ rfl
      refine ⟨⟨by omega, by omega⟩, ?_⟩
      refine ⟨(k + 1, 64 * k + (if c - 64 * k = 64 then 0 else 64), w'), ⟨by simp only; omega, g4, ?_⟩, ?_, by simp only; omega⟩
      · simp only
        intro h
        rw [if_neg (by omega)]
        omega
      · repeat' apply And.intro
        all_goals first | rfl | (simp only; omega)
  · simp only [decide_eq_false_iff_not] at hge
    obtain rfl : k = l / 64 := by omega
    exact hK w
end Go.Sx

/- The contract of blockGeneric. -/
namespace Go.Sx
open Go Go.Proofs
set_option maxRecDepth 100000

def gBg : G0 := fun args l K =>
  match args, l with
  | [.ptr 9 (.lit 0), .slice 17 (.lit 0) (.sym n) (.sym c)], [(2, ⟨true, .ints .u32 ks⟩), (9, ⟨false, .cells [.int .u32 (.sym h0), .int .u32 (.sym h1), .int .u32 (.sym h2), .int .u32 (.sym h3), .int .u32 (.sym h4), .int .u32 (.sym h5), .int .u32 (.sym h6), .int .u32 (.sym h7)]⟩), (17, ⟨true, .ints .u8 xs⟩)] =>
    (ks = kL ∧ xs.length = n ∧ n ≤ c ∧ Bytes xs ∧ n < 2 ^ 40) ∧
    ∀ H, H = hB ⟨h0, h1, h2, h3, h4, h5, h6, h7⟩ xs (n / 64) → K (.tup []) (memL [(2, ⟨true, .ints .u32 kL⟩), (9, ⟨false, s8C H⟩), (17, ⟨true, .ints .u8 xs⟩)])
  | _, _ => False
theorem bg_good : Good gBg := by
  constructor
  · intro args l K K' hk h
    unfold gBg at h ⊢
    split at h
    · exact ⟨h.1, fun H hH => hk _ _ (h.2 H hH)⟩
    · exact h.elim
  · intro args l K h
    unfold gBg at h
    split at h
    · exact ⟨_, _, h.2 _ rfl⟩
    · exact h.elim
/-- The contract alone fixes no number of rounds: the function is met with its own loops. -/
theorem bg_ok (args : List SV) (l : List (Nat × Reg)) (K : SV → Mem → Prop) (hK : KUp K) (h : gBg args l K) :
    ∃ U, execF cxBg U Tryd.f50 64 args (memL l) K := by
  unfold gBg at h
  split at h
  · rename_i n c ks h0 h1 h2 h3 h4 h5 h6 h7 xs
    obtain ⟨⟨hk, k1, k2, k3, k4⟩, k5⟩ := h
    subst hk
    exact ⟨uBg ⟨h0, h1, h2, h3, h4, h5, h6, h7⟩ xs n c, bg_walk ⟨h0, h1, h2, h3, h4, h5, h6, h7⟩ xs n c K k1 k2 k3 k4 fun w => hK.le (memL_snoc rfl (by simp)) (k5 _ rfl)⟩
  · exact h.elim
def cBg : Ef Tryd.prog := mkE mixed 50 Tryd.func50 (by decide) (by kernel_rfl) [1] [.ptr 8 false, .sl 1 true] gBg bg_good bg_ok
end Go.Sx

/- The digest as a region. -/
namespace Go.Sx
open Go Go.Proofs
def cxBlock : Cx Tryd.prog := { rds := [], efs := [cBg], eqs := [] }
def dgR (ro : Bool) (H : S8) (xs : List Int) (nx len : Int) : Reg :=
  ⟨ro, .segs [.cells [i32 H.a, i32 H.b, i32 H.c, i32 H.d, i32 H.e, i32 H.f, i32 H.g, i32 H.h], .ints .u8 64 xs, .cells [.int .i64 (.sym nx), .int .u64 (.sym len), .bool (.lit false)]]⟩
def dgSh : List Sh := [.cells 8, .ints .u8 64, .cells 3]
def S0 : S8 := ⟨1779033703, 3144134277, 1013904242, 2773480762, 1359893119, 2600822924, 528734635, 1541459225⟩
end Go.Sx

/- Contracts: block, Size, BlockSize, Reset. -/
namespace Go.Sx
open Go Go.Proofs
set_option maxRecDepth 100000
theorem vc_block (H : S8) (xs : List Int) (l c : Nat) (K : SV → Mem → Prop) : (execF cxBlock u0 Tryd.f37 64 [.ptr 9 (.lit 0), .slice 17 (.lit 0) (.sym l) (.sym c)] (memL [(2, ⟨true, .ints .u32 kL⟩), (9, ⟨false, s8C H⟩), (17, ⟨true, .ints .u8 xs⟩)]) K) =
  (((((0 : Nat) + (l * (1 : Nat))) ≤ (List.length xs)) ∧
 (((Go.Sx.kL = Go.Sx.kL) ∧
 (((List.length (List.take (l * (1 : Nat)) (List.drop (0 : Nat) xs))) = l) ∧
 ((l ≤ c) ∧
 ((Go.Sx.Bytes (List.take (l * (1 : Nat)) (List.drop (0 : Nat) xs))) ∧
 (l < (1099511627776 : Nat)))))) ∧
 (∀ (H0 : Go.Sx.S8), ((H0 = (Go.Sx.hB (Go.Sx.S8.mk (Go.Sx.S8.a H) (Go.Sx.S8.b H) (Go.Sx.S8.c H) (Go.Sx.S8.d H) (Go.Sx.S8.e H) (Go.Sx.S8.f H) (Go.Sx.S8.g H) (Go.Sx.S8.h H)) (List.take (l * (1 : Nat)) (List.drop (0 : Nat) xs)) (l / (64 : Nat)))) → (K (Go.Sx.SV.tup []) (Go.Sx.memL [((2 : Nat), (Go.Sx.Reg.mk Bool.true (Go.Sx.Ct.ints Go.IntKind.u32 Go.Sx.kL))), ((9 : Nat), (Go.Sx.Reg.mk Bool.false (Go.Sx.Ct.cells [(Go.Sx.SV.int Go.IntKind.u32 (Go.Sx.A.sym (Go.Sx.S8.a H0))), (Go.Sx.SV.int Go.IntKind.u32 (Go.Sx.A.sym (Go.Sx.S8.b H0))), (Go.Sx.SV.int Go.IntKind.u32 (Go.Sx.A.sym (Go.Sx.S8.c H0))), (Go.Sx.SV.int Go.IntKind.u32 (Go.Sx.A.sym (Go.Sx.S8.d H0))), (Go.Sx.SV.int Go.IntKind.u32 (Go.Sx.A.sym (Go.Sx.S8.e H0))), (Go.Sx.SV.int Go.IntKind.u32 (Go.Sx.A.sym (Go.Sx.S8.f H0))), (Go.Sx.SV.int Go.IntKind.u32 (Go.Sx.A.sym (Go.Sx.S8.g H0))), (Go.Sx.SV.int Go.IntKind.u32 (Go.Sx.A.sym (Go.Sx.S8.h H0)))]))), ((17 : Nat), (Go.Sx.Reg.mk Bool.true (Go.Sx.Ct.ints Go.IntKind.u8 xs)))]))))))) := by kernel_rfl
theorem vc_size (H : S8) (xs : List Int) (nx len : Int) (K : SV → Mem → Prop) : (execF cx0 u0 Tryd.f21 64 [.ptr 1 (.lit 0)] (memL [(1, dgR true H xs nx len)]) K) =
  ((K (Go.Sx.SV.int Go.IntKind.i64 (Go.Sx.A.lit (32 : Int))) (Go.Sx.memL [((1 : Nat), (Go.Sx.Reg.mk Bool.true (Go.Sx.Ct.segs [(Go.Sx.Sg.cells [(Go.Sx.SV.int Go.IntKind.u32 (Go.Sx.A.sym (Go.Sx.S8.a H))), (Go.Sx.SV.int Go.IntKind.u32 (Go.Sx.A.sym (Go.Sx.S8.b H))), (Go.Sx.SV.int Go.IntKind.u32 (Go.Sx.A.sym (Go.Sx.S8.c H))), (Go.Sx.SV.int Go.IntKind.u32 (Go.Sx.A.sym (Go.Sx.S8.d H))), (Go.Sx.SV.int Go.IntKind.u32 (Go.Sx.A.sym (Go.Sx.S8.e H))), (Go.Sx.SV.int Go.IntKind.u32 (Go.Sx.A.sym (Go.Sx.S8.f H))), (Go.Sx.SV.int Go.IntKind.u32 (Go.Sx.A.sym (Go.Sx.S8.g H))), (Go.Sx.SV.int Go.IntKind.u32 (Go.Sx.A.sym (Go.Sx.S8.h H)))]), (Go.Sx.Sg.ints Go.IntKind.u8 (64 : Nat) xs), (Go.Sx.Sg.cells [(Go.Sx.SV.int Go.IntKind.i64 (Go.Sx.A.sym nx)), (Go.Sx.SV.int Go.IntKind.u64 (Go.Sx.A.sym len)), (Go.Sx.SV.bool (Go.Sx.B.lit Bool.false))])])))]))) := by kernel_rfl
theorem vc_reset (H : S8) (xs : List Int) (nx len : Int) (K : SV → Mem → Prop) : (execF cx0 u0 Tryd.f23 64 [.ptr 1 (.lit 0)] (memL [(1, dgR false H xs nx len)]) K) =
  ((K (Go.Sx.SV.tup []) (Go.Sx.memL [((1 : Nat), (Go.Sx.Reg.mk Bool.false (Go.Sx.Ct.segs [(Go.Sx.Sg.cells [(Go.Sx.SV.int Go.IntKind.u32 (Go.Sx.A.lit (1779033703 : Int))), (Go.Sx.SV.int Go.IntKind.u32 (Go.Sx.A.lit (3144134277 : Int))), (Go.Sx.SV.int Go.IntKind.u32 (Go.Sx.A.lit (1013904242 : Int))), (Go.Sx.SV.int Go.IntKind.u32 (Go.Sx.A.lit (2773480762 : Int))), (Go.Sx.SV.int Go.IntKind.u32 (Go.Sx.A.lit (1359893119 : Int))), (Go.Sx.SV.int Go.IntKind.u32 (Go.Sx.A.lit (2600822924 : Int))), (Go.Sx.SV.int Go.IntKind.u32 (Go.Sx.A.lit (528734635 : Int))), (Go.Sx.SV.int Go.IntKind.u32 (Go.Sx.A.lit (1541459225 : Int)))]), (Go.Sx.Sg.ints Go.IntKind.u8 (64 : Nat) xs), (Go.Sx.Sg.cells [(Go.Sx.SV.int Go.IntKind.i64 (Go.Sx.A.lit (0 : Int))), (Go.Sx.SV.int Go.IntKind.u64 (Go.Sx.A.lit (0 : Int))), (Go.Sx.SV.bool (Go.Sx.B.lit Bool.false))])])))]))) := by kernel_rfl
theorem block_ok (args : List SV) (l : List (Nat × Reg)) (K : SV → Mem → Prop) (_ : KUp K) (h : gBg args l K) : ∃ U, execF cxBlock U Tryd.f37 64 args (memL l) K := by
  refine ⟨u0, ?_⟩
  unfold gBg at h
  split at h
  · rename_i n c ks h0 h1 h2 h3 h4 h5 h6 h7 xs
    obtain ⟨⟨hk, k1, k2, k3, k4⟩, k5⟩ := h
    subst hk
    have := vc_block ⟨h0, h1, h2, h3, h4, h5, h6, h7⟩ xs n c K
    unfold s8C i32 at this
    rw [this]
    have e : List.take (n * 1) (List.drop 0 xs) = xs := by rw [List.drop_zero, Nat.mul_one, List.take_of_length_le (by omega)]
    rw [e]
    exact ⟨by omega, ⟨rfl, k1, k2, k3, by omega⟩, k5⟩
  · exact h.elim
def cBlock : Ef Tryd.prog := mkE mixed 37 Tryd.func37 (by decide) (by kernel_rfl) [1] [.ptr 8 false, .sl 1 true] gBg bg_good block_ok

def rSize : R0 := fun args l =>
  match args, l with
  | [.ptr 1 (.lit 0)], [(1, ⟨true, .segs [.cells [.int .u32 (.sym _), .int .u32 (.sym _), .int .u32 (.sym _), .int .u32 (.sym _), .int .u32 (.sym _), .int .u32 (.sym _), .int .u32 (.sym _), .int .u32 (.sym _)], .ints .u8 64 _, .cells [.int .i64 (.sym _), .int .u64 (.sym _), .bool (.lit false)]]⟩)] => some (none, .int .i64 (.lit 32))
  | _, _ => none
theorem size_ok (args : List SV) (l : List (Nat × Reg)) (p : Ob) (v : SV) (h : rSize args l = some (p, v)) (_ : p.ok) : ∃ U, execF cx0 U Tryd.f21 64 args (memL l) fun v' _ => v' = v := by
  refine ⟨u0, ?_⟩
  unfold rSize at h
  split at h
  · rename_i h0 h1 h2 h3 h4 h5 h6 h7 xs nx len
    simp only [Option.some.injEq, Prod.mk.injEq] at h
    obtain ⟨rfl, rfl⟩ := h
    have := vc_size ⟨h0, h1, h2, h3, h4, h5, h6, h7⟩ xs nx len fun v' _ => v' = SV.int .i64 (.lit 32)
    unfold dgR i32 at this
    rw [this]
  · cases h
def cSize : Rd Tryd.prog := mkR mixed 21 Tryd.func21 (by decide) (by kernel_rfl) [] [.parts dgSh true] rSize size_ok

def gReset : G0 := fun args l K =>
  match args, l with
  | [.ptr 1 (.lit 0)], [(1, ⟨false, .segs [.cells [.int .u32 (.sym _), .int .u32 (.sym _), .int .u32 (.sym _), .int .u32 (.sym _), .int .u32 (.sym _), .int .u32 (.sym _), .int .u32 (.sym _), .int .u32 (.sym _)], .ints .u8 64 xs, .cells [.int .i64 (.sym _), .int .u64 (.sym _), .bool (.lit false)]]⟩)] =>
    K (.tup []) (memL [(1, ⟨false, .segs [.cells [.int .u32 (.lit 1779033703), .int .u32 (.lit 3144134277), .int .u32 (.lit 1013904242), .int .u32 (.lit 2773480762), .int .u32 (.lit 1359893119), .int .u32 (.lit 2600822924), .int .u32 (.lit 528734635), .int .u32 (.lit 1541459225)],
      .ints .u8 64 xs, .cells [.int .i64 (.lit 0), .int .u64 (.lit 0), .bool (.lit false)]]⟩)])
  | _, _ => False
theorem reset_good : Good gReset := by
  constructor
  · intro args l K K' hk h
    unfold gReset at h ⊢
    split at h
    · exact hk _ _ h
    · exact h.elim
  · intro args l K h
    unfold gReset at h
    split at h
    · exact ⟨_, _, h⟩
    · exact h.elim
theorem reset_ok (args : List SV) (l : List (Nat × Reg)) (K : SV → Mem → Prop) (_ : KUp K) (h : gReset args l K) : ∃ U, execF cx0 U Tryd.f23 64 args (memL l) K := by
  refine ⟨u0, ?_⟩
  unfold gReset at h
  split at h
  · rename_i h0 h1 h2 h3 h4 h5 h6 h7 xs nx len
    have := vc_reset ⟨h0, h1, h2, h3, h4, h5, h6, h7⟩ xs nx len K
    unfold dgR i32 at this
    rw [this]
    exact h
  · exact h.elim
def cReset : Ef Tryd.prog := mkE mixed 23 Tryd.func23 (by decide) (by kernel_rfl) [] [.parts dgSh false] gReset reset_good reset_ok
end Go.Sx

/- Contracts: BlockSize, New. -/
namespace Go.Sx
open Go Go.Proofs
set_option maxRecDepth 100000
def cxNew : Cx Tryd.prog := { rds := [], efs := [cReset], eqs := [] }
theorem vc_bsz (K : SV → Mem → Prop) : (execF cx0 u0 Tryd.f25 64 [.any] (memL []) K) =
  ((K (Go.Sx.SV.int Go.IntKind.i64 (Go.Sx.A.lit (64 : Int))) Go.Sx.Tr.leaf)) := by kernel_rfl
theorem vc_new (K : SV → Mem → Prop) : (execF cxNew u0 Tryd.f20 64 [] (memL []) K) =
  ((∀ (ys0 : (List Int)), ((ys0 = [(0 : Int), (0 : Int), (0 : Int), (0 : Int), (0 : Int), (0 : Int), (0 : Int), (0 : Int), (0 : Int), (0 : Int), (0 : Int), (0 : Int), (0 : Int), (0 : Int), (0 : Int), (0 : Int), (0 : Int), (0 : Int), (0 : Int), (0 : Int), (0 : Int), (0 : Int), (0 : Int), (0 : Int), (0 : Int), (0 : Int), (0 : Int), (0 : Int), (0 : Int), (0 : Int), (0 : Int), (0 : Int), (0 : Int), (0 : Int), (0 : Int), (0 : Int), (0 : Int), (0 : Int), (0 : Int), (0 : Int), (0 : Int), (0 : Int), (0 : Int), (0 : Int), (0 : Int), (0 : Int), (0 : Int), (0 : Int), (0 : Int), (0 : Int), (0 : Int), (0 : Int), (0 : Int), (0 : Int), (0 : Int), (0 : Int), (0 : Int), (0 : Int), (0 : Int), (0 : Int), (0 : Int), (0 : Int), (0 : Int), (0 : Int)]) → (K (Go.Sx.SV.ptr (521 : Nat) (Go.Sx.N.lit (0 : Nat))) (Go.Sx.memL [((521 : Nat), (Go.Sx.Reg.mk Bool.false (Go.Sx.Ct.segs [(Go.Sx.Sg.cells [(Go.Sx.SV.int Go.IntKind.u32 (Go.Sx.A.sym (1779033703 : Int))), (Go.Sx.SV.int Go.IntKind.u32 (Go.Sx.A.sym (3144134277 : Int))), (Go.Sx.SV.int Go.IntKind.u32 (Go.Sx.A.sym (1013904242 : Int))), (Go.Sx.SV.int Go.IntKind.u32 (Go.Sx.A.sym (2773480762 : Int))), (Go.Sx.SV.int Go.IntKind.u32 (Go.Sx.A.sym (1359893119 : Int))), (Go.Sx.SV.int Go.IntKind.u32 (Go.Sx.A.sym (2600822924 : Int))), (Go.Sx.SV.int Go.IntKind.u32 (Go.Sx.A.sym (528734635 : Int))), (Go.Sx.SV.int Go.IntKind.u32 (Go.Sx.A.sym (1541459225 : Int)))]), (Go.Sx.Sg.ints Go.IntKind.u8 (64 : Nat) ys0), (Go.Sx.Sg.cells [(Go.Sx.SV.int Go.IntKind.i64 (Go.Sx.A.sym (0 : Int))), (Go.Sx.SV.int Go.IntKind.u64 (Go.Sx.A.sym (0 : Int))), (Go.Sx.SV.bool (Go.Sx.B.lit Bool.false))])])))]))))) := by kernel_rfl
def rBsz : R0 := fun args l =>
  match args, l with
  | [.any], [] => some (none, .int .i64 (.lit 64))
  | _, _ => none
theorem bsz_ok (args : List SV) (l : List (Nat × Reg)) (p : Ob) (v : SV) (h : rBsz args l = some (p, v)) (_ : p.ok) : ∃ U, execF cx0 U Tryd.f25 64 args (memL l) fun v' _ => v' = v := by
  refine ⟨u0, ?_⟩
  unfold rBsz at h
  split at h
  · simp only [Option.some.injEq, Prod.mk.injEq] at h
    obtain ⟨rfl, rfl⟩ := h
    rw [vc_bsz]
  · cases h
def cBsz : Rd Tryd.prog := mkR mixed 25 Tryd.func25 (by decide) (by kernel_rfl) [] [.skip] rBsz bsz_ok

def newReg : Reg := ⟨false, .segs [.cells [.int .u32 (.sym 1779033703), .int .u32 (.sym 3144134277), .int .u32 (.sym 1013904242), .int .u32 (.sym 2773480762), .int .u32 (.sym 1359893119), .int .u32 (.sym 2600822924), .int .u32 (.sym 528734635), .int .u32 (.sym 1541459225)],
      .ints .u8 64 (List.replicate 64 0), .cells [.int .i64 (.sym 0), .int .u64 (.sym 0), .bool (.lit false)]]⟩
def gNew : G0 := fun args l K =>
  match args, l with
  | [], [] => K (.ptr 521 (.lit 0)) (memL [(521, newReg)])
  | _, _ => False
theorem new_good : Good gNew := by
  constructor
  · intro args l K K' hk h
    unfold gNew at h ⊢
    split at h
    · exact hk _ _ h
    · exact h.elim
  · intro args l K h
    unfold gNew at h
    split at h
    · exact ⟨_, _, h⟩
    · exact h.elim
theorem new_ok (args : List SV) (l : List (Nat × Reg)) (K : SV → Mem → Prop) (_ : KUp K) (h : gNew args l K) : ∃ U, execF cxNew U Tryd.f20 64 args (memL l) K := by
  refine ⟨u0, ?_⟩
  unfold gNew at h
  split at h
  · rw [vc_new]
    rintro ys rfl
    exact h
  · exact h.elim
def cNew : Ef Tryd.prog := mkE mixed 20 Tryd.func20 (by decide) (by kernel_rfl) [] [] gNew new_good new_ok
end Go.Sx

/- What a digest stands for, in plain Lean. -/
namespace Go.Sx
open Go

theorem blk_left {M q : List Int} {j : Nat} (h : 64 * j + 64 ≤ M.length) : blk (M ++ q) j = blk M j := by
  unfold blk
  rw [List.drop_append_of_le_length (by omega), List.take_append_of_le_length (by simp; omega)]
theorem blk_right {M q : List Int} {a k : Nat} (h : M.length = 64 * a) : blk (M ++ q) (a + k) = blk q k := by
  unfold blk
  rw [show 64 * (a + k) = M.length + 64 * k by omega, List.drop_length_add_append]
theorem hB_left {S : S8} {M q : List Int} : ∀ {k : Nat}, 64 * k ≤ M.length → hB S (M ++ q) k = hB S M k
  | 0, _ => rfl
  | k + 1, h => by
    unfold hB
    rw [hB_left (by omega), blk_left (by omega)]
theorem hB_right {S : S8} {M q : List Int} {a : Nat} (h : M.length = 64 * a) : ∀ k, hB S (M ++ q) (a + k) = hB (hB S M a) q k
  | 0 => by rw [Nat.add_zero, hB_left (by omega)]; rfl
  | k + 1 => by
    rw [← Nat.add_assoc]
    show comp (hB S (M ++ q) (a + k)) (blk (M ++ q) (a + k)) = comp (hB (hB S M a) q k) (blk q k)
    rw [hB_right h k, blk_right h]

/-- The digest has met these bytes. -/
structure Abs (M : List Int) (H : S8) (x : List Int) (nx len : Int) : Prop where
  h : H = hB S0 M (M.length / 64)
  xl : x.length = 64
  xm : x.take (M.length % 64) = M.drop (64 * (M.length / 64))
  nx : nx = (M.length % 64 : Nat)
  len : len = (M.length : Nat)
  bytes : Bytes M

theorem Bytes.append {p q : List Int} (h : Bytes p) (k : Bytes q) : Bytes (p ++ q) := fun x hx => (List.mem_append.1 hx).elim (h x) (k x)
theorem Bytes.take {p : List Int} (h : Bytes p) (n : Nat) : Bytes (p.take n) := fun x hx => h x (List.mem_of_mem_take hx)
theorem Bytes.drop {p : List Int} (h : Bytes p) (n : Nat) : Bytes (p.drop n) := fun x hx => h x (List.mem_of_mem_drop hx)
theorem Bytes.nil : Bytes [] := nofun

theorem take_splice_mid {x q : List Int} {n : Nat} (h : n ≤ x.length) : (splice x n q).take (n + q.length) = x.take n ++ q := by
  unfold splice
  rw [List.take_append_of_le_length (by simp; omega), List.take_of_length_le (by simp; omega)]

theorem Abs.part {M : List Int} {H : S8} {x : List Int} {nx len : Int} (h : Abs M H x nx len) {q : List Int} (hq : Bytes q) (hl : M.length % 64 + q.length < 64) :
    Abs (M ++ q) H (splice x (M.length % 64) q) (M.length % 64 + q.length : Nat) (M.length + q.length : Nat) := by
  have e1 : (M ++ q).length = M.length + q.length := by simp
  have e2 : (M.length + q.length) / 64 = M.length / 64 := by omega
  have e3 : (M.length + q.length) % 64 = M.length % 64 + q.length := by omega
  refine ⟨?_, ?_, ?_, by rw [e1, e3], by rw [e1], h.bytes.append hq⟩
  · rw [e1, e2, hB_left (by omega)]; exact h.h
  · rw [splice_length (by have := h.xl; omega)]; exact h.xl
  · rw [e1, e2, e3, take_splice_mid (by have := h.xl; omega), h.xm, List.drop_append_of_le_length (by omega)]

theorem Abs.full {M : List Int} {H : S8} {x : List Int} {nx len : Int} (h : Abs M H x nx len) {q : List Int} (hq : Bytes q) (hl : M.length % 64 + q.length = 64) :
    splice x (M.length % 64) q = M.drop (64 * (M.length / 64)) ++ q ∧
    Abs (M ++ q) (hB H (splice x (M.length % 64) q) 1) (splice x (M.length % 64) q) 0 (M.length + q.length : Nat) := by
  have hx : splice x (M.length % 64) q = M.drop (64 * (M.length / 64)) ++ q := by
    have := take_splice_mid (x := x) (q := q) (n := M.length % 64) (by have := h.xl; omega)
    rw [hl, List.take_of_length_le (by rw [splice_length (by have := h.xl; omega)]; exact Nat.le_of_eq h.xl)] at this
    rw [this, h.xm]
  refine ⟨hx, ?_⟩
  have e1 : (M ++ q).length = M.length + q.length := by simp
  have e2 : (M.length + q.length) / 64 = M.length / 64 + 1 := by omega
  have e3 : (M.length + q.length) % 64 = 0 := by omega
  refine ⟨?_, ?_, ?_, by rw [e1, e3]; rfl, by rw [e1], h.bytes.append hq⟩
  · rw [e1, e2, hx, h.h]
    have hM : M = M.take (64 * (M.length / 64)) ++ M.drop (64 * (M.length / 64)) := (List.take_append_drop _ _).symm
    have hlen : (M.take (64 * (M.length / 64))).length = 64 * (M.length / 64) := by simp; omega
    have a1 : hB S0 M (M.length / 64) = hB S0 (M.take (64 * (M.length / 64))) (M.length / 64) := by
      have := hB_left (S := S0) (M := M.take (64 * (M.length / 64))) (q := M.drop (64 * (M.length / 64))) (k := M.length / 64) (by omega)
      rw [← hM] at this
      exact this
    have a2 := hB_right (S := S0) (q := M.drop (64 * (M.length / 64)) ++ q) hlen 1
    rw [← List.append_assoc, ← hM] at a2
    rw [a1, a2]
  · rw [splice_length (by have := h.xl; omega)]; exact h.xl
  · rw [e1, e3]; simp; omega

theorem Abs.blocks {M : List Int} {H : S8} {x : List Int} {nx len : Int} (h : Abs M H x nx len) {q : List Int} (hq : Bytes q) (h0 : M.length % 64 = 0) (hl : q.length % 64 = 0) :
    Abs (M ++ q) (hB H q (q.length / 64)) x 0 (M.length + q.length : Nat) := by
  have e1 : (M ++ q).length = M.length + q.length := by simp
  have e2 : (M.length + q.length) / 64 = M.length / 64 + q.length / 64 := by omega
  have e3 : (M.length + q.length) % 64 = 0 := by omega
  refine ⟨?_, h.xl, ?_, by rw [e1, e3]; rfl, by rw [e1], h.bytes.append hq⟩
  · rw [e1, e2, hB_right (by omega), h.h]
  · rw [e1, e3]; simp; omega

/-- A digest that has met nothing. -/
theorem Abs.empty {x : List Int} (h : x.length = 64) : Abs [] S0 x 0 0 := ⟨rfl, h, by simp, rfl, rfl, Bytes.nil⟩
theorem Abs.exists {M : List Int} (h : Bytes M) : ∃ H x nx len, Abs M H x nx len := by
  refine ⟨_, M.drop (64 * (M.length / 64)) ++ List.replicate (64 - M.length % 64) 0, _, _, rfl, by simp; omega, ?_, rfl, rfl, h⟩
  rw [List.take_append_of_le_length (by simp; omega), List.take_of_length_le (by simp; omega)]
end Go.Sx

/- Digest.Write: its condition. -/
namespace Go.Sx
open Go Go.Proofs
set_option maxRecDepth 100000
def cxWrite : Cx Tryd.prog := { rds := [], efs := [cBlock], eqs := [] }
def u1 : Nat → Lp := fun _ => .un 1
theorem vc_write (H : S8) (xs : List Int) (nx len : Int) (p : List Int) (l c : Nat) (K : SV → Mem → Prop) : (execF cxWrite u1 Tryd.f24 64 [.ptr 9 (.lit 0), .slice 17 (.lit 0) (.sym l) (.sym c)] (memL [(2, ⟨true, .ints .u32 kL⟩), (9, dgR false H xs nx len), (17, ⟨true, .ints .u8 p⟩)]) K) =
  ((∀ (x0 : Int), ((x0 = ((l : Nat) : Int)) → (∀ (x1 : Int), ((x1 = len) → (∀ (x2 : Int), ((x2 = (Go.IntKind.wrap Go.IntKind.u64 x0)) → (∀ (x3 : Int), ((x3 = (Go.IntKind.wrap Go.IntKind.u64 (x1 + x2))) → (∀ (x4 : Int), ((x4 = nx) → ((((decide (x4 > (0 : Int))) = Bool.true) → (∀ (x5 : Int), ((x5 = nx) → ((((0 : Int) ≤ x5) ∧
 (x5 ≤ (64 : Int))) ∧
 (((((0 : Nat) + (Min.min l ((64 : Nat) - (Int.toNat x5)))) ≤ (List.length p)) ∧
 (((if ((64 : Nat) = (Int.toNat x5)) then (0 : Nat) else ((Int.toNat x5) * (1 : Nat))) + (Min.min l ((64 : Nat) - (Int.toNat x5)))) ≤ (List.length xs))) ∧
 (∀ (x6 : Int), ((x6 = nx) → (∀ (x7 : Int), ((x7 = (Go.IntKind.wrap Go.IntKind.i64 (x6 + (((Min.min l ((64 : Nat) - (Int.toNat x5))) : Nat) : Int)))) → (∀ (x8 : Int), ((x8 = x7) → ((((x8 == (64 : Int)) = Bool.true) → (((64 : Nat) ≤ (List.length (Go.Sx.splice xs (if ((64 : Nat) = (Int.toNat x5)) then (0 : Nat) else ((Int.toNat x5) * (1 : Nat))) (List.take (Min.min l ((64 : Nat) - (Int.toNat x5))) (List.drop (0 : Nat) p))))) ∧
 (((Go.Sx.kL = Go.Sx.kL) ∧
 (((List.length (List.take (64 : Nat) (List.drop (0 : Nat) (Go.Sx.splice xs (if ((64 : Nat) = (Int.toNat x5)) then (0 : Nat) else ((Int.toNat x5) * (1 : Nat))) (List.take (Min.min l ((64 : Nat) - (Int.toNat x5))) (List.drop (0 : Nat) p)))))) = (64 : Nat)) ∧
 (((64 : Nat) ≤ (64 : Nat)) ∧
 ((Go.Sx.Bytes (List.take (64 : Nat) (List.drop (0 : Nat) (Go.Sx.splice xs (if ((64 : Nat) = (Int.toNat x5)) then (0 : Nat) else ((Int.toNat x5) * (1 : Nat))) (List.take (Min.min l ((64 : Nat) - (Int.toNat x5))) (List.drop (0 : Nat) p)))))) ∧
 ((64 : Nat) < (1099511627776 : Nat)))))) ∧
 (∀ (H9 : Go.Sx.S8), ((H9 = (Go.Sx.hB (Go.Sx.S8.mk (Go.Sx.S8.a H) (Go.Sx.S8.b H) (Go.Sx.S8.c H) (Go.Sx.S8.d H) (Go.Sx.S8.e H) (Go.Sx.S8.f H) (Go.Sx.S8.g H) (Go.Sx.S8.h H)) (List.take (64 : Nat) (List.drop (0 : Nat) (Go.Sx.splice xs (if ((64 : Nat) = (Int.toNat x5)) then (0 : Nat) else ((Int.toNat x5) * (1 : Nat))) (List.take (Min.min l ((64 : Nat) - (Int.toNat x5))) (List.drop (0 : Nat) p))))) (1 : Nat))) → (∀ (ys10 : (List Int)), ((ys10 = (Go.Sx.splice xs (if ((64 : Nat) = (Int.toNat x5)) then (0 : Nat) else ((Int.toNat x5) * (1 : Nat))) (List.take (Min.min l ((64 : Nat) - (Int.toNat x5))) (List.drop (0 : Nat) p)))) → ((((0 : Int) ≤ (((Min.min l ((64 : Nat) - (Int.toNat x5))) : Nat) : Int)) ∧
 ((((Min.min l ((64 : Nat) - (Int.toNat x5))) : Nat) : Int) ≤ ((l : Nat) : Int))) ∧
 (∀ (x11 : Int), ((x11 = (((l - (Int.toNat (((Min.min l ((64 : Nat) - (Int.toNat x5))) : Nat) : Int))) : Nat) : Int)) → ((((decide (x11 ≥ (64 : Int))) = Bool.true) → (∀ (x12 : Int), ((x12 = (((l - (Int.toNat (((Min.min l ((64 : Nat) - (Int.toNat x5))) : Nat) : Int))) : Nat) : Int)) → (∀ (x13 : Int), ((x13 = (Go.Sx.bandn Go.IntKind.i64 x12 (63 : Int))) → ((((decide (x13 > (65536 : Int))) = Bool.true) → ((((0 : Int) ≤ (65536 : Int)) ∧
 ((65536 : Int) ≤ (((c - (Int.toNat (((Min.min l ((64 : Nat) - (Int.toNat x5))) : Nat) : Int))) : Nat) : Int))) ∧
 ((((if (c = (Int.toNat (((Min.min l ((64 : Nat) - (Int.toNat x5))) : Nat) : Int))) then (0 : Nat) else ((Int.toNat (((Min.min l ((64 : Nat) - (Int.toNat x5))) : Nat) : Int)) * (1 : Nat))) + (65536 : Nat)) ≤ (List.length p)) ∧
 (((Go.Sx.kL = Go.Sx.kL) ∧
 (((List.length (List.take (65536 : Nat) (List.drop (if (c = (Int.toNat (((Min.min l ((64 : Nat) - (Int.toNat x5))) : Nat) : Int))) then (0 : Nat) else ((Int.toNat (((Min.min l ((64 : Nat) - (Int.toNat x5))) : Nat) : Int)) * (1 : Nat))) p))) = (65536 : Nat)) ∧
 (((65536 : Nat) ≤ ((c - (Int.toNat (((Min.min l ((64 : Nat) - (Int.toNat x5))) : Nat) : Int))) - (0 : Nat))) ∧
 ((Go.Sx.Bytes (List.take (65536 : Nat) (List.drop (if (c = (Int.toNat (((Min.min l ((64 : Nat) - (Int.toNat x5))) : Nat) : Int))) then (0 : Nat) else ((Int.toNat (((Min.min l ((64 : Nat) - (Int.toNat x5))) : Nat) : Int)) * (1 : Nat))) p))) ∧
 ((65536 : Nat) < (1099511627776 : Nat)))))) ∧
 (∀ (H14 : Go.Sx.S8), ((H14 = (Go.Sx.hB (Go.Sx.S8.mk (Go.Sx.S8.a H9) (Go.Sx.S8.b H9) (Go.Sx.S8.c H9) (Go.Sx.S8.d H9) (Go.Sx.S8.e H9) (Go.Sx.S8.f H9) (Go.Sx.S8.g H9) (Go.Sx.S8.h H9)) (List.take (65536 : Nat) (List.drop (if (c = (Int.toNat (((Min.min l ((64 : Nat) - (Int.toNat x5))) : Nat) : Int))) then (0 : Nat) else ((Int.toNat (((Min.min l ((64 : Nat) - (Int.toNat x5))) : Nat) : Int)) * (1 : Nat))) p)) (1024 : Nat))) → (∀ (ys15 : (List Int)), ((ys15 = ys10) → ((((0 : Int) ≤ (65536 : Int)) ∧
 ((65536 : Int) ≤ (((l - (Int.toNat (((Min.min l ((64 : Nat) - (Int.toNat x5))) : Nat) : Int))) : Nat) : Int))) ∧
 (∀ (x16 : Int), ((x16 = (Go.IntKind.wrap Go.IntKind.i64 (x13 - (65536 : Int)))) → False))))))))))) ∧
 (((decide (x13 > (65536 : Int))) = Bool.false) → ((((0 : Int) ≤ x13) ∧
 (x13 ≤ (((c - (Int.toNat (((Min.min l ((64 : Nat) - (Int.toNat x5))) : Nat) : Int))) : Nat) : Int))) ∧
 ((((if (c = (Int.toNat (((Min.min l ((64 : Nat) - (Int.toNat x5))) : Nat) : Int))) then (0 : Nat) else ((Int.toNat (((Min.min l ((64 : Nat) - (Int.toNat x5))) : Nat) : Int)) * (1 : Nat))) + (((Int.toNat x13) - (0 : Nat)) * (1 : Nat))) ≤ (List.length p)) ∧
 (((Go.Sx.kL = Go.Sx.kL) ∧
 (((List.length (List.take (((Int.toNat x13) - (0 : Nat)) * (1 : Nat)) (List.drop (if (c = (Int.toNat (((Min.min l ((64 : Nat) - (Int.toNat x5))) : Nat) : Int))) then (0 : Nat) else ((Int.toNat (((Min.min l ((64 : Nat) - (Int.toNat x5))) : Nat) : Int)) * (1 : Nat))) p))) = ((Int.toNat x13) - (0 : Nat))) ∧
 ((((Int.toNat x13) - (0 : Nat)) ≤ ((c - (Int.toNat (((Min.min l ((64 : Nat) - (Int.toNat x5))) : Nat) : Int))) - (0 : Nat))) ∧
 ((Go.Sx.Bytes (List.take (((Int.toNat x13) - (0 : Nat)) * (1 : Nat)) (List.drop (if (c = (Int.toNat (((Min.min l ((64 : Nat) - (Int.toNat x5))) : Nat) : Int))) then (0 : Nat) else ((Int.toNat (((Min.min l ((64 : Nat) - (Int.toNat x5))) : Nat) : Int)) * (1 : Nat))) p))) ∧
 (((Int.toNat x13) - (0 : Nat)) < (1099511627776 : Nat)))))) ∧
 (∀ (H17 : Go.Sx.S8), ((H17 = (Go.Sx.hB (Go.Sx.S8.mk (Go.Sx.S8.a H9) (Go.Sx.S8.b H9) (Go.Sx.S8.c H9) (Go.Sx.S8.d H9) (Go.Sx.S8.e H9) (Go.Sx.S8.f H9) (Go.Sx.S8.g H9) (Go.Sx.S8.h H9)) (List.take (((Int.toNat x13) - (0 : Nat)) * (1 : Nat)) (List.drop (if (c = (Int.toNat (((Min.min l ((64 : Nat) - (Int.toNat x5))) : Nat) : Int))) then (0 : Nat) else ((Int.toNat (((Min.min l ((64 : Nat) - (Int.toNat x5))) : Nat) : Int)) * (1 : Nat))) p)) (((Int.toNat x13) - (0 : Nat)) / (64 : Nat)))) → (∀ (ys18 : (List Int)), ((ys18 = ys10) → ((((0 : Int) ≤ x13) ∧
 (x13 ≤ (((l - (Int.toNat (((Min.min l ((64 : Nat) - (Int.toNat x5))) : Nat) : Int))) : Nat) : Int))) ∧
 (∀ (x19 : Int), ((x19 = ((((l - (Int.toNat (((Min.min l ((64 : Nat) - (Int.toNat x5))) : Nat) : Int))) - (Int.toNat x13)) : Nat) : Int)) → ((((decide (x19 > (0 : Int))) = Bool.true) → ((((((if (c = (Int.toNat (((Min.min l ((64 : Nat) - (Int.toNat x5))) : Nat) : Int))) then (0 : Nat) else ((Int.toNat (((Min.min l ((64 : Nat) - (Int.toNat x5))) : Nat) : Int)) * (1 : Nat))) + (if ((c - (Int.toNat (((Min.min l ((64 : Nat) - (Int.toNat x5))) : Nat) : Int))) = (Int.toNat x13)) then (0 : Nat) else ((Int.toNat x13) * (1 : Nat)))) + (Min.min ((l - (Int.toNat (((Min.min l ((64 : Nat) - (Int.toNat x5))) : Nat) : Int))) - (Int.toNat x13)) (64 : Nat))) ≤ (List.length p)) ∧
 (((0 : Nat) + (Min.min ((l - (Int.toNat (((Min.min l ((64 : Nat) - (Int.toNat x5))) : Nat) : Int))) - (Int.toNat x13)) (64 : Nat))) ≤ (List.length ys18))) ∧
 (K (Go.Sx.SV.tup [(Go.Sx.SV.int Go.IntKind.i64 (Go.Sx.A.sym x0)), (Go.Sx.SV.val Go.Value.nilIface)]) (Go.Sx.memL [((2 : Nat), (Go.Sx.Reg.mk Bool.true (Go.Sx.Ct.ints Go.IntKind.u32 Go.Sx.kL))), ((9 : Nat), (Go.Sx.Reg.mk Bool.false (Go.Sx.Ct.segs [(Go.Sx.Sg.cells [(Go.Sx.SV.int Go.IntKind.u32 (Go.Sx.A.sym (Go.Sx.S8.a H17))), (Go.Sx.SV.int Go.IntKind.u32 (Go.Sx.A.sym (Go.Sx.S8.b H17))), (Go.Sx.SV.int Go.IntKind.u32 (Go.Sx.A.sym (Go.Sx.S8.c H17))), (Go.Sx.SV.int Go.IntKind.u32 (Go.Sx.A.sym (Go.Sx.S8.d H17))), (Go.Sx.SV.int Go.IntKind.u32 (Go.Sx.A.sym (Go.Sx.S8.e H17))), (Go.Sx.SV.int Go.IntKind.u32 (Go.Sx.A.sym (Go.Sx.S8.f H17))), (Go.Sx.SV.int Go.IntKind.u32 (Go.Sx.A.sym (Go.Sx.S8.g H17))), (Go.Sx.SV.int Go.IntKind.u32 (Go.Sx.A.sym (Go.Sx.S8.h H17)))]), (Go.Sx.Sg.ints Go.IntKind.u8 (64 : Nat) (Go.Sx.splice ys18 (0 : Nat) (List.take (Min.min ((l - (Int.toNat (((Min.min l ((64 : Nat) - (Int.toNat x5))) : Nat) : Int))) - (Int.toNat x13)) (64 : Nat)) (List.drop ((if (c = (Int.toNat (((Min.min l ((64 : Nat) - (Int.toNat x5))) : Nat) : Int))) then (0 : Nat) else ((Int.toNat (((Min.min l ((64 : Nat) - (Int.toNat x5))) : Nat) : Int)) * (1 : Nat))) + (if ((c - (Int.toNat (((Min.min l ((64 : Nat) - (Int.toNat x5))) : Nat) : Int))) = (Int.toNat x13)) then (0 : Nat) else ((Int.toNat x13) * (1 : Nat)))) p)))), (Go.Sx.Sg.cells [(Go.Sx.SV.int Go.IntKind.i64 (Go.Sx.A.sym (((Min.min ((l - (Int.toNat (((Min.min l ((64 : Nat) - (Int.toNat x5))) : Nat) : Int))) - (Int.toNat x13)) (64 : Nat)) : Nat) : Int))), (Go.Sx.SV.int Go.IntKind.u64 (Go.Sx.A.sym x3)), (Go.Sx.SV.bool (Go.Sx.B.lit Bool.false))])]))), ((17 : Nat), (Go.Sx.Reg.mk Bool.true (Go.Sx.Ct.ints Go.IntKind.u8 p)))])))) ∧
 (((decide (x19 > (0 : Int))) = Bool.false) → (K (Go.Sx.SV.tup [(Go.Sx.SV.int Go.IntKind.i64 (Go.Sx.A.sym x0)), (Go.Sx.SV.val Go.Value.nilIface)]) (Go.Sx.memL [((2 : Nat), (Go.Sx.Reg.mk Bool.true (Go.Sx.Ct.ints Go.IntKind.u32 Go.Sx.kL))), ((9 : Nat), (Go.Sx.Reg.mk Bool.false (Go.Sx.Ct.segs [(Go.Sx.Sg.cells [(Go.Sx.SV.int Go.IntKind.u32 (Go.Sx.A.sym (Go.Sx.S8.a H17))), (Go.Sx.SV.int Go.IntKind.u32 (Go.Sx.A.sym (Go.Sx.S8.b H17))), (Go.Sx.SV.int Go.IntKind.u32 (Go.Sx.A.sym (Go.Sx.S8.c H17))), (Go.Sx.SV.int Go.IntKind.u32 (Go.Sx.A.sym (Go.Sx.S8.d H17))), (Go.Sx.SV.int Go.IntKind.u32 (Go.Sx.A.sym (Go.Sx.S8.e H17))), (Go.Sx.SV.int Go.IntKind.u32 (Go.Sx.A.sym (Go.Sx.S8.f H17))), (Go.Sx.SV.int Go.IntKind.u32 (Go.Sx.A.sym (Go.Sx.S8.g H17))), (Go.Sx.SV.int Go.IntKind.u32 (Go.Sx.A.sym (Go.Sx.S8.h H17)))]), (Go.Sx.Sg.ints Go.IntKind.u8 (64 : Nat) ys18), (Go.Sx.Sg.cells [(Go.Sx.SV.int Go.IntKind.i64 (Go.Sx.A.lit (0 : Int))), (Go.Sx.SV.int Go.IntKind.u64 (Go.Sx.A.sym x3)), (Go.Sx.SV.bool (Go.Sx.B.lit Bool.false))])]))), ((17 : Nat), (Go.Sx.Reg.mk Bool.true (Go.Sx.Ct.ints Go.IntKind.u8 p)))]))))))))))))))))))))) ∧
 (((decide (x11 ≥ (64 : Int))) = Bool.false) → (∀ (x20 : Int), ((x20 = (((l - (Int.toNat (((Min.min l ((64 : Nat) - (Int.toNat x5))) : Nat) : Int))) : Nat) : Int)) → ((((decide (x20 > (0 : Int))) = Bool.true) → (((((if (c = (Int.toNat (((Min.min l ((64 : Nat) - (Int.toNat x5))) : Nat) : Int))) then (0 : Nat) else ((Int.toNat (((Min.min l ((64 : Nat) - (Int.toNat x5))) : Nat) : Int)) * (1 : Nat))) + (Min.min (l - (Int.toNat (((Min.min l ((64 : Nat) - (Int.toNat x5))) : Nat) : Int))) (64 : Nat))) ≤ (List.length p)) ∧
 (((0 : Nat) + (Min.min (l - (Int.toNat (((Min.min l ((64 : Nat) - (Int.toNat x5))) : Nat) : Int))) (64 : Nat))) ≤ (List.length ys10))) ∧
 (K (Go.Sx.SV.tup [(Go.Sx.SV.int Go.IntKind.i64 (Go.Sx.A.sym x0)), (Go.Sx.SV.val Go.Value.nilIface)]) (Go.Sx.memL [((2 : Nat), (Go.Sx.Reg.mk Bool.true (Go.Sx.Ct.ints Go.IntKind.u32 Go.Sx.kL))), ((9 : Nat), (Go.Sx.Reg.mk Bool.false (Go.Sx.Ct.segs [(Go.Sx.Sg.cells [(Go.Sx.SV.int Go.IntKind.u32 (Go.Sx.A.sym (Go.Sx.S8.a H9))), (Go.Sx.SV.int Go.IntKind.u32 (Go.Sx.A.sym (Go.Sx.S8.b H9))), (Go.Sx.SV.int Go.IntKind.u32 (Go.Sx.A.sym (Go.Sx.S8.c H9))), (Go.Sx.SV.int Go.IntKind.u32 (Go.Sx.A.sym (Go.Sx.S8.d H9))), (Go.Sx.SV.int Go.IntKind.u32 (Go.Sx.A.sym (Go.Sx.S8.e H9))), (Go.Sx.SV.int Go.IntKind.u32 (Go.Sx.A.sym (Go.Sx.S8.f H9))), (Go.Sx.SV.int Go.IntKind.u32 (Go.Sx.A.sym (Go.Sx.S8.g H9))), (Go.Sx.SV.int Go.IntKind.u32 (Go.Sx.A.sym (Go.Sx.S8.h H9)))]), (Go.Sx.Sg.ints Go.IntKind.u8 (64 : Nat) (Go.Sx.splice ys10 (0 : Nat) (List.take (Min.min (l - (Int.toNat (((Min.min l ((64 : Nat) - (Int.toNat x5))) : Nat) : Int))) (64 : Nat)) (List.drop (if (c = (Int.toNat (((Min.min l ((64 : Nat) - (Int.toNat x5))) : Nat) : Int))) then (0 : Nat) else ((Int.toNat (((Min.min l ((64 : Nat) - (Int.toNat x5))) : Nat) : Int)) * (1 : Nat))) p)))), (Go.Sx.Sg.cells [(Go.Sx.SV.int Go.IntKind.i64 (Go.Sx.A.sym (((Min.min (l - (Int.toNat (((Min.min l ((64 : Nat) - (Int.toNat x5))) : Nat) : Int))) (64 : Nat)) : Nat) : Int))), (Go.Sx.SV.int Go.IntKind.u64 (Go.Sx.A.sym x3)), (Go.Sx.SV.bool (Go.Sx.B.lit Bool.false))])]))), ((17 : Nat), (Go.Sx.Reg.mk Bool.true (Go.Sx.Ct.ints Go.IntKind.u8 p)))])))) ∧
 (((decide (x20 > (0 : Int))) = Bool.false) → (K (Go.Sx.SV.tup [(Go.Sx.SV.int Go.IntKind.i64 (Go.Sx.A.sym x0)), (Go.Sx.SV.val Go.Value.nilIface)]) (Go.Sx.memL [((2 : Nat), (Go.Sx.Reg.mk Bool.true (Go.Sx.Ct.ints Go.IntKind.u32 Go.Sx.kL))), ((9 : Nat), (Go.Sx.Reg.mk Bool.false (Go.Sx.Ct.segs [(Go.Sx.Sg.cells [(Go.Sx.SV.int Go.IntKind.u32 (Go.Sx.A.sym (Go.Sx.S8.a H9))), (Go.Sx.SV.int Go.IntKind.u32 (Go.Sx.A.sym (Go.Sx.S8.b H9))), (Go.Sx.SV.int Go.IntKind.u32 (Go.Sx.A.sym (Go.Sx.S8.c H9))), (Go.Sx.SV.int Go.IntKind.u32 (Go.Sx.A.sym (Go.Sx.S8.d H9))), (Go.Sx.SV.int Go.IntKind.u32 (Go.Sx.A.sym (Go.Sx.S8.e H9))), (Go.Sx.SV.int Go.IntKind.u32 (Go.Sx.A.sym (Go.Sx.S8.f H9))), (Go.Sx.SV.int Go.IntKind.u32 (Go.Sx.A.sym (Go.Sx.S8.g H9))), (Go.Sx.SV.int Go.IntKind.u32 (Go.Sx.A.sym (Go.Sx.S8.h H9)))]), (Go.Sx.Sg.ints Go.IntKind.u8 (64 : Nat) ys10), (Go.Sx.Sg.cells [(Go.Sx.SV.int Go.IntKind.i64 (Go.Sx.A.lit (0 : Int))), (Go.Sx.SV.int Go.IntKind.u64 (Go.Sx.A.sym x3)), (Go.Sx.SV.bool (Go.Sx.B.lit Bool.false))])]))), ((17 : Nat), (Go.Sx.Reg.mk Bool.true (Go.Sx.Ct.ints Go.IntKind.u8 p)))])))))))))))))))))) ∧
 (((x8 == (64 : Int)) = Bool.false) → ((((0 : Int) ≤ (((Min.min l ((64 : Nat) - (Int.toNat x5))) : Nat) : Int)) ∧
 ((((Min.min l ((64 : Nat) - (Int.toNat x5))) : Nat) : Int) ≤ ((l : Nat) : Int))) ∧
 (∀ (x21 : Int), ((x21 = (((l - (Int.toNat (((Min.min l ((64 : Nat) - (Int.toNat x5))) : Nat) : Int))) : Nat) : Int)) → ((((decide (x21 ≥ (64 : Int))) = Bool.true) → (∀ (x22 : Int), ((x22 = (((l - (Int.toNat (((Min.min l ((64 : Nat) - (Int.toNat x5))) : Nat) : Int))) : Nat) : Int)) → (∀ (x23 : Int), ((x23 = (Go.Sx.bandn Go.IntKind.i64 x22 (63 : Int))) → ((((decide (x23 > (65536 : Int))) = Bool.true) → ((((0 : Int) ≤ (65536 : Int)) ∧
 ((65536 : Int) ≤ (((c - (Int.toNat (((Min.min l ((64 : Nat) - (Int.toNat x5))) : Nat) : Int))) : Nat) : Int))) ∧
 ((((if (c = (Int.toNat (((Min.min l ((64 : Nat) - (Int.toNat x5))) : Nat) : Int))) then (0 : Nat) else ((Int.toNat (((Min.min l ((64 : Nat) - (Int.toNat x5))) : Nat) : Int)) * (1 : Nat))) + (65536 : Nat)) ≤ (List.length p)) ∧
 (((Go.Sx.kL = Go.Sx.kL) ∧
 (((List.length (List.take (65536 : Nat) (List.drop (if (c = (Int.toNat (((Min.min l ((64 : Nat) - (Int.toNat x5))) : Nat) : Int))) then (0 : Nat) else ((Int.toNat (((Min.min l ((64 : Nat) - (Int.toNat x5))) : Nat) : Int)) * (1 : Nat))) p))) = (65536 : Nat)) ∧
 (((65536 : Nat) ≤ ((c - (Int.toNat (((Min.min l ((64 : Nat) - (Int.toNat x5))) : Nat) : Int))) - (0 : Nat))) ∧
 ((Go.Sx.Bytes (List.take (65536 : Nat) (List.drop (if (c = (Int.toNat (((Min.min l ((64 : Nat) - (Int.toNat x5))) : Nat) : Int))) then (0 : Nat) else ((Int.toNat (((Min.min l ((64 : Nat) - (Int.toNat x5))) : Nat) : Int)) * (1 : Nat))) p))) ∧
 ((65536 : Nat) < (1099511627776 : Nat)))))) ∧
 (∀ (H24 : Go.Sx.S8), ((H24 = (Go.Sx.hB (Go.Sx.S8.mk (Go.Sx.S8.a H) (Go.Sx.S8.b H) (Go.Sx.S8.c H) (Go.Sx.S8.d H) (Go.Sx.S8.e H) (Go.Sx.S8.f H) (Go.Sx.S8.g H) (Go.Sx.S8.h H)) (List.take (65536 : Nat) (List.drop (if (c = (Int.toNat (((Min.min l ((64 : Nat) - (Int.toNat x5))) : Nat) : Int))) then (0 : Nat) else ((Int.toNat (((Min.min l ((64 : Nat) - (Int.toNat x5))) : Nat) : Int)) * (1 : Nat))) p)) (1024 : Nat))) → (∀ (ys25 : (List Int)), ((ys25 = (Go.Sx.splice xs (if ((64 : Nat) = (Int.toNat x5)) then (0 : Nat) else ((Int.toNat x5) * (1 : Nat))) (List.take (Min.min l ((64 : Nat) - (Int.toNat x5))) (List.drop (0 : Nat) p)))) → ((((0 : Int) ≤ (65536 : Int)) ∧
 ((65536 : Int) ≤ (((l - (Int.toNat (((Min.min l ((64 : Nat) - (Int.toNat x5))) : Nat) : Int))) : Nat) : Int))) ∧
 (∀ (x26 : Int), ((x26 = (Go.IntKind.wrap Go.IntKind.i64 (x23 - (65536 : Int)))) → False))))))))))) ∧
 (((decide (x23 > (65536 : Int))) = Bool.false) → ((((0 : Int) ≤ x23) ∧
 (x23 ≤ (((c - (Int.toNat (((Min.min l ((64 : Nat) - (Int.toNat x5))) : Nat) : Int))) : Nat) : Int))) ∧
 ((((if (c = (Int.toNat (((Min.min l ((64 : Nat) - (Int.toNat x5))) : Nat) : Int))) then (0 : Nat) else ((Int.toNat (((Min.min l ((64 : Nat) - (Int.toNat x5))) : Nat) : Int)) * (1 : Nat))) + (((Int.toNat x23) - (0 : Nat)) * (1 : Nat))) ≤ (List.length p)) ∧
 (((Go.Sx.kL = Go.Sx.kL) ∧
 (((List.length (List.take (((Int.toNat x23) - (0 : Nat)) * (1 : Nat)) (List.drop (if (c = (Int.toNat (((Min.min l ((64 : Nat) - (Int.toNat x5))) : Nat) : Int))) then (0 : Nat) else ((Int.toNat (((Min.min l ((64 : Nat) - (Int.toNat x5))) : Nat) : Int)) * (1 : Nat))) p))) = ((Int.toNat x23) - (0 : Nat))) ∧
 ((((Int.toNat x23) - (0 : Nat)) ≤ ((c - (Int.toNat (((Min.min l ((64 : Nat) - (Int.toNat x5))) : Nat) : Int))) - (0 : Nat))) ∧
 ((Go.Sx.Bytes (List.take (((Int.toNat x23) - (0 : Nat)) * (1 : Nat)) (List.drop (if (c = (Int.toNat (((Min.min l ((64 : Nat) - (Int.toNat x5))) : Nat) : Int))) then (0 : Nat) else ((Int.toNat (((Min.min l ((64 : Nat) - (Int.toNat x5))) : Nat) : Int)) * (1 : Nat))) p))) ∧
 (((Int.toNat x23) - (0 : Nat)) < (1099511627776 : Nat)))))) ∧
 (∀ (H27 : Go.Sx.S8), ((H27 = (Go.Sx.hB (Go.Sx.S8.mk (Go.Sx.S8.a H) (Go.Sx.S8.b H) (Go.Sx.S8.c H) (Go.Sx.S8.d H) (Go.Sx.S8.e H) (Go.Sx.S8.f H) (Go.Sx.S8.g H) (Go.Sx.S8.h H)) (List.take (((Int.toNat x23) - (0 : Nat)) * (1 : Nat)) (List.drop (if (c = (Int.toNat (((Min.min l ((64 : Nat) - (Int.toNat x5))) : Nat) : Int))) then (0 : Nat) else ((Int.toNat (((Min.min l ((64 : Nat) - (Int.toNat x5))) : Nat) : Int)) * (1 : Nat))) p)) (((Int.toNat x23) - (0 : Nat)) / (64 : Nat)))) → (∀ (ys28 : (List Int)), ((ys28 = (Go.Sx.splice xs (if ((64 : Nat) = (Int.toNat x5)) then (0 : Nat) else ((Int.toNat x5) * (1 : Nat))) (List.take (Min.min l ((64 : Nat) - (Int.toNat x5))) (List.drop (0 : Nat) p)))) → ((((0 : Int) ≤ x23) ∧
 (x23 ≤ (((l - (Int.toNat (((Min.min l ((64 : Nat) - (Int.toNat x5))) : Nat) : Int))) : Nat) : Int))) ∧
 (∀ (x29 : Int), ((x29 = ((((l - (Int.toNat (((Min.min l ((64 : Nat) - (Int.toNat x5))) : Nat) : Int))) - (Int.toNat x23)) : Nat) : Int)) → ((((decide (x29 > (0 : Int))) = Bool.true) → ((((((if (c = (Int.toNat (((Min.min l ((64 : Nat) - (Int.toNat x5))) : Nat) : Int))) then (0 : Nat) else ((Int.toNat (((Min.min l ((64 : Nat) - (Int.toNat x5))) : Nat) : Int)) * (1 : Nat))) + (if ((c - (Int.toNat (((Min.min l ((64 : Nat) - (Int.toNat x5))) : Nat) : Int))) = (Int.toNat x23)) then (0 : Nat) else ((Int.toNat x23) * (1 : Nat)))) + (Min.min ((l - (Int.toNat (((Min.min l ((64 : Nat) - (Int.toNat x5))) : Nat) : Int))) - (Int.toNat x23)) (64 : Nat))) ≤ (List.length p)) ∧
 (((0 : Nat) + (Min.min ((l - (Int.toNat (((Min.min l ((64 : Nat) - (Int.toNat x5))) : Nat) : Int))) - (Int.toNat x23)) (64 : Nat))) ≤ (List.length ys28))) ∧
 (K (Go.Sx.SV.tup [(Go.Sx.SV.int Go.IntKind.i64 (Go.Sx.A.sym x0)), (Go.Sx.SV.val Go.Value.nilIface)]) (Go.Sx.memL [((2 : Nat), (Go.Sx.Reg.mk Bool.true (Go.Sx.Ct.ints Go.IntKind.u32 Go.Sx.kL))), ((9 : Nat), (Go.Sx.Reg.mk Bool.false (Go.Sx.Ct.segs [(Go.Sx.Sg.cells [(Go.Sx.SV.int Go.IntKind.u32 (Go.Sx.A.sym (Go.Sx.S8.a H27))), (Go.Sx.SV.int Go.IntKind.u32 (Go.Sx.A.sym (Go.Sx.S8.b H27))), (Go.Sx.SV.int Go.IntKind.u32 (Go.Sx.A.sym (Go.Sx.S8.c H27))), (Go.Sx.SV.int Go.IntKind.u32 (Go.Sx.A.sym (Go.Sx.S8.d H27))), (Go.Sx.SV.int Go.IntKind.u32 (Go.Sx.A.sym (Go.Sx.S8.e H27))), (Go.Sx.SV.int Go.IntKind.u32 (Go.Sx.A.sym (Go.Sx.S8.f H27))), (Go.Sx.SV.int Go.IntKind.u32 (Go.Sx.A.sym (Go.Sx.S8.g H27))), (Go.Sx.SV.int Go.IntKind.u32 (Go.Sx.A.sym (Go.Sx.S8.h H27)))]), (Go.Sx.Sg.ints Go.IntKind.u8 (64 : Nat) (Go.Sx.splice ys28 (0 : Nat) (List.take (Min.min ((l - (Int.toNat (((Min.min l ((64 : Nat) - (Int.toNat x5))) : Nat) : Int))) - (Int.toNat x23)) (64 : Nat)) (List.drop ((if (c = (Int.toNat (((Min.min l ((64 : Nat) - (Int.toNat x5))) : Nat) : Int))) then (0 : Nat) else ((Int.toNat (((Min.min l ((64 : Nat) - (Int.toNat x5))) : Nat) : Int)) * (1 : Nat))) + (if ((c - (Int.toNat (((Min.min l ((64 : Nat) - (Int.toNat x5))) : Nat) : Int))) = (Int.toNat x23)) then (0 : Nat) else ((Int.toNat x23) * (1 : Nat)))) p)))), (Go.Sx.Sg.cells [(Go.Sx.SV.int Go.IntKind.i64 (Go.Sx.A.sym (((Min.min ((l - (Int.toNat (((Min.min l ((64 : Nat) - (Int.toNat x5))) : Nat) : Int))) - (Int.toNat x23)) (64 : Nat)) : Nat) : Int))), (Go.Sx.SV.int Go.IntKind.u64 (Go.Sx.A.sym x3)), (Go.Sx.SV.bool (Go.Sx.B.lit Bool.false))])]))), ((17 : Nat), (Go.Sx.Reg.mk Bool.true (Go.Sx.Ct.ints Go.IntKind.u8 p)))])))) ∧
 (((decide (x29 > (0 : Int))) = Bool.false) → (K (Go.Sx.SV.tup [(Go.Sx.SV.int Go.IntKind.i64 (Go.Sx.A.sym x0)), (Go.Sx.SV.val Go.Value.nilIface)]) (Go.Sx.memL [((2 : Nat), (Go.Sx.Reg.mk Bool.true (Go.Sx.Ct.ints Go.IntKind.u32 Go.Sx.kL))), ((9 : Nat), (Go.Sx.Reg.mk Bool.false (Go.Sx.Ct.segs [(Go.Sx.Sg.cells [(Go.Sx.SV.int Go.IntKind.u32 (Go.Sx.A.sym (Go.Sx.S8.a H27))), (Go.Sx.SV.int Go.IntKind.u32 (Go.Sx.A.sym (Go.Sx.S8.b H27))), (Go.Sx.SV.int Go.IntKind.u32 (Go.Sx.A.sym (Go.Sx.S8.c H27))), (Go.Sx.SV.int Go.IntKind.u32 (Go.Sx.A.sym (Go.Sx.S8.d H27))), (Go.Sx.SV.int Go.IntKind.u32 (Go.Sx.A.sym (Go.Sx.S8.e H27))), (Go.Sx.SV.int Go.IntKind.u32 (Go.Sx.A.sym (Go.Sx.S8.f H27))), (Go.Sx.SV.int Go.IntKind.u32 (Go.Sx.A.sym (Go.Sx.S8.g H27))), (Go.Sx.SV.int Go.IntKind.u32 (Go.Sx.A.sym (Go.Sx.S8.h H27)))]), (Go.Sx.Sg.ints Go.IntKind.u8 (64 : Nat) ys28), (Go.Sx.Sg.cells [(Go.Sx.SV.int Go.IntKind.i64 (Go.Sx.A.sym x7)), (Go.Sx.SV.int Go.IntKind.u64 (Go.Sx.A.sym x3)), (Go.Sx.SV.bool (Go.Sx.B.lit Bool.false))])]))), ((17 : Nat), (Go.Sx.Reg.mk Bool.true (Go.Sx.Ct.ints Go.IntKind.u8 p)))]))))))))))))))))))))) ∧
 (((decide (x21 ≥ (64 : Int))) = Bool.false) → (∀ (x30 : Int), ((x30 = (((l - (Int.toNat (((Min.min l ((64 : Nat) - (Int.toNat x5))) : Nat) : Int))) : Nat) : Int)) → ((((decide (x30 > (0 : Int))) = Bool.true) → (((((if (c = (Int.toNat (((Min.min l ((64 : Nat) - (Int.toNat x5))) : Nat) : Int))) then (0 : Nat) else ((Int.toNat (((Min.min l ((64 : Nat) - (Int.toNat x5))) : Nat) : Int)) * (1 : Nat))) + (Min.min (l - (Int.toNat (((Min.min l ((64 : Nat) - (Int.toNat x5))) : Nat) : Int))) (64 : Nat))) ≤ (List.length p)) ∧
 (((0 : Nat) + (Min.min (l - (Int.toNat (((Min.min l ((64 : Nat) - (Int.toNat x5))) : Nat) : Int))) (64 : Nat))) ≤ (List.length (Go.Sx.splice xs (if ((64 : Nat) = (Int.toNat x5)) then (0 : Nat) else ((Int.toNat x5) * (1 : Nat))) (List.take (Min.min l ((64 : Nat) - (Int.toNat x5))) (List.drop (0 : Nat) p)))))) ∧
 (K (Go.Sx.SV.tup [(Go.Sx.SV.int Go.IntKind.i64 (Go.Sx.A.sym x0)), (Go.Sx.SV.val Go.Value.nilIface)]) (Go.Sx.memL [((2 : Nat), (Go.Sx.Reg.mk Bool.true (Go.Sx.Ct.ints Go.IntKind.u32 Go.Sx.kL))), ((9 : Nat), (Go.Sx.Reg.mk Bool.false (Go.Sx.Ct.segs [(Go.Sx.Sg.cells [(Go.Sx.SV.int Go.IntKind.u32 (Go.Sx.A.sym (Go.Sx.S8.a H))), (Go.Sx.SV.int Go.IntKind.u32 (Go.Sx.A.sym (Go.Sx.S8.b H))), (Go.Sx.SV.int Go.IntKind.u32 (Go.Sx.A.sym (Go.Sx.S8.c H))), (Go.Sx.SV.int Go.IntKind.u32 (Go.Sx.A.sym (Go.Sx.S8.d H))), (Go.Sx.SV.int Go.IntKind.u32 (Go.Sx.A.sym (Go.Sx.S8.e H))), (Go.Sx.SV.int Go.IntKind.u32 (Go.Sx.A.sym (Go.Sx.S8.f H))), (Go.Sx.SV.int Go.IntKind.u32 (Go.Sx.A.sym (Go.Sx.S8.g H))), (Go.Sx.SV.int Go.IntKind.u32 (Go.Sx.A.sym (Go.Sx.S8.h H)))]), (Go.Sx.Sg.ints Go.IntKind.u8 (64 : Nat) (Go.Sx.splice (Go.Sx.splice xs (if ((64 : Nat) = (Int.toNat x5)) then (0 : Nat) else ((Int.toNat x5) * (1 : Nat))) (List.take (Min.min l ((64 : Nat) - (Int.toNat x5))) (List.drop (0 : Nat) p))) (0 : Nat) (List.take (Min.min (l - (Int.toNat (((Min.min l ((64 : Nat) - (Int.toNat x5))) : Nat) : Int))) (64 : Nat)) (List.drop (if (c = (Int.toNat (((Min.min l ((64 : Nat) - (Int.toNat x5))) : Nat) : Int))) then (0 : Nat) else ((Int.toNat (((Min.min l ((64 : Nat) - (Int.toNat x5))) : Nat) : Int)) * (1 : Nat))) p)))), (Go.Sx.Sg.cells [(Go.Sx.SV.int Go.IntKind.i64 (Go.Sx.A.sym (((Min.min (l - (Int.toNat (((Min.min l ((64 : Nat) - (Int.toNat x5))) : Nat) : Int))) (64 : Nat)) : Nat) : Int))), (Go.Sx.SV.int Go.IntKind.u64 (Go.Sx.A.sym x3)), (Go.Sx.SV.bool (Go.Sx.B.lit Bool.false))])]))), ((17 : Nat), (Go.Sx.Reg.mk Bool.true (Go.Sx.Ct.ints Go.IntKind.u8 p)))])))) ∧
 (((decide (x30 > (0 : Int))) = Bool.false) → (K (Go.Sx.SV.tup [(Go.Sx.SV.int Go.IntKind.i64 (Go.Sx.A.sym x0)), (Go.Sx.SV.val Go.Value.nilIface)]) (Go.Sx.memL [((2 : Nat), (Go.Sx.Reg.mk Bool.true (Go.Sx.Ct.ints Go.IntKind.u32 Go.Sx.kL))), ((9 : Nat), (Go.Sx.Reg.mk Bool.false (Go.Sx.Ct.segs [(Go.Sx.Sg.cells [(Go.Sx.SV.int Go.IntKind.u32 (Go.Sx.A.sym (Go.Sx.S8.a H))), (Go.Sx.SV.int Go.IntKind.u32 (Go.Sx.A.sym (Go.Sx.S8.b H))), (Go.Sx.SV.int Go.IntKind.u32 (Go.Sx.A.sym (Go.Sx.S8.c H))), (Go.Sx.SV.int Go.IntKind.u32 (Go.Sx.A.sym (Go.Sx.S8.d H))), (Go.Sx.SV.int Go.IntKind.u32 (Go.Sx.A.sym (Go.Sx.S8.e H))), (Go.Sx.SV.int Go.IntKind.u32 (Go.Sx.A.sym (Go.Sx.S8.f H))), (Go.Sx.SV.int Go.IntKind.u32 (Go.Sx.A.sym (Go.Sx.S8.g H))), (Go.Sx.SV.int Go.IntKind.u32 (Go.Sx.A.sym (Go.Sx.S8.h H)))]), (Go.Sx.Sg.ints Go.IntKind.u8 (64 : Nat) (Go.Sx.splice xs (if ((64 : Nat) = (Int.toNat x5)) then (0 : Nat) else ((Int.toNat x5) * (1 : Nat))) (List.take (Min.min l ((64 : Nat) - (Int.toNat x5))) (List.drop (0 : Nat) p)))), (Go.Sx.Sg.cells [(Go.Sx.SV.int Go.IntKind.i64 (Go.Sx.A.sym x7)), (Go.Sx.SV.int Go.IntKind.u64 (Go.Sx.A.sym x3)), (Go.Sx.SV.bool (Go.Sx.B.lit Bool.false))])]))), ((17 : Nat), (Go.Sx.Reg.mk Bool.true (Go.Sx.Ct.ints Go.IntKind.u8 p)))])))))))))))))))))))))))) ∧
 (((decide (x4 > (0 : Int))) = Bool.false) → (∀ (x31 : Int), ((x31 = ((l : Nat) : Int)) → ((((decide (x31 ≥ (64 : Int))) = Bool.true) → (∀ (x32 : Int), ((x32 = ((l : Nat) : Int)) → (∀ (x33 : Int), ((x33 = (Go.Sx.bandn Go.IntKind.i64 x32 (63 : Int))) → ((((decide (x33 > (65536 : Int))) = Bool.true) → ((((0 : Int) ≤ (65536 : Int)) ∧
 ((65536 : Int) ≤ ((c : Nat) : Int))) ∧
 (((65536 : Nat) ≤ (List.length p)) ∧
 (((Go.Sx.kL = Go.Sx.kL) ∧
 (((List.length (List.take (65536 : Nat) (List.drop (0 : Nat) p))) = (65536 : Nat)) ∧
 (((65536 : Nat) ≤ (c - (0 : Nat))) ∧
 ((Go.Sx.Bytes (List.take (65536 : Nat) (List.drop (0 : Nat) p))) ∧
 ((65536 : Nat) < (1099511627776 : Nat)))))) ∧
 (∀ (H34 : Go.Sx.S8), ((H34 = (Go.Sx.hB (Go.Sx.S8.mk (Go.Sx.S8.a H) (Go.Sx.S8.b H) (Go.Sx.S8.c H) (Go.Sx.S8.d H) (Go.Sx.S8.e H) (Go.Sx.S8.f H) (Go.Sx.S8.g H) (Go.Sx.S8.h H)) (List.take (65536 : Nat) (List.drop (0 : Nat) p)) (1024 : Nat))) → (∀ (ys35 : (List Int)), ((ys35 = xs) → ((((0 : Int) ≤ (65536 : Int)) ∧
 ((65536 : Int) ≤ ((l : Nat) : Int))) ∧
 (∀ (x36 : Int), ((x36 = (Go.IntKind.wrap Go.IntKind.i64 (x33 - (65536 : Int)))) → False))))))))))) ∧
 (((decide (x33 > (65536 : Int))) = Bool.false) → ((((0 : Int) ≤ x33) ∧
 (x33 ≤ ((c : Nat) : Int))) ∧
 ((((0 : Nat) + (((Int.toNat x33) - (0 : Nat)) * (1 : Nat))) ≤ (List.length p)) ∧
 (((Go.Sx.kL = Go.Sx.kL) ∧
 (((List.length (List.take (((Int.toNat x33) - (0 : Nat)) * (1 : Nat)) (List.drop (0 : Nat) p))) = ((Int.toNat x33) - (0 : Nat))) ∧
 ((((Int.toNat x33) - (0 : Nat)) ≤ (c - (0 : Nat))) ∧
 ((Go.Sx.Bytes (List.take (((Int.toNat x33) - (0 : Nat)) * (1 : Nat)) (List.drop (0 : Nat) p))) ∧
 (((Int.toNat x33) - (0 : Nat)) < (1099511627776 : Nat)))))) ∧
 (∀ (H37 : Go.Sx.S8), ((H37 = (Go.Sx.hB (Go.Sx.S8.mk (Go.Sx.S8.a H) (Go.Sx.S8.b H) (Go.Sx.S8.c H) (Go.Sx.S8.d H) (Go.Sx.S8.e H) (Go.Sx.S8.f H) (Go.Sx.S8.g H) (Go.Sx.S8.h H)) (List.take (((Int.toNat x33) - (0 : Nat)) * (1 : Nat)) (List.drop (0 : Nat) p)) (((Int.toNat x33) - (0 : Nat)) / (64 : Nat)))) → (∀ (ys38 : (List Int)), ((ys38 = xs) → ((((0 : Int) ≤ x33) ∧
 (x33 ≤ ((l : Nat) : Int))) ∧
 (∀ (x39 : Int), ((x39 = (((l - (Int.toNat x33)) : Nat) : Int)) → ((((decide (x39 > (0 : Int))) = Bool.true) → (((((if (c = (Int.toNat x33)) then (0 : Nat) else ((Int.toNat x33) * (1 : Nat))) + (Min.min (l - (Int.toNat x33)) (64 : Nat))) ≤ (List.length p)) ∧
 (((0 : Nat) + (Min.min (l - (Int.toNat x33)) (64 : Nat))) ≤ (List.length ys38))) ∧
 (K (Go.Sx.SV.tup [(Go.Sx.SV.int Go.IntKind.i64 (Go.Sx.A.sym x0)), (Go.Sx.SV.val Go.Value.nilIface)]) (Go.Sx.memL [((2 : Nat), (Go.Sx.Reg.mk Bool.true (Go.Sx.Ct.ints Go.IntKind.u32 Go.Sx.kL))), ((9 : Nat), (Go.Sx.Reg.mk Bool.false (Go.Sx.Ct.segs [(Go.Sx.Sg.cells [(Go.Sx.SV.int Go.IntKind.u32 (Go.Sx.A.sym (Go.Sx.S8.a H37))), (Go.Sx.SV.int Go.IntKind.u32 (Go.Sx.A.sym (Go.Sx.S8.b H37))), (Go.Sx.SV.int Go.IntKind.u32 (Go.Sx.A.sym (Go.Sx.S8.c H37))), (Go.Sx.SV.int Go.IntKind.u32 (Go.Sx.A.sym (Go.Sx.S8.d H37))), (Go.Sx.SV.int Go.IntKind.u32 (Go.Sx.A.sym (Go.Sx.S8.e H37))), (Go.Sx.SV.int Go.IntKind.u32 (Go.Sx.A.sym (Go.Sx.S8.f H37))), (Go.Sx.SV.int Go.IntKind.u32 (Go.Sx.A.sym (Go.Sx.S8.g H37))), (Go.Sx.SV.int Go.IntKind.u32 (Go.Sx.A.sym (Go.Sx.S8.h H37)))]), (Go.Sx.Sg.ints Go.IntKind.u8 (64 : Nat) (Go.Sx.splice ys38 (0 : Nat) (List.take (Min.min (l - (Int.toNat x33)) (64 : Nat)) (List.drop (if (c = (Int.toNat x33)) then (0 : Nat) else ((Int.toNat x33) * (1 : Nat))) p)))), (Go.Sx.Sg.cells [(Go.Sx.SV.int Go.IntKind.i64 (Go.Sx.A.sym (((Min.min (l - (Int.toNat x33)) (64 : Nat)) : Nat) : Int))), (Go.Sx.SV.int Go.IntKind.u64 (Go.Sx.A.sym x3)), (Go.Sx.SV.bool (Go.Sx.B.lit Bool.false))])]))), ((17 : Nat), (Go.Sx.Reg.mk Bool.true (Go.Sx.Ct.ints Go.IntKind.u8 p)))])))) ∧
 (((decide (x39 > (0 : Int))) = Bool.false) → (K (Go.Sx.SV.tup [(Go.Sx.SV.int Go.IntKind.i64 (Go.Sx.A.sym x0)), (Go.Sx.SV.val Go.Value.nilIface)]) (Go.Sx.memL [((2 : Nat), (Go.Sx.Reg.mk Bool.true (Go.Sx.Ct.ints Go.IntKind.u32 Go.Sx.kL))), ((9 : Nat), (Go.Sx.Reg.mk Bool.false (Go.Sx.Ct.segs [(Go.Sx.Sg.cells [(Go.Sx.SV.int Go.IntKind.u32 (Go.Sx.A.sym (Go.Sx.S8.a H37))), (Go.Sx.SV.int Go.IntKind.u32 (Go.Sx.A.sym (Go.Sx.S8.b H37))), (Go.Sx.SV.int Go.IntKind.u32 (Go.Sx.A.sym (Go.Sx.S8.c H37))), (Go.Sx.SV.int Go.IntKind.u32 (Go.Sx.A.sym (Go.Sx.S8.d H37))), (Go.Sx.SV.int Go.IntKind.u32 (Go.Sx.A.sym (Go.Sx.S8.e H37))), (Go.Sx.SV.int Go.IntKind.u32 (Go.Sx.A.sym (Go.Sx.S8.f H37))), (Go.Sx.SV.int Go.IntKind.u32 (Go.Sx.A.sym (Go.Sx.S8.g H37))), (Go.Sx.SV.int Go.IntKind.u32 (Go.Sx.A.sym (Go.Sx.S8.h H37)))]), (Go.Sx.Sg.ints Go.IntKind.u8 (64 : Nat) ys38), (Go.Sx.Sg.cells [(Go.Sx.SV.int Go.IntKind.i64 (Go.Sx.A.sym nx)), (Go.Sx.SV.int Go.IntKind.u64 (Go.Sx.A.sym x3)), (Go.Sx.SV.bool (Go.Sx.B.lit Bool.false))])]))), ((17 : Nat), (Go.Sx.Reg.mk Bool.true (Go.Sx.Ct.ints Go.IntKind.u8 p)))]))))))))))))))))))))) ∧
 (((decide (x31 ≥ (64 : Int))) = Bool.false) → (∀ (x40 : Int), ((x40 = ((l : Nat) : Int)) → ((((decide (x40 > (0 : Int))) = Bool.true) → (((((0 : Nat) + (Min.min l (64 : Nat))) ≤ (List.length p)) ∧
 (((0 : Nat) + (Min.min l (64 : Nat))) ≤ (List.length xs))) ∧
 (K (Go.Sx.SV.tup [(Go.Sx.SV.int Go.IntKind.i64 (Go.Sx.A.sym x0)), (Go.Sx.SV.val Go.Value.nilIface)]) (Go.Sx.memL [((2 : Nat), (Go.Sx.Reg.mk Bool.true (Go.Sx.Ct.ints Go.IntKind.u32 Go.Sx.kL))), ((9 : Nat), (Go.Sx.Reg.mk Bool.false (Go.Sx.Ct.segs [(Go.Sx.Sg.cells [(Go.Sx.SV.int Go.IntKind.u32 (Go.Sx.A.sym (Go.Sx.S8.a H))), (Go.Sx.SV.int Go.IntKind.u32 (Go.Sx.A.sym (Go.Sx.S8.b H))), (Go.Sx.SV.int Go.IntKind.u32 (Go.Sx.A.sym (Go.Sx.S8.c H))), (Go.Sx.SV.int Go.IntKind.u32 (Go.Sx.A.sym (Go.Sx.S8.d H))), (Go.Sx.SV.int Go.IntKind.u32 (Go.Sx.A.sym (Go.Sx.S8.e H))), (Go.Sx.SV.int Go.IntKind.u32 (Go.Sx.A.sym (Go.Sx.S8.f H))), (Go.Sx.SV.int Go.IntKind.u32 (Go.Sx.A.sym (Go.Sx.S8.g H))), (Go.Sx.SV.int Go.IntKind.u32 (Go.Sx.A.sym (Go.Sx.S8.h H)))]), (Go.Sx.Sg.ints Go.IntKind.u8 (64 : Nat) (Go.Sx.splice xs (0 : Nat) (List.take (Min.min l (64 : Nat)) (List.drop (0 : Nat) p)))), (Go.Sx.Sg.cells [(Go.Sx.SV.int Go.IntKind.i64 (Go.Sx.A.sym (((Min.min l (64 : Nat)) : Nat) : Int))), (Go.Sx.SV.int Go.IntKind.u64 (Go.Sx.A.sym x3)), (Go.Sx.SV.bool (Go.Sx.B.lit Bool.false))])]))), ((17 : Nat), (Go.Sx.Reg.mk Bool.true (Go.Sx.Ct.ints Go.IntKind.u8 p)))])))) ∧
 (((decide (x40 > (0 : Int))) = Bool.false) → (K (Go.Sx.SV.tup [(Go.Sx.SV.int Go.IntKind.i64 (Go.Sx.A.sym x0)), (Go.Sx.SV.val Go.Value.nilIface)]) (Go.Sx.memL [((2 : Nat), (Go.Sx.Reg.mk Bool.true (Go.Sx.Ct.ints Go.IntKind.u32 Go.Sx.kL))), ((9 : Nat), (Go.Sx.Reg.mk Bool.false (Go.Sx.Ct.segs [(Go.Sx.Sg.cells [(Go.Sx.SV.int Go.IntKind.u32 (Go.Sx.A.sym (Go.Sx.S8.a H))), (Go.Sx.SV.int Go.IntKind.u32 (Go.Sx.A.sym (Go.Sx.S8.b H))), (Go.Sx.SV.int Go.IntKind.u32 (Go.Sx.A.sym (Go.Sx.S8.c H))), (Go.Sx.SV.int Go.IntKind.u32 (Go.Sx.A.sym (Go.Sx.S8.d H))), (Go.Sx.SV.int Go.IntKind.u32 (Go.Sx.A.sym (Go.Sx.S8.e H))), (Go.Sx.SV.int Go.IntKind.u32 (Go.Sx.A.sym (Go.Sx.S8.f H))), (Go.Sx.SV.int Go.IntKind.u32 (Go.Sx.A.sym (Go.Sx.S8.g H))), (Go.Sx.SV.int Go.IntKind.u32 (Go.Sx.A.sym (Go.Sx.S8.h H)))]), (Go.Sx.Sg.ints Go.IntKind.u8 (64 : Nat) xs), (Go.Sx.Sg.cells [(Go.Sx.SV.int Go.IntKind.i64 (Go.Sx.A.sym nx)), (Go.Sx.SV.int Go.IntKind.u64 (Go.Sx.A.sym x3)), (Go.Sx.SV.bool (Go.Sx.B.lit Bool.false))])]))), ((17 : Nat), (Go.Sx.Reg.mk Bool.true (Go.Sx.Ct.ints Go.IntKind.u8 p)))]))))))))))))))))))))))) := by kernel_rfl
end Go.Sx

/- A whole number of blocks. -/
namespace Go.Sx
open Go
theorem bandn_63 {n : Nat} (h : n < 2 ^ 40) : bandn .i64 (n : Int) 63 = ((n / 64 * 64 : Nat) : Int) := by
  have e : (BitVec.ofNat 64 n &&& ~~~(63#64)).toNat = n / 64 * 64 := by
    apply Nat.eq_of_testBit_eq
    intro i
    have hn : n / 64 * 64 = (n >>> 6) <<< 6 := by rw [Nat.shiftRight_eq_div_pow, Nat.shiftLeft_eq]
    rw [hn, Nat.testBit_shiftLeft, Nat.testBit_shiftRight]
    rw [BitVec.testBit_toNat, BitVec.getLsbD_and, BitVec.getLsbD_not, BitVec.getLsbD_ofNat]
    by_cases hi : i < 64
    · have h63 : (63#64 : BitVec 64).getLsbD i = decide (i < 6) := by
        have : ∀ j : Fin 64, (63#64 : BitVec 64).getLsbD j.val = decide (j.val < 6) := by decide
        exact this ⟨i, hi⟩
      rw [h63]
      by_cases h6 : i < 6
      · simp [hi, h6]; omega
      · simp [hi, h6, show 6 ≤ i by omega, show 6 + (i - 6) = i by omega]
    · have : n.testBit i = false := Nat.testBit_lt_two_pow (Nat.lt_of_lt_of_le h (Nat.pow_le_pow_right (by omega) (by omega)))
      simp [hi]
      intro _
      rw [show 6 + (i - 6) = i by omega]
      exact this
  have e1 : BitVec.ofInt 64 (n : Int) = BitVec.ofNat 64 n := by simp
  show IntKind.i64.wrap ((BitVec.ofInt 64 (n : Int) &&& ~~~(63#64)).toNat : Nat) = _
  rw [e1, e]
  exact wrap64 (by omega) (by omega)
end Go.Sx

/- Digest.Write: what it computes. -/
namespace Go.Sx
open Go Go.Proofs
set_option maxRecDepth 100000
set_option maxHeartbeats 4000000

theorem S8.eta (H : S8) : S8.mk H.a H.b H.c H.d H.e H.f H.g H.h = H := rfl

theorem write_walk (M : List Int) (H : S8) (xs : List Int) (nx len : Int) (p : List Int) (l c : Nat) (K : SV → Mem → Prop) (hA : Abs M H xs nx len) (hp : Bytes p) (hl : p.length = l) (hc : l ≤ c) (hbig : l ≤ 65536) (hM : M.length < 2 ^ 40) (hup : KUp K)
    (hK : ∀ H' x' nx' len', Abs (M ++ p) H' x' nx' len' → K (.tup [.int .i64 (.sym (l : Int)), .val .nilIface]) (memL [(2, ⟨true, .ints .u32 kL⟩), (9, dgR false H' x' nx' len'), (17, ⟨true, .ints .u8 p⟩)])) :
    execF cxWrite u1 Tryd.f24 64 [.ptr 9 (.lit 0), .slice 17 (.lit 0) (.sym l) (.sym c)] (memL [(2, ⟨true, .ints .u32 kL⟩), (9, dgR false H xs nx len), (17, ⟨true, .ints .u8 p⟩)]) K := by
  rw [vc_write]
  have hnx := hA.nx
  have hlen := hA.len
  have hxl := hA.xl
  subst hnx
  rintro x0 rfl x1 rfl x2 rfl x3 hx3 x4 rfl
  rw [wrapu64 (x := (l : Int)) (by omega) (by omega), hlen, wrapu64 (by omega) (by omega)] at hx3
  refine ⟨fun hpos => ?_, fun hpos => ?_⟩
  · rintro x5 rfl
    simp only [decide_eq_true_eq] at hpos
    simp only [Int.toNat_natCast, Nat.mul_one, List.drop_zero, Nat.zero_add, Nat.sub_zero, S8.eta]
    rw [if_neg (by omega)]
    generalize hr : M.length % 64 = r at *
    generalize hn1 : min l (64 - r) = n1
    refine ⟨⟨by omega, by omega⟩, ⟨by omega, by omega⟩, ?_⟩
    rintro x6 rfl x7 hx7 x8 rfl
    rw [wrap64 (by omega) (by omega)] at hx7
    have hn1l : n1 ≤ l := by omega
    have e0 : ∀ n, p.drop n1 = (p.drop n1).take n ++ p.drop (n1 + n) := fun n => by
      rw [← List.drop_drop, List.take_append_drop]
    refine ⟨fun hf => ?_, fun hf => ?_⟩
    · simp only [beq_iff_eq] at hf
      obtain ⟨hx, A1⟩ := hA.full (q := p.take n1) (hp.take _) (by rw [hr]; simp; omega)
      rw [hr] at hx A1
      have hsl : (splice xs r (p.take n1)).length = 64 := A1.xl
      rw [List.take_of_length_le (l := splice xs r (p.take n1)) (by omega)]
      have hby : Bytes (splice xs r (p.take n1)) := by rw [hx]; exact (hA.bytes.drop _).append (hp.take _)
      refine ⟨by omega, ⟨trivial, by omega, by omega, hby, by omega⟩, ?_⟩
      rintro H9 hH9
      rw [← hH9] at A1
      rintro ys10 rfl
      refine ⟨⟨by omega, by omega⟩, ?_⟩
      rintro x10 rfl
      have hpl : (p.take n1).length = n1 := by simp; omega
      rw [hpl] at A1
      have hm0 : (M ++ p.take n1).length % 64 = 0 := by simp; omega
      refine ⟨fun hge => ?_, fun hge => ?_⟩
      · simp only [decide_eq_true_eq] at hge
        rw [if_neg (by omega : ¬ c = n1)]
        rintro x11 rfl x12 hx12
        rw [bandn_63 (by omega)] at hx12
        obtain ⟨n2, hn2⟩ : ∃ n2, n2 = (l - n1) / 64 * 64 := ⟨_, rfl⟩
        rw [← hn2] at hx12
        subst hx12
        simp only [Int.toNat_natCast]
        refine ⟨fun hbad => ?_, fun _ => ?_⟩
        · simp only [decide_eq_true_eq] at hbad
          omega
        · have hq : ((p.drop n1).take n2).length = n2 := by simp; omega
          refine ⟨by omega, by omega, ⟨trivial, hq, by omega, (hp.drop _).take _, by omega⟩, ?_⟩
          rintro H15 hH15
          have A2 := A1.blocks (q := (p.drop n1).take n2) ((hp.drop _).take _) hm0 (by rw [hq]; omega)
          rw [hq, ← hH15] at A2
          rintro ys15 rfl
          refine ⟨by omega, ?_⟩
          rintro x16 rfl
          have hlenM : (M ++ p.take n1 ++ (p.drop n1).take n2).length = M.length + n1 + n2 := by simp; omega
          refine ⟨fun hgt => ?_, fun hgt => ?_⟩
          · simp only [decide_eq_true_eq] at hgt
            rw [if_neg (by omega : ¬ c - n1 = n2), Nat.min_eq_left (by omega)]
            rw [List.take_of_length_le (l := p.drop (n1 + n2)) (by simp; omega)]
            have A3 := A2.part (q := p.drop (n1 + n2)) (hp.drop _) (by rw [hlenM]; simp; omega)
            have hq3 : (p.drop (n1 + n2)).length = l - n1 - n2 := by simp; omega
            refine ⟨⟨by omega, by omega⟩, ?_⟩
            have : M ++ p.take n1 ++ (p.drop n1).take n2 ++ p.drop (n1 + n2) = M ++ p := by
              rw [List.append_assoc, List.append_assoc, ← e0 n2, List.take_append_drop]
            rw [this, hlenM, hq3, show (M.length + n1 + n2) % 64 = 0 by omega, Nat.zero_add] at A3
            have := hK _ _ _ _ A3
            rw [show x3 = ((M.length + n1 + n2 + (l - n1 - n2) : Nat) : Int) by omega]
            exact this
          · simp only [decide_eq_false_iff_not] at hgt
            have : M ++ p.take n1 ++ (p.drop n1).take n2 = M ++ p := by
              have h2 := e0 n2
              rw [List.drop_of_length_le (i := n1 + n2) (by omega), List.append_nil] at h2
              rw [← h2, List.append_assoc, List.take_append_drop]
            rw [this] at A2
            have lit0 := hK _ _ _ _ A2
            rw [show x3 = (((M ++ p.take n1).length + n2 : Nat) : Int) by simp; omega]
            (refine KUp.gen hup ?_ ?_ lit0 <;> rfl)
      · simp only [decide_eq_false_iff_not] at hge
        rintro x17 rfl
        refine ⟨fun hgt => ?_, fun hgt => ?_⟩
        · simp only [decide_eq_true_eq] at hgt
          rw [if_neg (by omega : ¬ c = n1), Nat.min_eq_left (by omega)]
          rw [List.take_of_length_le (l := p.drop n1) (by simp; omega)]
          have A3 := A1.part (q := p.drop n1) (hp.drop _) (by rw [hm0]; simp; omega)
          have hq3 : (p.drop n1).length = l - n1 := by simp; omega
          refine ⟨⟨by omega, by omega⟩, ?_⟩
          rw [List.append_assoc, List.take_append_drop, hm0, hq3, Nat.zero_add] at A3
          have := hK _ _ _ _ A3
          rw [show x3 = (((M ++ p.take n1).length + (l - n1) : Nat) : Int) by simp; omega]
          exact this
        · simp only [decide_eq_false_iff_not] at hgt
          have hpp : p.take n1 = p := List.take_of_length_le (by omega)
          rw [hpp] at A1 ⊢
          have lit0 := hK _ _ _ _ A1
          rw [show x3 = ((M.length + n1 : Nat) : Int) by omega]
          (refine KUp.gen hup ?_ ?_ lit0 <;> rfl)
    · simp only [beq_eq_false_iff_ne, ne_eq] at hf
      obtain rfl : n1 = l := by omega
      have A1 := hA.part (q := p) hp (by omega)
      rw [hr, hl] at A1
      refine ⟨⟨by omega, by omega⟩, ?_⟩
      rintro x18 rfl
      refine ⟨fun hge => ?_, fun _ => ?_⟩
      · simp only [decide_eq_true_eq] at hge
        omega
      · rintro x23 rfl
        refine ⟨fun hgt => ?_, fun _ => ?_⟩
        · simp only [decide_eq_true_eq] at hgt
          omega
        · rw [List.take_of_length_le (by omega), hx7, hx3]
          have := hK _ _ _ _ A1
          exact this
  · simp only [decide_eq_false_iff_not] at hpos
    have hm0 : M.length % 64 = 0 := by omega
    simp only [Int.toNat_natCast, Nat.mul_one, List.drop_zero, Nat.zero_add, Nat.sub_zero, S8.eta]
    rintro x26 rfl
    refine ⟨fun hge => ?_, fun hge => ?_⟩
    · simp only [decide_eq_true_eq] at hge
      rintro x27 rfl x28 hx28
      rw [bandn_63 (by omega)] at hx28
      obtain ⟨n2, hn2⟩ : ∃ n2, n2 = l / 64 * 64 := ⟨_, rfl⟩
      rw [← hn2] at hx28
      subst hx28
      simp only [Int.toNat_natCast]
      refine ⟨fun hbad => ?_, fun _ => ?_⟩
      · simp only [decide_eq_true_eq] at hbad
        omega
      · have hq : (p.take n2).length = n2 := by simp; omega
        refine ⟨by omega, by omega, ⟨trivial, hq, by omega, hp.take _, by omega⟩, ?_⟩
        rintro H15 hH15
        have A2 := hA.blocks (q := p.take n2) (hp.take _) hm0 (by rw [hq]; omega)
        rw [hq, ← hH15] at A2
        rintro ys38 rfl
        refine ⟨by omega, ?_⟩
        rintro x16 rfl
        have hlenM : (M ++ p.take n2).length = M.length + n2 := by simp; omega
        refine ⟨fun hgt => ?_, fun hgt => ?_⟩
        · simp only [decide_eq_true_eq] at hgt
          rw [if_neg (by omega : ¬ c = n2), Nat.min_eq_left (by omega)]
          rw [List.take_of_length_le (l := p.drop n2) (by simp; omega)]
          have A3 := A2.part (q := p.drop n2) (hp.drop _) (by rw [hlenM]; simp; omega)
          have hq3 : (p.drop n2).length = l - n2 := by simp; omega
          refine ⟨⟨by omega, by omega⟩, ?_⟩
          rw [List.append_assoc, List.take_append_drop, hlenM, hq3, show (M.length + n2) % 64 = 0 by omega, Nat.zero_add] at A3
          have := hK _ _ _ _ A3
          rw [show x3 = ((M.length + n2 + (l - n2) : Nat) : Int) by omega]
          exact this
        · simp only [decide_eq_false_iff_not] at hgt
          rw [List.take_of_length_le (by omega)] at A2
          have := hK _ _ _ _ A2
          rw [show x3 = ((M.length + n2 : Nat) : Int) by omega]
          rw [hm0]
          exact this
    · simp only [decide_eq_false_iff_not] at hge
      rintro x17 rfl
      refine ⟨fun hgt => ?_, fun hgt => ?_⟩
      · simp only [decide_eq_true_eq] at hgt
        rw [Nat.min_eq_left (by omega), List.take_of_length_le (by omega)]
        have A3 := hA.part (q := p) hp (by omega)
        refine ⟨⟨by omega, by omega⟩, ?_⟩
        rw [hm0, hl, Nat.zero_add] at A3
        have := hK _ _ _ _ A3
        rw [hx3]
        exact this
      · simp only [decide_eq_false_iff_not] at hgt
        obtain rfl : p = [] := List.eq_nil_of_length_eq_zero (by omega)
        have := hK H xs ((M.length % 64 : Nat) : Int) x1 (by rw [List.append_nil]; exact hA)
        rw [show x3 = x1 by omega]
        exact this
end Go.Sx

/- The contract of Digest.Write. -/
namespace Go.Sx
open Go Go.Proofs
set_option maxRecDepth 100000
theorem vc_writenil (H : S8) (xs : List Int) (nx len : Int) (K : SV → Mem → Prop) : (execF cxWrite u1 Tryd.f24 64 [.ptr 9 (.lit 0), .val (.slice none 0 0)] (memL [(2, ⟨true, .ints .u32 kL⟩), (9, dgR false H xs nx len)]) K) =
  ((∀ (x0 : Int), ((x0 = len) → (∀ (x1 : Int), ((x1 = (Go.IntKind.wrap Go.IntKind.u64 (x0 + (0 : Int)))) → (∀ (x2 : Int), ((x2 = nx) → ((((decide (x2 > (0 : Int))) = Bool.true) → (∀ (x3 : Int), ((x3 = nx) → ((((0 : Int) ≤ x3) ∧
 (x3 ≤ (64 : Int))) ∧
 False)))) ∧
 (((decide (x2 > (0 : Int))) = Bool.false) → (K (Go.Sx.SV.tup [(Go.Sx.SV.int Go.IntKind.i64 (Go.Sx.A.lit (0 : Int))), (Go.Sx.SV.val Go.Value.nilIface)]) (Go.Sx.memL [((2 : Nat), (Go.Sx.Reg.mk Bool.true (Go.Sx.Ct.ints Go.IntKind.u32 Go.Sx.kL))), ((9 : Nat), (Go.Sx.Reg.mk Bool.false (Go.Sx.Ct.segs [(Go.Sx.Sg.cells [(Go.Sx.SV.int Go.IntKind.u32 (Go.Sx.A.sym (Go.Sx.S8.a H))), (Go.Sx.SV.int Go.IntKind.u32 (Go.Sx.A.sym (Go.Sx.S8.b H))), (Go.Sx.SV.int Go.IntKind.u32 (Go.Sx.A.sym (Go.Sx.S8.c H))), (Go.Sx.SV.int Go.IntKind.u32 (Go.Sx.A.sym (Go.Sx.S8.d H))), (Go.Sx.SV.int Go.IntKind.u32 (Go.Sx.A.sym (Go.Sx.S8.e H))), (Go.Sx.SV.int Go.IntKind.u32 (Go.Sx.A.sym (Go.Sx.S8.f H))), (Go.Sx.SV.int Go.IntKind.u32 (Go.Sx.A.sym (Go.Sx.S8.g H))), (Go.Sx.SV.int Go.IntKind.u32 (Go.Sx.A.sym (Go.Sx.S8.h H)))]), (Go.Sx.Sg.ints Go.IntKind.u8 (64 : Nat) xs), (Go.Sx.Sg.cells [(Go.Sx.SV.int Go.IntKind.i64 (Go.Sx.A.sym nx)), (Go.Sx.SV.int Go.IntKind.u64 (Go.Sx.A.sym x1)), (Go.Sx.SV.bool (Go.Sx.B.lit Bool.false))])])))]))))))))))) := by kernel_rfl
def gWrite : G0 := fun args l K =>
  match args, l with
  | [.ptr 9 (.lit 0), .slice 17 (.lit 0) (.sym n) (.sym c)], [(2, ⟨true, .ints .u32 ks⟩), (9, ⟨false, .segs [.cells [.int .u32 (.sym h0), .int .u32 (.sym h1), .int .u32 (.sym h2), .int .u32 (.sym h3), .int .u32 (.sym h4), .int .u32 (.sym h5), .int .u32 (.sym h6), .int .u32 (.sym h7)], .ints .u8 64 xs, .cells [.int .i64 (.sym nx), .int .u64 (.sym len), .bool (.lit false)]]⟩), (17, ⟨true, .ints .u8 p⟩)] =>
    ∃ M, (ks = kL ∧ Abs M ⟨h0, h1, h2, h3, h4, h5, h6, h7⟩ xs nx len ∧ Bytes p ∧ p.length = n ∧ n ≤ c ∧ n ≤ 65536 ∧ M.length < 2 ^ 40) ∧
      ∀ H' x' nx' len', Abs (M ++ p) H' x' nx' len' → K (.tup [.int .i64 (.sym n), .val .nilIface]) (memL [(2, ⟨true, .ints .u32 kL⟩), (9, dgR false H' x' nx' len'), (17, ⟨true, .ints .u8 p⟩)])
  | [.ptr 9 (.lit 0), .val (.slice none 0 0)], [(2, ⟨true, .ints .u32 ks⟩), (9, ⟨false, .segs [.cells [.int .u32 (.sym h0), .int .u32 (.sym h1), .int .u32 (.sym h2), .int .u32 (.sym h3), .int .u32 (.sym h4), .int .u32 (.sym h5), .int .u32 (.sym h6), .int .u32 (.sym h7)], .ints .u8 64 xs, .cells [.int .i64 (.sym nx), .int .u64 (.sym len), .bool (.lit false)]]⟩)] =>
    ∃ M, (ks = kL ∧ Abs M ⟨h0, h1, h2, h3, h4, h5, h6, h7⟩ xs nx len ∧ M.length % 64 = 0 ∧ M.length < 2 ^ 40) ∧
      ∀ H' x' nx' len', Abs M H' x' nx' len' → K (.tup [.int .i64 (.lit 0), .val .nilIface]) (memL [(2, ⟨true, .ints .u32 kL⟩), (9, dgR false H' x' nx' len')])
  | _, _ => False
theorem write_good : Good gWrite := by
  constructor
  · intro args l K K' hk h
    unfold gWrite at h ⊢
    split at h
    · obtain ⟨M, h1, h2⟩ := h
      exact ⟨M, h1, fun H' x' nx' len' ha => hk _ _ (h2 H' x' nx' len' ha)⟩
    · obtain ⟨M, h1, h2⟩ := h
      exact ⟨M, h1, fun H' x' nx' len' ha => hk _ _ (h2 H' x' nx' len' ha)⟩
    · exact h.elim
  · intro args l K h
    unfold gWrite at h
    split at h
    · obtain ⟨M, h1, h2⟩ := h
      obtain ⟨H, x, nx, len, ha⟩ := Abs.exists (h1.2.1.bytes.append h1.2.2.1)
      exact ⟨_, _, h2 H x nx len ha⟩
    · obtain ⟨M, h1, h2⟩ := h
      exact ⟨_, _, h2 _ _ _ _ h1.2.1⟩
    · exact h.elim
theorem write_ok (args : List SV) (l : List (Nat × Reg)) (K : SV → Mem → Prop) (hup : KUp K) (h : gWrite args l K) : ∃ U, execF cxWrite U Tryd.f24 64 args (memL l) K := by
  refine ⟨u1, ?_⟩
  unfold gWrite at h
  split at h
  · rename_i n c ks h0 h1 h2 h3 h4 h5 h6 h7 xs nx len p
    obtain ⟨M, ⟨hk, k1, k2, k3, k4, k5, k6⟩, k7⟩ := h
    subst hk
    exact write_walk M ⟨h0, h1, h2, h3, h4, h5, h6, h7⟩ xs nx len p n c K k1 k2 k3 k4 k5 k6 hup k7
  · rename_i ks h0 h1 h2 h3 h4 h5 h6 h7 xs nx len
    obtain ⟨M, ⟨hk, k1, k2, k3⟩, k7⟩ := h
    subst hk
    have := vc_writenil ⟨h0, h1, h2, h3, h4, h5, h6, h7⟩ xs nx len K
    unfold dgR i32 at this
    rw [this]
    have e1 := k1.nx
    have e2 := k1.len
    rintro x0 rfl x1 hx1 x2 rfl
    refine ⟨fun hb => ?_, fun _ => ?_⟩
    · simp only [decide_eq_true_eq] at hb
      omega
    · rw [Int.add_zero, wrapu64 (by omega) (by omega)] at hx1
      subst hx1
      exact k7 _ _ _ _ k1
  · exact h.elim
def cWrite : Ef Tryd.prog := mkE mixed 24 Tryd.func24 (by decide) (by kernel_rfl) [1] [.parts dgSh false, .sl 1 true] gWrite write_good write_ok
end Go.Sx

/- Digest.checkSum: its condition. -/
namespace Go.Sx
open Go Go.Proofs
set_option maxRecDepth 100000
def cxCs : Cx Tryd.prog := { rds := [], efs := [cWrite, cBe64, cBe32], eqs := [] }
theorem vc_cs (H : S8) (xs : List Int) (nx len : Int) (K : SV → Mem → Prop) : (execF cxCs u0 Tryd.f38 64 [.ptr 9 (.lit 0)] (memL [(2, ⟨true, .ints .u32 kL⟩), (9, dgR false H xs nx len)]) K) =
  ((∀ (x0 : Int), ((x0 = len) → (∀ (x1 : Int), ((x1 = (Int.tmod x0 (64 : Int))) → ((((decide (x1 < (56 : Int))) = Bool.true) → (∀ (x2 : Int), ((x2 = (Int.tmod x0 (64 : Int))) → (∀ (x3 : Int), ((x3 = (Go.IntKind.wrap Go.IntKind.u64 ((56 : Int) - x2))) → (∀ (x4 : Int), ((x4 = (Go.Sx.shlv Go.IntKind.u64 x0 (3 : Nat))) → (∀ (x5 : Int), ((x5 = (Go.IntKind.wrap Go.IntKind.u64 (x3 + (8 : Int)))) → ((((0 : Int) ≤ x5) ∧
 (x5 ≤ (72 : Int))) ∧
 (∀ (x6 : Int), ((x6 = (Go.IntKind.wrap Go.IntKind.u64 (x3 + (0 : Int)))) → ((((0 : Int) ≤ x6) ∧
 (x6 ≤ ((((Int.toNat x5) - (0 : Nat)) : Nat) : Int))) ∧
 ((((if ((72 : Nat) = (Int.toNat x6)) then (0 : Nat) else ((Int.toNat x6) * (1 : Nat))) + ((((Int.toNat x5) - (0 : Nat)) - (Int.toNat x6)) * (1 : Nat))) ≤ (72 : Nat)) ∧
 ((((8 : Nat) ≤ (((Int.toNat x5) - (0 : Nat)) - (Int.toNat x6))) ∧
 ((8 : Nat) ≤ (List.length (List.take ((((Int.toNat x5) - (0 : Nat)) - (Int.toNat x6)) * (1 : Nat)) (List.drop (if ((72 : Nat) = (Int.toNat x6)) then (0 : Nat) else ((Int.toNat x6) * (1 : Nat))) [(128 : Int), (0 : Int), (0 : Int), (0 : Int), (0 : Int), (0 : Int), (0 : Int), (0 : Int), (0 : Int), (0 : Int), (0 : Int), (0 : Int), (0 : Int), (0 : Int), (0 : Int), (0 : Int), (0 : Int), (0 : Int), (0 : Int), (0 : Int), (0 : Int), (0 : Int), (0 : Int), (0 : Int), (0 : Int), (0 : Int), (0 : Int), (0 : Int), (0 : Int), (0 : Int), (0 : Int), (0 : Int), (0 : Int), (0 : Int), (0 : Int), (0 : Int), (0 : Int), (0 : Int), (0 : Int), (0 : Int), (0 : Int), (0 : Int), (0 : Int), (0 : Int), (0 : Int), (0 : Int), (0 : Int), (0 : Int), (0 : Int), (0 : Int), (0 : Int), (0 : Int), (0 : Int), (0 : Int), (0 : Int), (0 : Int), (0 : Int), (0 : Int), (0 : Int), (0 : Int), (0 : Int), (0 : Int), (0 : Int), (0 : Int), (0 : Int), (0 : Int), (0 : Int), (0 : Int), (0 : Int), (0 : Int), (0 : Int), (0 : Int)]))))) ∧
 (∀ (ys7 : (List Int)), ((ys7 = (Go.Sx.wr8 (List.take ((((Int.toNat x5) - (0 : Nat)) - (Int.toNat x6)) * (1 : Nat)) (List.drop (if ((72 : Nat) = (Int.toNat x6)) then (0 : Nat) else ((Int.toNat x6) * (1 : Nat))) [(128 : Int), (0 : Int), (0 : Int), (0 : Int), (0 : Int), (0 : Int), (0 : Int), (0 : Int), (0 : Int), (0 : Int), (0 : Int), (0 : Int), (0 : Int), (0 : Int), (0 : Int), (0 : Int), (0 : Int), (0 : Int), (0 : Int), (0 : Int), (0 : Int), (0 : Int), (0 : Int), (0 : Int), (0 : Int), (0 : Int), (0 : Int), (0 : Int), (0 : Int), (0 : Int), (0 : Int), (0 : Int), (0 : Int), (0 : Int), (0 : Int), (0 : Int), (0 : Int), (0 : Int), (0 : Int), (0 : Int), (0 : Int), (0 : Int), (0 : Int), (0 : Int), (0 : Int), (0 : Int), (0 : Int), (0 : Int), (0 : Int), (0 : Int), (0 : Int), (0 : Int), (0 : Int), (0 : Int), (0 : Int), (0 : Int), (0 : Int), (0 : Int), (0 : Int), (0 : Int), (0 : Int), (0 : Int), (0 : Int), (0 : Int), (0 : Int), (0 : Int), (0 : Int), (0 : Int), (0 : Int), (0 : Int), (0 : Int), (0 : Int)])) x4)) → (((List.length ys7) = (List.length (List.take ((((Int.toNat x5) - (0 : Nat)) - (Int.toNat x6)) * (1 : Nat)) (List.drop (if ((72 : Nat) = (Int.toNat x6)) then (0 : Nat) else ((Int.toNat x6) * (1 : Nat))) [(128 : Int), (0 : Int), (0 : Int), (0 : Int), (0 : Int), (0 : Int), (0 : Int), (0 : Int), (0 : Int), (0 : Int), (0 : Int), (0 : Int), (0 : Int), (0 : Int), (0 : Int), (0 : Int), (0 : Int), (0 : Int), (0 : Int), (0 : Int), (0 : Int), (0 : Int), (0 : Int), (0 : Int), (0 : Int), (0 : Int), (0 : Int), (0 : Int), (0 : Int), (0 : Int), (0 : Int), (0 : Int), (0 : Int), (0 : Int), (0 : Int), (0 : Int), (0 : Int), (0 : Int), (0 : Int), (0 : Int), (0 : Int), (0 : Int), (0 : Int), (0 : Int), (0 : Int), (0 : Int), (0 : Int), (0 : Int), (0 : Int), (0 : Int), (0 : Int), (0 : Int), (0 : Int), (0 : Int), (0 : Int), (0 : Int), (0 : Int), (0 : Int), (0 : Int), (0 : Int), (0 : Int), (0 : Int), (0 : Int), (0 : Int), (0 : Int), (0 : Int), (0 : Int), (0 : Int), (0 : Int), (0 : Int), (0 : Int), (0 : Int)])))) ∧
 ((((if ((72 : Nat) = (Int.toNat x6)) then (0 : Nat) else ((Int.toNat x6) * (1 : Nat))) + (List.length ys7)) ≤ (72 : Nat)) ∧
 (∀ (ys8 : (List Int)), ((ys8 = (Go.Sx.splice [(128 : Int), (0 : Int), (0 : Int), (0 : Int), (0 : Int), (0 : Int), (0 : Int), (0 : Int), (0 : Int), (0 : Int), (0 : Int), (0 : Int), (0 : Int), (0 : Int), (0 : Int), (0 : Int), (0 : Int), (0 : Int), (0 : Int), (0 : Int), (0 : Int), (0 : Int), (0 : Int), (0 : Int), (0 : Int), (0 : Int), (0 : Int), (0 : Int), (0 : Int), (0 : Int), (0 : Int), (0 : Int), (0 : Int), (0 : Int), (0 : Int), (0 : Int), (0 : Int), (0 : Int), (0 : Int), (0 : Int), (0 : Int), (0 : Int), (0 : Int), (0 : Int), (0 : Int), (0 : Int), (0 : Int), (0 : Int), (0 : Int), (0 : Int), (0 : Int), (0 : Int), (0 : Int), (0 : Int), (0 : Int), (0 : Int), (0 : Int), (0 : Int), (0 : Int), (0 : Int), (0 : Int), (0 : Int), (0 : Int), (0 : Int), (0 : Int), (0 : Int), (0 : Int), (0 : Int), (0 : Int), (0 : Int), (0 : Int), (0 : Int)] (if ((72 : Nat) = (Int.toNat x6)) then (0 : Nat) else ((Int.toNat x6) * (1 : Nat))) ys7)) → ((((0 : Nat) + (((Int.toNat x5) - (0 : Nat)) * (1 : Nat))) ≤ (List.length ys8)) ∧
 (∃ (M9 : (List Int)), (((Go.Sx.kL = Go.Sx.kL) ∧
 ((Go.Sx.Abs M9 (Go.Sx.S8.mk (Go.Sx.S8.a H) (Go.Sx.S8.b H) (Go.Sx.S8.c H) (Go.Sx.S8.d H) (Go.Sx.S8.e H) (Go.Sx.S8.f H) (Go.Sx.S8.g H) (Go.Sx.S8.h H)) xs nx len) ∧
 ((Go.Sx.Bytes (List.take (((Int.toNat x5) - (0 : Nat)) * (1 : Nat)) (List.drop (0 : Nat) ys8))) ∧
 (((List.length (List.take (((Int.toNat x5) - (0 : Nat)) * (1 : Nat)) (List.drop (0 : Nat) ys8))) = ((Int.toNat x5) - (0 : Nat))) ∧
 ((((Int.toNat x5) - (0 : Nat)) ≤ (72 : Nat)) ∧
 ((((Int.toNat x5) - (0 : Nat)) ≤ (65536 : Nat)) ∧
 ((List.length M9) < (1099511627776 : Nat)))))))) ∧
 (∀ (x10 : Go.Sx.S8), (∀ (x11 : (List Int)), (∀ (x12 : Int), (∀ (x13 : Int), ((Go.Sx.Abs (M9 ++ (List.take (((Int.toNat x5) - (0 : Nat)) * (1 : Nat)) (List.drop (0 : Nat) ys8))) x10 x11 x12 x13) → (∀ (ys14 : (List Int)), ((ys14 = x11) → (∀ (x15 : Int), ((x15 = x12) → ((((x15 != (0 : Int)) = Bool.true) → False) ∧
 (((x15 != (0 : Int)) = Bool.false) → (∀ (x16 : Int), ((x16 = (Go.Sx.S8.a x10)) → (((32 : Nat) ≤ (32 : Nat)) ∧
 ((((4 : Nat) ≤ (32 : Nat)) ∧
 ((4 : Nat) ≤ (32 : Nat))) ∧
 (∀ (ys17 : (List Int)), ((ys17 = (Go.Sx.wr4 (List.take (32 : Nat) (List.drop (0 : Nat) [(0 : Int), (0 : Int), (0 : Int), (0 : Int), (0 : Int), (0 : Int), (0 : Int), (0 : Int), (0 : Int), (0 : Int), (0 : Int), (0 : Int), (0 : Int), (0 : Int), (0 : Int), (0 : Int), (0 : Int), (0 : Int), (0 : Int), (0 : Int), (0 : Int), (0 : Int), (0 : Int), (0 : Int), (0 : Int), (0 : Int), (0 : Int), (0 : Int), (0 : Int), (0 : Int), (0 : Int), (0 : Int)])) x16)) → (((List.length ys17) = (32 : Nat)) ∧
 ((((0 : Nat) + (List.length ys17)) ≤ (32 : Nat)) ∧
 (∀ (ys18 : (List Int)), ((ys18 = (Go.Sx.splice [(0 : Int), (0 : Int), (0 : Int), (0 : Int), (0 : Int), (0 : Int), (0 : Int), (0 : Int), (0 : Int), (0 : Int), (0 : Int), (0 : Int), (0 : Int), (0 : Int), (0 : Int), (0 : Int), (0 : Int), (0 : Int), (0 : Int), (0 : Int), (0 : Int), (0 : Int), (0 : Int), (0 : Int), (0 : Int), (0 : Int), (0 : Int), (0 : Int), (0 : Int), (0 : Int), (0 : Int), (0 : Int)] (0 : Nat) ys17)) → (∀ (x19 : Int), ((x19 = (Go.Sx.S8.b x10)) → (((32 : Nat) ≤ (List.length ys18)) ∧
 ((((4 : Nat) ≤ (28 : Nat)) ∧
 ((4 : Nat) ≤ (List.length (List.take (28 : Nat) (List.drop (4 : Nat) ys18))))) ∧
 (∀ (ys20 : (List Int)), ((ys20 = (Go.Sx.wr4 (List.take (28 : Nat) (List.drop (4 : Nat) ys18)) x19)) → (((List.length ys20) = (List.length (List.take (28 : Nat) (List.drop (4 : Nat) ys18)))) ∧
 ((((4 : Nat) + (List.length ys20)) ≤ (List.length ys18)) ∧
 (∀ (ys21 : (List Int)), ((ys21 = (Go.Sx.splice ys18 (4 : Nat) ys20)) → (∀ (x22 : Int), ((x22 = (Go.Sx.S8.c x10)) → (((32 : Nat) ≤ (List.length ys21)) ∧
 ((((4 : Nat) ≤ (24 : Nat)) ∧
 ((4 : Nat) ≤ (List.length (List.take (24 : Nat) (List.drop (8 : Nat) ys21))))) ∧
 (∀ (ys23 : (List Int)), ((ys23 = (Go.Sx.wr4 (List.take (24 : Nat) (List.drop (8 : Nat) ys21)) x22)) → (((List.length ys23) = (List.length (List.take (24 : Nat) (List.drop (8 : Nat) ys21)))) ∧
 ((((8 : Nat) + (List.length ys23)) ≤ (List.length ys21)) ∧
 (∀ (ys24 : (List Int)), ((ys24 = (Go.Sx.splice ys21 (8 : Nat) ys23)) → (∀ (x25 : Int), ((x25 = (Go.Sx.S8.d x10)) → (((32 : Nat) ≤ (List.length ys24)) ∧
 ((((4 : Nat) ≤ (20 : Nat)) ∧
 ((4 : Nat) ≤ (List.length (List.take (20 : Nat) (List.drop (12 : Nat) ys24))))) ∧
 (∀ (ys26 : (List Int)), ((ys26 = (Go.Sx.wr4 (List.take (20 : Nat) (List.drop (12 : Nat) ys24)) x25)) → (((List.length ys26) = (List.length (List.take (20 : Nat) (List.drop (12 : Nat) ys24)))) ∧
 ((((12 : Nat) + (List.length ys26)) ≤ (List.length ys24)) ∧
 (∀ (ys27 : (List Int)), ((ys27 = (Go.Sx.splice ys24 (12 : Nat) ys26)) → (∀ (x28 : Int), ((x28 = (Go.Sx.S8.e x10)) → (((32 : Nat) ≤ (List.length ys27)) ∧
 ((((4 : Nat) ≤ (16 : Nat)) ∧
 ((4 : Nat) ≤ (List.length (List.take (16 : Nat) (List.drop (16 : Nat) ys27))))) ∧
 (∀ (ys29 : (List Int)), ((ys29 = (Go.Sx.wr4 (List.take (16 : Nat) (List.drop (16 : Nat) ys27)) x28)) → (((List.length ys29) = (List.length (List.take (16 : Nat) (List.drop (16 : Nat) ys27)))) ∧
 ((((16 : Nat) + (List.length ys29)) ≤ (List.length ys27)) ∧
 (∀ (ys30 : (List Int)), ((ys30 = (Go.Sx.splice ys27 (16 : Nat) ys29)) → (∀ (x31 : Int), ((x31 = (Go.Sx.S8.f x10)) → (((32 : Nat) ≤ (List.length ys30)) ∧
 ((((4 : Nat) ≤ (12 : Nat)) ∧
 ((4 : Nat) ≤ (List.length (List.take (12 : Nat) (List.drop (20 : Nat) ys30))))) ∧
 (∀ (ys32 : (List Int)), ((ys32 = (Go.Sx.wr4 (List.take (12 : Nat) (List.drop (20 : Nat) ys30)) x31)) → (((List.length ys32) = (List.length (List.take (12 : Nat) (List.drop (20 : Nat) ys30)))) ∧
 ((((20 : Nat) + (List.length ys32)) ≤ (List.length ys30)) ∧
 (∀ (ys33 : (List Int)), ((ys33 = (Go.Sx.splice ys30 (20 : Nat) ys32)) → (∀ (x34 : Int), ((x34 = (Go.Sx.S8.g x10)) → (((32 : Nat) ≤ (List.length ys33)) ∧
 ((((4 : Nat) ≤ (8 : Nat)) ∧
 ((4 : Nat) ≤ (List.length (List.take (8 : Nat) (List.drop (24 : Nat) ys33))))) ∧
 (∀ (ys35 : (List Int)), ((ys35 = (Go.Sx.wr4 (List.take (8 : Nat) (List.drop (24 : Nat) ys33)) x34)) → (((List.length ys35) = (List.length (List.take (8 : Nat) (List.drop (24 : Nat) ys33)))) ∧
 ((((24 : Nat) + (List.length ys35)) ≤ (List.length ys33)) ∧
 (∀ (ys36 : (List Int)), ((ys36 = (Go.Sx.splice ys33 (24 : Nat) ys35)) → (∀ (x37 : Int), ((x37 = (Go.Sx.S8.h x10)) → (((32 : Nat) ≤ (List.length ys36)) ∧
 ((((4 : Nat) ≤ (4 : Nat)) ∧
 ((4 : Nat) ≤ (List.length (List.take (4 : Nat) (List.drop (28 : Nat) ys36))))) ∧
 (∀ (ys38 : (List Int)), ((ys38 = (Go.Sx.wr4 (List.take (4 : Nat) (List.drop (28 : Nat) ys36)) x37)) → (((List.length ys38) = (List.length (List.take (4 : Nat) (List.drop (28 : Nat) ys36)))) ∧
 ((((28 : Nat) + (List.length ys38)) ≤ (List.length ys36)) ∧
 (∀ (ys39 : (List Int)), ((ys39 = (Go.Sx.splice ys36 (28 : Nat) ys38)) → (((32 : Nat) ≤ (List.length ys39)) ∧
 (∀ (x40 : Int), ((x40 = (List.getD ys39 (0 : Nat) (0 : Int))) → (∀ (x41 : Int), ((x41 = (List.getD ys39 (1 : Nat) (0 : Int))) → (∀ (x42 : Int), ((x42 = (List.getD ys39 (2 : Nat) (0 : Int))) → (∀ (x43 : Int), ((x43 = (List.getD ys39 (3 : Nat) (0 : Int))) → (∀ (x44 : Int), ((x44 = (List.getD ys39 (4 : Nat) (0 : Int))) → (∀ (x45 : Int), ((x45 = (List.getD ys39 (5 : Nat) (0 : Int))) → (∀ (x46 : Int), ((x46 = (List.getD ys39 (6 : Nat) (0 : Int))) → (∀ (x47 : Int), ((x47 = (List.getD ys39 (7 : Nat) (0 : Int))) → (∀ (x48 : Int), ((x48 = (List.getD ys39 (8 : Nat) (0 : Int))) → (∀ (x49 : Int), ((x49 = (List.getD ys39 (9 : Nat) (0 : Int))) → (∀ (x50 : Int), ((x50 = (List.getD ys39 (10 : Nat) (0 : Int))) → (∀ (x51 : Int), ((x51 = (List.getD ys39 (11 : Nat) (0 : Int))) → (∀ (x52 : Int), ((x52 = (List.getD ys39 (12 : Nat) (0 : Int))) → (∀ (x53 : Int), ((x53 = (List.getD ys39 (13 : Nat) (0 : Int))) → (∀ (x54 : Int), ((x54 = (List.getD ys39 (14 : Nat) (0 : Int))) → (∀ (x55 : Int), ((x55 = (List.getD ys39 (15 : Nat) (0 : Int))) → (∀ (x56 : Int), ((x56 = (List.getD ys39 (16 : Nat) (0 : Int))) → (∀ (x57 : Int), ((x57 = (List.getD ys39 (17 : Nat) (0 : Int))) → (∀ (x58 : Int), ((x58 = (List.getD ys39 (18 : Nat) (0 : Int))) → (∀ (x59 : Int), ((x59 = (List.getD ys39 (19 : Nat) (0 : Int))) → (∀ (x60 : Int), ((x60 = (List.getD ys39 (20 : Nat) (0 : Int))) → (∀ (x61 : Int), ((x61 = (List.getD ys39 (21 : Nat) (0 : Int))) → (∀ (x62 : Int), ((x62 = (List.getD ys39 (22 : Nat) (0 : Int))) → (∀ (x63 : Int), ((x63 = (List.getD ys39 (23 : Nat) (0 : Int))) → (∀ (x64 : Int), ((x64 = (List.getD ys39 (24 : Nat) (0 : Int))) → (∀ (x65 : Int), ((x65 = (List.getD ys39 (25 : Nat) (0 : Int))) → (∀ (x66 : Int), ((x66 = (List.getD ys39 (26 : Nat) (0 : Int))) → (∀ (x67 : Int), ((x67 = (List.getD ys39 (27 : Nat) (0 : Int))) → (∀ (x68 : Int), ((x68 = (List.getD ys39 (28 : Nat) (0 : Int))) → (∀ (x69 : Int), ((x69 = (List.getD ys39 (29 : Nat) (0 : Int))) → (∀ (x70 : Int), ((x70 = (List.getD ys39 (30 : Nat) (0 : Int))) → (∀ (x71 : Int), ((x71 = (List.getD ys39 (31 : Nat) (0 : Int))) → (K (Go.Sx.SV.agg [(Go.Sx.SV.int Go.IntKind.u8 (Go.Sx.A.sym x40)), (Go.Sx.SV.int Go.IntKind.u8 (Go.Sx.A.sym x41)), (Go.Sx.SV.int Go.IntKind.u8 (Go.Sx.A.sym x42)), (Go.Sx.SV.int Go.IntKind.u8 (Go.Sx.A.sym x43)), (Go.Sx.SV.int Go.IntKind.u8 (Go.Sx.A.sym x44)), (Go.Sx.SV.int Go.IntKind.u8 (Go.Sx.A.sym x45)), (Go.Sx.SV.int Go.IntKind.u8 (Go.Sx.A.sym x46)), (Go.Sx.SV.int Go.IntKind.u8 (Go.Sx.A.sym x47)), (Go.Sx.SV.int Go.IntKind.u8 (Go.Sx.A.sym x48)), (Go.Sx.SV.int Go.IntKind.u8 (Go.Sx.A.sym x49)), (Go.Sx.SV.int Go.IntKind.u8 (Go.Sx.A.sym x50)), (Go.Sx.SV.int Go.IntKind.u8 (Go.Sx.A.sym x51)), (Go.Sx.SV.int Go.IntKind.u8 (Go.Sx.A.sym x52)), (Go.Sx.SV.int Go.IntKind.u8 (Go.Sx.A.sym x53)), (Go.Sx.SV.int Go.IntKind.u8 (Go.Sx.A.sym x54)), (Go.Sx.SV.int Go.IntKind.u8 (Go.Sx.A.sym x55)), (Go.Sx.SV.int Go.IntKind.u8 (Go.Sx.A.sym x56)), (Go.Sx.SV.int Go.IntKind.u8 (Go.Sx.A.sym x57)), (Go.Sx.SV.int Go.IntKind.u8 (Go.Sx.A.sym x58)), (Go.Sx.SV.int Go.IntKind.u8 (Go.Sx.A.sym x59)), (Go.Sx.SV.int Go.IntKind.u8 (Go.Sx.A.sym x60)), (Go.Sx.SV.int Go.IntKind.u8 (Go.Sx.A.sym x61)), (Go.Sx.SV.int Go.IntKind.u8 (Go.Sx.A.sym x62)), (Go.Sx.SV.int Go.IntKind.u8 (Go.Sx.A.sym x63)), (Go.Sx.SV.int Go.IntKind.u8 (Go.Sx.A.sym x64)), (Go.Sx.SV.int Go.IntKind.u8 (Go.Sx.A.sym x65)), (Go.Sx.SV.int Go.IntKind.u8 (Go.Sx.A.sym x66)), (Go.Sx.SV.int Go.IntKind.u8 (Go.Sx.A.sym x67)), (Go.Sx.SV.int Go.IntKind.u8 (Go.Sx.A.sym x68)), (Go.Sx.SV.int Go.IntKind.u8 (Go.Sx.A.sym x69)), (Go.Sx.SV.int Go.IntKind.u8 (Go.Sx.A.sym x70)), (Go.Sx.SV.int Go.IntKind.u8 (Go.Sx.A.sym x71))]) (Go.Sx.memL [((2 : Nat), (Go.Sx.Reg.mk Bool.true (Go.Sx.Ct.ints Go.IntKind.u32 Go.Sx.kL))), ((9 : Nat), (Go.Sx.Reg.mk Bool.false (Go.Sx.Ct.segs [(Go.Sx.Sg.cells [(Go.Sx.SV.int Go.IntKind.u32 (Go.Sx.A.sym (Go.Sx.S8.a x10))), (Go.Sx.SV.int Go.IntKind.u32 (Go.Sx.A.sym (Go.Sx.S8.b x10))), (Go.Sx.SV.int Go.IntKind.u32 (Go.Sx.A.sym (Go.Sx.S8.c x10))), (Go.Sx.SV.int Go.IntKind.u32 (Go.Sx.A.sym (Go.Sx.S8.d x10))), (Go.Sx.SV.int Go.IntKind.u32 (Go.Sx.A.sym (Go.Sx.S8.e x10))), (Go.Sx.SV.int Go.IntKind.u32 (Go.Sx.A.sym (Go.Sx.S8.f x10))), (Go.Sx.SV.int Go.IntKind.u32 (Go.Sx.A.sym (Go.Sx.S8.g x10))), (Go.Sx.SV.int Go.IntKind.u32 (Go.Sx.A.sym (Go.Sx.S8.h x10)))]), (Go.Sx.Sg.ints Go.IntKind.u8 (64 : Nat) ys14), (Go.Sx.Sg.cells [(Go.Sx.SV.int Go.IntKind.i64 (Go.Sx.A.sym x12)), (Go.Sx.SV.int Go.IntKind.u64 (Go.Sx.A.sym x13)), (Go.Sx.SV.bool (Go.Sx.B.lit Bool.false))])]))), ((513 : Nat), (Go.Sx.Reg.mk Bool.false (Go.Sx.Ct.cells [(Go.Sx.SV.int Go.IntKind.u8 (Go.Sx.A.sym x40)), (Go.Sx.SV.int Go.IntKind.u8 (Go.Sx.A.sym x41)), (Go.Sx.SV.int Go.IntKind.u8 (Go.Sx.A.sym x42)), (Go.Sx.SV.int Go.IntKind.u8 (Go.Sx.A.sym x43)), (Go.Sx.SV.int Go.IntKind.u8 (Go.Sx.A.sym x44)), (Go.Sx.SV.int Go.IntKind.u8 (Go.Sx.A.sym x45)), (Go.Sx.SV.int Go.IntKind.u8 (Go.Sx.A.sym x46)), (Go.Sx.SV.int Go.IntKind.u8 (Go.Sx.A.sym x47)), (Go.Sx.SV.int Go.IntKind.u8 (Go.Sx.A.sym x48)), (Go.Sx.SV.int Go.IntKind.u8 (Go.Sx.A.sym x49)), (Go.Sx.SV.int Go.IntKind.u8 (Go.Sx.A.sym x50)), (Go.Sx.SV.int Go.IntKind.u8 (Go.Sx.A.sym x51)), (Go.Sx.SV.int Go.IntKind.u8 (Go.Sx.A.sym x52)), (Go.Sx.SV.int Go.IntKind.u8 (Go.Sx.A.sym x53)), (Go.Sx.SV.int Go.IntKind.u8 (Go.Sx.A.sym x54)), (Go.Sx.SV.int Go.IntKind.u8 (Go.Sx.A.sym x55)), (Go.Sx.SV.int Go.IntKind.u8 (Go.Sx.A.sym x56)), (Go.Sx.SV.int Go.IntKind.u8 (Go.Sx.A.sym x57)), (Go.Sx.SV.int Go.IntKind.u8 (Go.Sx.A.sym x58)), (Go.Sx.SV.int Go.IntKind.u8 (Go.Sx.A.sym x59)), (Go.Sx.SV.int Go.IntKind.u8 (Go.Sx.A.sym x60)), (Go.Sx.SV.int Go.IntKind.u8 (Go.Sx.A.sym x61)), (Go.Sx.SV.int Go.IntKind.u8 (Go.Sx.A.sym x62)), (Go.Sx.SV.int Go.IntKind.u8 (Go.Sx.A.sym x63)), (Go.Sx.SV.int Go.IntKind.u8 (Go.Sx.A.sym x64)), (Go.Sx.SV.int Go.IntKind.u8 (Go.Sx.A.sym x65)), (Go.Sx.SV.int Go.IntKind.u8 (Go.Sx.A.sym x66)), (Go.Sx.SV.int Go.IntKind.u8 (Go.Sx.A.sym x67)), (Go.Sx.SV.int Go.IntKind.u8 (Go.Sx.A.sym x68)), (Go.Sx.SV.int Go.IntKind.u8 (Go.Sx.A.sym x69)), (Go.Sx.SV.int Go.IntKind.u8 (Go.Sx.A.sym x70)), (Go.Sx.SV.int Go.IntKind.u8 (Go.Sx.A.sym x71))]))), ((561 : Nat), (Go.Sx.Reg.mk Bool.false (Go.Sx.Ct.ints Go.IntKind.u8 ys8))), ((817 : Nat), (Go.Sx.Reg.mk Bool.false (Go.Sx.Ct.ints Go.IntKind.u8 ys39)))])))))))))))))))))))))))))))))))))))))))))))))))))))))))))))))))))))))))))))))))))))))))))))))))))))))))))))))))))))))))))))))))))))))))))))))))))))))))))))))))))))))))))))))))))))))) ∧
 (((decide (x1 < (56 : Int))) = Bool.false) → (∀ (x72 : Int), ((x72 = (Int.tmod x0 (64 : Int))) → (∀ (x73 : Int), ((x73 = (Go.IntKind.wrap Go.IntKind.u64 ((120 : Int) - x72))) → (∀ (x74 : Int), ((x74 = (Go.Sx.shlv Go.IntKind.u64 x0 (3 : Nat))) → (∀ (x75 : Int), ((x75 = (Go.IntKind.wrap Go.IntKind.u64 (x73 + (8 : Int)))) → ((((0 : Int) ≤ x75) ∧
 (x75 ≤ (72 : Int))) ∧
 (∀ (x76 : Int), ((x76 = (Go.IntKind.wrap Go.IntKind.u64 (x73 + (0 : Int)))) → ((((0 : Int) ≤ x76) ∧
 (x76 ≤ ((((Int.toNat x75) - (0 : Nat)) : Nat) : Int))) ∧
 ((((if ((72 : Nat) = (Int.toNat x76)) then (0 : Nat) else ((Int.toNat x76) * (1 : Nat))) + ((((Int.toNat x75) - (0 : Nat)) - (Int.toNat x76)) * (1 : Nat))) ≤ (72 : Nat)) ∧
 ((((8 : Nat) ≤ (((Int.toNat x75) - (0 : Nat)) - (Int.toNat x76))) ∧
 ((8 : Nat) ≤ (List.length (List.take ((((Int.toNat x75) - (0 : Nat)) - (Int.toNat x76)) * (1 : Nat)) (List.drop (if ((72 : Nat) = (Int.toNat x76)) then (0 : Nat) else ((Int.toNat x76) * (1 : Nat))) [(128 : Int), (0 : Int), (0 : Int), (0 : Int), (0 : Int), (0 : Int), (0 : Int), (0 : Int), (0 : Int), (0 : Int), (0 : Int), (0 : Int), (0 : Int), (0 : Int), (0 : Int), (0 : Int), (0 : Int), (0 : Int), (0 : Int), (0 : Int), (0 : Int), (0 : Int), (0 : Int), (0 : Int), (0 : Int), (0 : Int), (0 : Int), (0 : Int), (0 : Int), (0 : Int), (0 : Int), (0 : Int), (0 : Int), (0 : Int), (0 : Int), (0 : Int), (0 : Int), (0 : Int), (0 : Int), (0 : Int), (0 : Int), (0 : Int), (0 : Int), (0 : Int), (0 : Int), (0 : Int), (0 : Int), (0 : Int), (0 : Int), (0 : Int), (0 : Int), (0 : Int), (0 : Int), (0 : Int), (0 : Int), (0 : Int), (0 : Int), (0 : Int), (0 : Int), (0 : Int), (0 : Int), (0 : Int), (0 : Int), (0 : Int), (0 : Int), (0 : Int), (0 : Int), (0 : Int), (0 : Int), (0 : Int), (0 : Int), (0 : Int)]))))) ∧
 (∀ (ys77 : (List Int)), ((ys77 = (Go.Sx.wr8 (List.take ((((Int.toNat x75) - (0 : Nat)) - (Int.toNat x76)) * (1 : Nat)) (List.drop (if ((72 : Nat) = (Int.toNat x76)) then (0 : Nat) else ((Int.toNat x76) * (1 : Nat))) [(128 : Int), (0 : Int), (0 : Int), (0 : Int), (0 : Int), (0 : Int), (0 : Int), (0 : Int), (0 : Int), (0 : Int), (0 : Int), (0 : Int), (0 : Int), (0 : Int), (0 : Int), (0 : Int), (0 : Int), (0 : Int), (0 : Int), (0 : Int), (0 : Int), (0 : Int), (0 : Int), (0 : Int), (0 : Int), (0 : Int), (0 : Int), (0 : Int), (0 : Int), (0 : Int), (0 : Int), (0 : Int), (0 : Int), (0 : Int), (0 : Int), (0 : Int), (0 : Int), (0 : Int), (0 : Int), (0 : Int), (0 : Int), (0 : Int), (0 : Int), (0 : Int), (0 : Int), (0 : Int), (0 : Int), (0 : Int), (0 : Int), (0 : Int), (0 : Int), (0 : Int), (0 : Int), (0 : Int), (0 : Int), (0 : Int), (0 : Int), (0 : Int), (0 : Int), (0 : Int), (0 : Int), (0 : Int), (0 : Int), (0 : Int), (0 : Int), (0 : Int), (0 : Int), (0 : Int), (0 : Int), (0 : Int), (0 : Int), (0 : Int)])) x74)) → (((List.length ys77) = (List.length (List.take ((((Int.toNat x75) - (0 : Nat)) - (Int.toNat x76)) * (1 : Nat)) (List.drop (if ((72 : Nat) = (Int.toNat x76)) then (0 : Nat) else ((Int.toNat x76) * (1 : Nat))) [(128 : Int), (0 : Int), (0 : Int), (0 : Int), (0 : Int), (0 : Int), (0 : Int), (0 : Int), (0 : Int), (0 : Int), (0 : Int), (0 : Int), (0 : Int), (0 : Int), (0 : Int), (0 : Int), (0 : Int), (0 : Int), (0 : Int), (0 : Int), (0 : Int), (0 : Int), (0 : Int), (0 : Int), (0 : Int), (0 : Int), (0 : Int), (0 : Int), (0 : Int), (0 : Int), (0 : Int), (0 : Int), (0 : Int), (0 : Int), (0 : Int), (0 : Int), (0 : Int), (0 : Int), (0 : Int), (0 : Int), (0 : Int), (0 : Int), (0 : Int), (0 : Int), (0 : Int), (0 : Int), (0 : Int), (0 : Int), (0 : Int), (0 : Int), (0 : Int), (0 : Int), (0 : Int), (0 : Int), (0 : Int), (0 : Int), (0 : Int), (0 : Int), (0 : Int), (0 : Int), (0 : Int), (0 : Int), (0 : Int), (0 : Int), (0 : Int), (0 : Int), (0 : Int), (0 : Int), (0 : Int), (0 : Int), (0 : Int), (0 : Int)])))) ∧
 ((((if ((72 : Nat) = (Int.toNat x76)) then (0 : Nat) else ((Int.toNat x76) * (1 : Nat))) + (List.length ys77)) ≤ (72 : Nat)) ∧
 (∀ (ys78 : (List Int)), ((ys78 = (Go.Sx.splice [(128 : Int), (0 : Int), (0 : Int), (0 : Int), (0 : Int), (0 : Int), (0 : Int), (0 : Int), (0 : Int), (0 : Int), (0 : Int), (0 : Int), (0 : Int), (0 : Int), (0 : Int), (0 : Int), (0 : Int), (0 : Int), (0 : Int), (0 : Int), (0 : Int), (0 : Int), (0 : Int), (0 : Int), (0 : Int), (0 : Int), (0 : Int), (0 : Int), (0 : Int), (0 : Int), (0 : Int), (0 : Int), (0 : Int), (0 : Int), (0 : Int), (0 : Int), (0 : Int), (0 : Int), (0 : Int), (0 : Int), (0 : Int), (0 : Int), (0 : Int), (0 : Int), (0 : Int), (0 : Int), (0 : Int), (0 : Int), (0 : Int), (0 : Int), (0 : Int), (0 : Int), (0 : Int), (0 : Int), (0 : Int), (0 : Int), (0 : Int), (0 : Int), (0 : Int), (0 : Int), (0 : Int), (0 : Int), (0 : Int), (0 : Int), (0 : Int), (0 : Int), (0 : Int), (0 : Int), (0 : Int), (0 : Int), (0 : Int), (0 : Int)] (if ((72 : Nat) = (Int.toNat x76)) then (0 : Nat) else ((Int.toNat x76) * (1 : Nat))) ys77)) → ((((0 : Nat) + (((Int.toNat x75) - (0 : Nat)) * (1 : Nat))) ≤ (List.length ys78)) ∧
 (∃ (M79 : (List Int)), (((Go.Sx.kL = Go.Sx.kL) ∧
 ((Go.Sx.Abs M79 (Go.Sx.S8.mk (Go.Sx.S8.a H) (Go.Sx.S8.b H) (Go.Sx.S8.c H) (Go.Sx.S8.d H) (Go.Sx.S8.e H) (Go.Sx.S8.f H) (Go.Sx.S8.g H) (Go.Sx.S8.h H)) xs nx len) ∧
 ((Go.Sx.Bytes (List.take (((Int.toNat x75) - (0 : Nat)) * (1 : Nat)) (List.drop (0 : Nat) ys78))) ∧
 (((List.length (List.take (((Int.toNat x75) - (0 : Nat)) * (1 : Nat)) (List.drop (0 : Nat) ys78))) = ((Int.toNat x75) - (0 : Nat))) ∧
 ((((Int.toNat x75) - (0 : Nat)) ≤ (72 : Nat)) ∧
 ((((Int.toNat x75) - (0 : Nat)) ≤ (65536 : Nat)) ∧
 ((List.length M79) < (1099511627776 : Nat)))))))) ∧
 (∀ (x80 : Go.Sx.S8), (∀ (x81 : (List Int)), (∀ (x82 : Int), (∀ (x83 : Int), ((Go.Sx.Abs (M79 ++ (List.take (((Int.toNat x75) - (0 : Nat)) * (1 : Nat)) (List.drop (0 : Nat) ys78))) x80 x81 x82 x83) → (∀ (ys84 : (List Int)), ((ys84 = x81) → (∀ (x85 : Int), ((x85 = x82) → ((((x85 != (0 : Int)) = Bool.true) → False) ∧
 (((x85 != (0 : Int)) = Bool.false) → (∀ (x86 : Int), ((x86 = (Go.Sx.S8.a x80)) → (((32 : Nat) ≤ (32 : Nat)) ∧
 ((((4 : Nat) ≤ (32 : Nat)) ∧
 ((4 : Nat) ≤ (32 : Nat))) ∧
 (∀ (ys87 : (List Int)), ((ys87 = (Go.Sx.wr4 (List.take (32 : Nat) (List.drop (0 : Nat) [(0 : Int), (0 : Int), (0 : Int), (0 : Int), (0 : Int), (0 : Int), (0 : Int), (0 : Int), (0 : Int), (0 : Int), (0 : Int), (0 : Int), (0 : Int), (0 : Int), (0 : Int), (0 : Int), (0 : Int), (0 : Int), (0 : Int), (0 : Int), (0 : Int), (0 : Int), (0 : Int), (0 : Int), (0 : Int), (0 : Int), (0 : Int), (0 : Int), (0 : Int), (0 : Int), (0 : Int), (0 : Int)])) x86)) → (((List.length ys87) = (32 : Nat)) ∧
 ((((0 : Nat) + (List.length ys87)) ≤ (32 : Nat)) ∧
 (∀ (ys88 : (List Int)), ((ys88 = (Go.Sx.splice [(0 : Int), (0 : Int), (0 : Int), (0 : Int), (0 : Int), (0 : Int), (0 : Int), (0 : Int), (0 : Int), (0 : Int), (0 : Int), (0 : Int), (0 : Int), (0 : Int), (0 : Int), (0 : Int), (0 : Int), (0 : Int), (0 : Int), (0 : Int), (0 : Int), (0 : Int), (0 : Int), (0 : Int), (0 : Int), (0 : Int), (0 : Int), (0 : Int), (0 : Int), (0 : Int), (0 : Int), (0 : Int)] (0 : Nat) ys87)) → (∀ (x89 : Int), ((x89 = (Go.Sx.S8.b x80)) → (((32 : Nat) ≤ (List.length ys88)) ∧
 ((((4 : Nat) ≤ (28 : Nat)) ∧
 ((4 : Nat) ≤ (List.length (List.take (28 : Nat) (List.drop (4 : Nat) ys88))))) ∧
 (∀ (ys90 : (List Int)), ((ys90 = (Go.Sx.wr4 (List.take (28 : Nat) (List.drop (4 : Nat) ys88)) x89)) → (((List.length ys90) = (List.length (List.take (28 : Nat) (List.drop (4 : Nat) ys88)))) ∧
 ((((4 : Nat) + (List.length ys90)) ≤ (List.length ys88)) ∧
 (∀ (ys91 : (List Int)), ((ys91 = (Go.Sx.splice ys88 (4 : Nat) ys90)) → (∀ (x92 : Int), ((x92 = (Go.Sx.S8.c x80)) → (((32 : Nat) ≤ (List.length ys91)) ∧
 ((((4 : Nat) ≤ (24 : Nat)) ∧
 ((4 : Nat) ≤ (List.length (List.take (24 : Nat) (List.drop (8 : Nat) ys91))))) ∧
 (∀ (ys93 : (List Int)), ((ys93 = (Go.Sx.wr4 (List.take (24 : Nat) (List.drop (8 : Nat) ys91)) x92)) → (((List.length ys93) = (List.length (List.take (24 : Nat) (List.drop (8 : Nat) ys91)))) ∧
 ((((8 : Nat) + (List.length ys93)) ≤ (List.length ys91)) ∧
 (∀ (ys94 : (List Int)), ((ys94 = (Go.Sx.splice ys91 (8 : Nat) ys93)) → (∀ (x95 : Int), ((x95 = (Go.Sx.S8.d x80)) → (((32 : Nat) ≤ (List.length ys94)) ∧
 ((((4 : Nat) ≤ (20 : Nat)) ∧
 ((4 : Nat) ≤ (List.length (List.take (20 : Nat) (List.drop (12 : Nat) ys94))))) ∧
 (∀ (ys96 : (List Int)), ((ys96 = (Go.Sx.wr4 (List.take (20 : Nat) (List.drop (12 : Nat) ys94)) x95)) → (((List.length ys96) = (List.length (List.take (20 : Nat) (List.drop (12 : Nat) ys94)))) ∧
 ((((12 : Nat) + (List.length ys96)) ≤ (List.length ys94)) ∧
 (∀ (ys97 : (List Int)), ((ys97 = (Go.Sx.splice ys94 (12 : Nat) ys96)) → (∀ (x98 : Int), ((x98 = (Go.Sx.S8.e x80)) → (((32 : Nat) ≤ (List.length ys97)) ∧
 ((((4 : Nat) ≤ (16 : Nat)) ∧
 ((4 : Nat) ≤ (List.length (List.take (16 : Nat) (List.drop (16 : Nat) ys97))))) ∧
 (∀ (ys99 : (List Int)), ((ys99 = (Go.Sx.wr4 (List.take (16 : Nat) (List.drop (16 : Nat) ys97)) x98)) → (((List.length ys99) = (List.length (List.take (16 : Nat) (List.drop (16 : Nat) ys97)))) ∧
 ((((16 : Nat) + (List.length ys99)) ≤ (List.length ys97)) ∧
 (∀ (ys100 : (List Int)), ((ys100 = (Go.Sx.splice ys97 (16 : Nat) ys99)) → (∀ (x101 : Int), ((x101 = (Go.Sx.S8.f x80)) → (((32 : Nat) ≤ (List.length ys100)) ∧
 ((((4 : Nat) ≤ (12 : Nat)) ∧
 ((4 : Nat) ≤ (List.length (List.take (12 : Nat) (List.drop (20 : Nat) ys100))))) ∧
 (∀ (ys102 : (List Int)), ((ys102 = (Go.Sx.wr4 (List.take (12 : Nat) (List.drop (20 : Nat) ys100)) x101)) → (((List.length ys102) = (List.length (List.take (12 : Nat) (List.drop (20 : Nat) ys100)))) ∧
 ((((20 : Nat) + (List.length ys102)) ≤ (List.length ys100)) ∧
 (∀ (ys103 : (List Int)), ((ys103 = (Go.Sx.splice ys100 (20 : Nat) ys102)) → (∀ (x104 : Int), ((x104 = (Go.Sx.S8.g x80)) → (((32 : Nat) ≤ (List.length ys103)) ∧
 ((((4 : Nat) ≤ (8 : Nat)) ∧
 ((4 : Nat) ≤ (List.length (List.take (8 : Nat) (List.drop (24 : Nat) ys103))))) ∧
 (∀ (ys105 : (List Int)), ((ys105 = (Go.Sx.wr4 (List.take (8 : Nat) (List.drop (24 : Nat) ys103)) x104)) → (((List.length ys105) = (List.length (List.take (8 : Nat) (List.drop (24 : Nat) ys103)))) ∧
 ((((24 : Nat) + (List.length ys105)) ≤ (List.length ys103)) ∧
 (∀ (ys106 : (List Int)), ((ys106 = (Go.Sx.splice ys103 (24 : Nat) ys105)) → (∀ (x107 : Int), ((x107 = (Go.Sx.S8.h x80)) → (((32 : Nat) ≤ (List.length ys106)) ∧
 ((((4 : Nat) ≤ (4 : Nat)) ∧
 ((4 : Nat) ≤ (List.length (List.take (4 : Nat) (List.drop (28 : Nat) ys106))))) ∧
 (∀ (ys108 : (List Int)), ((ys108 = (Go.Sx.wr4 (List.take (4 : Nat) (List.drop (28 : Nat) ys106)) x107)) → (((List.length ys108) = (List.length (List.take (4 : Nat) (List.drop (28 : Nat) ys106)))) ∧
 ((((28 : Nat) + (List.length ys108)) ≤ (List.length ys106)) ∧
 (∀ (ys109 : (List Int)), ((ys109 = (Go.Sx.splice ys106 (28 : Nat) ys108)) → (((32 : Nat) ≤ (List.length ys109)) ∧
 (∀ (x110 : Int), ((x110 = (List.getD ys109 (0 : Nat) (0 : Int))) → (∀ (x111 : Int), ((x111 = (List.getD ys109 (1 : Nat) (0 : Int))) → (∀ (x112 : Int), ((x112 = (List.getD ys109 (2 : Nat) (0 : Int))) → (∀ (x113 : Int), ((x113 = (List.getD ys109 (3 : Nat) (0 : Int))) → (∀ (x114 : Int), ((x114 = (List.getD ys109 (4 : Nat) (0 : Int))) → (∀ (x115 : Int), ((x115 = (List.getD ys109 (5 : Nat) (0 : Int))) → (∀ (x116 : Int), ((x116 = (List.getD ys109 (6 : Nat) (0 : Int))) → (∀ (x117 : Int), ((x117 = (List.getD ys109 (7 : Nat) (0 : Int))) → (∀ (x118 : Int), ((x118 = (List.getD ys109 (8 : Nat) (0 : Int))) → (∀ (x119 : Int), ((x119 = (List.getD ys109 (9 : Nat) (0 : Int))) → (∀ (x120 : Int), ((x120 = (List.getD ys109 (10 : Nat) (0 : Int))) → (∀ (x121 : Int), ((x121 = (List.getD ys109 (11 : Nat) (0 : Int))) → (∀ (x122 : Int), ((x122 = (List.getD ys109 (12 : Nat) (0 : Int))) → (∀ (x123 : Int), ((x123 = (List.getD ys109 (13 : Nat) (0 : Int))) → (∀ (x124 : Int), ((x124 = (List.getD ys109 (14 : Nat) (0 : Int))) → (∀ (x125 : Int), ((x125 = (List.getD ys109 (15 : Nat) (0 : Int))) → (∀ (x126 : Int), ((x126 = (List.getD ys109 (16 : Nat) (0 : Int))) → (∀ (x127 : Int), ((x127 = (List.getD ys109 (17 : Nat) (0 : Int))) → (∀ (x128 : Int), ((x128 = (List.getD ys109 (18 : Nat) (0 : Int))) → (∀ (x129 : Int), ((x129 = (List.getD ys109 (19 : Nat) (0 : Int))) → (∀ (x130 : Int), ((x130 = (List.getD ys109 (20 : Nat) (0 : Int))) → (∀ (x131 : Int), ((x131 = (List.getD ys109 (21 : Nat) (0 : Int))) → (∀ (x132 : Int), ((x132 = (List.getD ys109 (22 : Nat) (0 : Int))) → (∀ (x133 : Int), ((x133 = (List.getD ys109 (23 : Nat) (0 : Int))) → (∀ (x134 : Int), ((x134 = (List.getD ys109 (24 : Nat) (0 : Int))) → (∀ (x135 : Int), ((x135 = (List.getD ys109 (25 : Nat) (0 : Int))) → (∀ (x136 : Int), ((x136 = (List.getD ys109 (26 : Nat) (0 : Int))) → (∀ (x137 : Int), ((x137 = (List.getD ys109 (27 : Nat) (0 : Int))) → (∀ (x138 : Int), ((x138 = (List.getD ys109 (28 : Nat) (0 : Int))) → (∀ (x139 : Int), ((x139 = (List.getD ys109 (29 : Nat) (0 : Int))) → (∀ (x140 : Int), ((x140 = (List.getD ys109 (30 : Nat) (0 : Int))) → (∀ (x141 : Int), ((x141 = (List.getD ys109 (31 : Nat) (0 : Int))) → (K (Go.Sx.SV.agg [(Go.Sx.SV.int Go.IntKind.u8 (Go.Sx.A.sym x110)), (Go.Sx.SV.int Go.IntKind.u8 (Go.Sx.A.sym x111)), (Go.Sx.SV.int Go.IntKind.u8 (Go.Sx.A.sym x112)), (Go.Sx.SV.int Go.IntKind.u8 (Go.Sx.A.sym x113)), (Go.Sx.SV.int Go.IntKind.u8 (Go.Sx.A.sym x114)), (Go.Sx.SV.int Go.IntKind.u8 (Go.Sx.A.sym x115)), (Go.Sx.SV.int Go.IntKind.u8 (Go.Sx.A.sym x116)), (Go.Sx.SV.int Go.IntKind.u8 (Go.Sx.A.sym x117)), (Go.Sx.SV.int Go.IntKind.u8 (Go.Sx.A.sym x118)), (Go.Sx.SV.int Go.IntKind.u8 (Go.Sx.A.sym x119)), (Go.Sx.SV.int Go.IntKind.u8 (Go.Sx.A.sym x120)), (Go.Sx.SV.int Go.IntKind.u8 (Go.Sx.A.sym x121)), (Go.Sx.SV.int Go.IntKind.u8 (Go.Sx.A.sym x122)), (Go.Sx.SV.int Go.IntKind.u8 (Go.Sx.A.sym x123)), (Go.Sx.SV.int Go.IntKind.u8 (Go.Sx.A.sym x124)), (Go.Sx.SV.int Go.IntKind.u8 (Go.Sx.A.sym x125)), (Go.Sx.SV.int Go.IntKind.u8 (Go.Sx.A.sym x126)), (Go.Sx.SV.int Go.IntKind.u8 (Go.Sx.A.sym x127)), (Go.Sx.SV.int Go.IntKind.u8 (Go.Sx.A.sym x128)), (Go.Sx.SV.int Go.IntKind.u8 (Go.Sx.A.sym x129)), (Go.Sx.SV.int Go.IntKind.u8 (Go.Sx.A.sym x130)), (Go.Sx.SV.int Go.IntKind.u8 (Go.Sx.A.sym x131)), (Go.Sx.SV.int Go.IntKind.u8 (Go.Sx.A.sym x132)), (Go.Sx.SV.int Go.IntKind.u8 (Go.Sx.A.sym x133)), (Go.Sx.SV.int Go.IntKind.u8 (Go.Sx.A.sym x134)), (Go.Sx.SV.int Go.IntKind.u8 (Go.Sx.A.sym x135)), (Go.Sx.SV.int Go.IntKind.u8 (Go.Sx.A.sym x136)), (Go.Sx.SV.int Go.IntKind.u8 (Go.Sx.A.sym x137)), (Go.Sx.SV.int Go.IntKind.u8 (Go.Sx.A.sym x138)), (Go.Sx.SV.int Go.IntKind.u8 (Go.Sx.A.sym x139)), (Go.Sx.SV.int Go.IntKind.u8 (Go.Sx.A.sym x140)), (Go.Sx.SV.int Go.IntKind.u8 (Go.Sx.A.sym x141))]) (Go.Sx.memL [((2 : Nat), (Go.Sx.Reg.mk Bool.true (Go.Sx.Ct.ints Go.IntKind.u32 Go.Sx.kL))), ((9 : Nat), (Go.Sx.Reg.mk Bool.false (Go.Sx.Ct.segs [(Go.Sx.Sg.cells [(Go.Sx.SV.int Go.IntKind.u32 (Go.Sx.A.sym (Go.Sx.S8.a x80))), (Go.Sx.SV.int Go.IntKind.u32 (Go.Sx.A.sym (Go.Sx.S8.b x80))), (Go.Sx.SV.int Go.IntKind.u32 (Go.Sx.A.sym (Go.Sx.S8.c x80))), (Go.Sx.SV.int Go.IntKind.u32 (Go.Sx.A.sym (Go.Sx.S8.d x80))), (Go.Sx.SV.int Go.IntKind.u32 (Go.Sx.A.sym (Go.Sx.S8.e x80))), (Go.Sx.SV.int Go.IntKind.u32 (Go.Sx.A.sym (Go.Sx.S8.f x80))), (Go.Sx.SV.int Go.IntKind.u32 (Go.Sx.A.sym (Go.Sx.S8.g x80))), (Go.Sx.SV.int Go.IntKind.u32 (Go.Sx.A.sym (Go.Sx.S8.h x80)))]), (Go.Sx.Sg.ints Go.IntKind.u8 (64 : Nat) ys84), (Go.Sx.Sg.cells [(Go.Sx.SV.int Go.IntKind.i64 (Go.Sx.A.sym x82)), (Go.Sx.SV.int Go.IntKind.u64 (Go.Sx.A.sym x83)), (Go.Sx.SV.bool (Go.Sx.B.lit Bool.false))])]))), ((513 : Nat), (Go.Sx.Reg.mk Bool.false (Go.Sx.Ct.cells [(Go.Sx.SV.int Go.IntKind.u8 (Go.Sx.A.sym x110)), (Go.Sx.SV.int Go.IntKind.u8 (Go.Sx.A.sym x111)), (Go.Sx.SV.int Go.IntKind.u8 (Go.Sx.A.sym x112)), (Go.Sx.SV.int Go.IntKind.u8 (Go.Sx.A.sym x113)), (Go.Sx.SV.int Go.IntKind.u8 (Go.Sx.A.sym x114)), (Go.Sx.SV.int Go.IntKind.u8 (Go.Sx.A.sym x115)), (Go.Sx.SV.int Go.IntKind.u8 (Go.Sx.A.sym x116)), (Go.Sx.SV.int Go.IntKind.u8 (Go.Sx.A.sym x117)), (Go.Sx.SV.int Go.IntKind.u8 (Go.Sx.A.sym x118)), (Go.Sx.SV.int Go.IntKind.u8 (Go.Sx.A.sym x119)), (Go.Sx.SV.int Go.IntKind.u8 (Go.Sx.A.sym x120)), (Go.Sx.SV.int Go.IntKind.u8 (Go.Sx.A.sym x121)), (Go.Sx.SV.int Go.IntKind.u8 (Go.Sx.A.sym x122)), (Go.Sx.SV.int Go.IntKind.u8 (Go.Sx.A.sym x123)), (Go.Sx.SV.int Go.IntKind.u8 (Go.Sx.A.sym x124)), (Go.Sx.SV.int Go.IntKind.u8 (Go.Sx.A.sym x125)), (Go.Sx.SV.int Go.IntKind.u8 (Go.Sx.A.sym x126)), (Go.Sx.SV.int Go.IntKind.u8 (Go.Sx.A.sym x127)), (Go.Sx.SV.int Go.IntKind.u8 (Go.Sx.A.sym x128)), (Go.Sx.SV.int Go.IntKind.u8 (Go.Sx.A.sym x129)), (Go.Sx.SV.int Go.IntKind.u8 (Go.Sx.A.sym x130)), (Go.Sx.SV.int Go.IntKind.u8 (Go.Sx.A.sym x131)), (Go.Sx.SV.int Go.IntKind.u8 (Go.Sx.A.sym x132)), (Go.Sx.SV.int Go.IntKind.u8 (Go.Sx.A.sym x133)), (Go.Sx.SV.int Go.IntKind.u8 (Go.Sx.A.sym x134)), (Go.Sx.SV.int Go.IntKind.u8 (Go.Sx.A.sym x135)), (Go.Sx.SV.int Go.IntKind.u8 (Go.Sx.A.sym x136)), (Go.Sx.SV.int Go.IntKind.u8 (Go.Sx.A.sym x137)), (Go.Sx.SV.int Go.IntKind.u8 (Go.Sx.A.sym x138)), (Go.Sx.SV.int Go.IntKind.u8 (Go.Sx.A.sym x139)), (Go.Sx.SV.int Go.IntKind.u8 (Go.Sx.A.sym x140)), (Go.Sx.SV.int Go.IntKind.u8 (Go.Sx.A.sym x141))]))), ((561 : Nat), (Go.Sx.Reg.mk Bool.false (Go.Sx.Ct.ints Go.IntKind.u8 ys78))), ((817 : Nat), (Go.Sx.Reg.mk Bool.false (Go.Sx.Ct.ints Go.IntKind.u8 ys109)))])))))))))))))))))))))))))))))))))))))))))))))))))))))))))))))))))))))))))))))))))))))))))))))))))))))))))))))))))))))))))))))))))))))))))))))))))))))))))))))))))))))))))))))))))))))))))))) := by kernel_rfl
end Go.Sx

/- SHA-256 of bytes, in plain Lean. -/
namespace Go.Sx
open Go

def by8 (x : Int) : Int := IntKind.u8.wrap x
/-- The four bytes of a word. -/
def out4 (x : Int) : List Int := [by8 (shrv .u32 x 24), by8 (shrv .u32 x 16), by8 (shrv .u32 x 8), by8 x]
def out32 (H : S8) : List Int := out4 H.a ++ out4 H.b ++ out4 H.c ++ out4 H.d ++ out4 H.e ++ out4 H.f ++ out4 H.g ++ out4 H.h
/-- The eight bytes of a length. -/
def len8 (x : Int) : List Int := [b64 x 56, b64 x 48, b64 x 40, b64 x 32, b64 x 24, b64 x 16, b64 x 8, b64 x 0]
/-- How far it is to 56, modulo 64: 1 to 64. -/
def padN (n : Nat) : Nat := if n % 64 < 56 then 56 - n % 64 else 120 - n % 64
def padding (n : Nat) : List Int := 128 :: List.replicate (padN n - 1) 0 ++ len8 (shlv .u64 (n : Int) 3)
def sha (M : List Int) : List Int := out32 (hB S0 (M ++ padding M.length) ((M.length + padN M.length + 8) / 64))

theorem padding_length (n : Nat) : (padding n).length = padN n + 8 := by
  unfold padding padN len8
  simp
  split <;> omega
theorem u8_range (x : Int) : 0 ≤ IntKind.u8.wrap x ∧ IntKind.u8.wrap x < 256 := by
  unfold IntKind.wrap
  simp [IntKind.bits, IntKind.signed]
  omega
theorem padding_bytes (n : Nat) : Bytes (padding n) := by
  intro x hx
  unfold padding len8 b64 at hx
  simp only [List.cons_append, List.mem_cons, List.mem_append, List.mem_replicate, List.not_mem_nil, or_false] at hx
  rcases hx with rfl | ⟨_, rfl⟩ | rfl | rfl | rfl | rfl | rfl | rfl | rfl | rfl
  · omega
  · omega
  all_goals exact u8_range _
theorem sha_length (M : List Int) : (sha M).length = 32 := rfl
theorem sha_bytes (M : List Int) : Bytes (sha M) := by
  intro x hx
  unfold sha out32 out4 by8 at hx
  simp only [List.cons_append, List.nil_append, List.mem_cons, List.not_mem_nil, or_false] at hx
  have : ∃ y, x = IntKind.u8.wrap y := by
    repeat (rcases hx with rfl | hx; exact ⟨_, rfl⟩)
  obtain ⟨y, rfl⟩ := this
  exact u8_range y
end Go.Sx

/- The padding as the digest lays it; the words as bytes. -/
namespace Go.Sx
open Go
theorem wr8_eq (x : Int) : wr8 (List.replicate 8 0) x = len8 x := rfl
theorem pad_row {n : Nat} (h1 : 1 ≤ n) (h2 : n ≤ 64) (x : Int) :
    (splice (128 :: List.replicate 71 0) n (len8 x)).take (n + 8) = 128 :: List.replicate (n - 1) 0 ++ len8 x := by
  have := take_splice_mid (x := 128 :: List.replicate 71 0) (q := len8 x) (n := n) (by simp; omega)
  have hl : (len8 x).length = 8 := rfl
  rw [hl] at this
  rw [this]
  obtain ⟨k, rfl⟩ : ∃ k, n = k + 1 := ⟨n - 1, by omega⟩
  rw [List.take_succ_cons, List.take_replicate, Nat.min_eq_left (by omega)]
  rfl
end Go.Sx

/- Digest.checkSum: what it computes. -/
namespace Go.Sx
open Go Go.Proofs
set_option maxRecDepth 100000
set_option maxHeartbeats 4000000

theorem z128 : ([128, 0, 0, 0, 0, 0, 0, 0, 0, 0, 0, 0, 0, 0, 0, 0, 0, 0, 0, 0, 0, 0, 0, 0, 0, 0, 0, 0, 0, 0, 0, 0, 0, 0, 0, 0, 0, 0, 0, 0, 0, 0, 0, 0, 0, 0, 0, 0, 0, 0, 0, 0, 0, 0, 0, 0, 0, 0, 0, 0, 0, 0, 0, 0, 0, 0, 0, 0, 0, 0, 0, 0] : List Int) = 128 :: List.replicate 71 0 := rfl
theorem z32 : ([0, 0, 0, 0, 0, 0, 0, 0, 0, 0, 0, 0, 0, 0, 0, 0, 0, 0, 0, 0, 0, 0, 0, 0, 0, 0, 0, 0, 0, 0, 0, 0] : List Int) = List.replicate 32 0 := rfl

theorem cs_walk (M : List Int) (H : S8) (xs : List Int) (nx len : Int) (K : SV → Mem → Prop) (hA : Abs M H xs nx len) (hM : M.length < 2 ^ 39) (hup : KUp K)
    (hK : ∀ bs, bs = sha M → ∀ H' x' nx' len', K (.agg (picks .u8 bs 0 32)) (memL [(2, ⟨true, .ints .u32 kL⟩), (9, dgR false H' x' nx' len')])) :
    execF cxCs u0 Tryd.f38 64 [.ptr 9 (.lit 0)] (memL [(2, ⟨true, .ints .u32 kL⟩), (9, dgR false H xs nx len)]) K := by
  rw [vc_cs]
  have hlen := hA.len
  rintro x0 rfl x1 hx1
  have e1 : x1 = (M.length % 64 : Nat) := by rw [hx1, hlen]; exact_mod_cast rfl
  refine ⟨fun hlt => ?_, fun hlt => ?_⟩
  all_goals
    simp only [decide_eq_true_eq, decide_eq_false_iff_not] at hlt
    rintro x2 hx2 x3 hx3 x4 hx4 x5 hx5
    have e2 : x2 = (M.length % 64 : Nat) := by rw [hx2, ← hx1, e1]
    have hpn : x3 = padN M.length := by
      rw [hx3, wrapu64 (by omega) (by omega)]
      unfold padN
      split <;> omega
    have hp1 : 1 ≤ padN M.length := by unfold padN; split <;> omega
    have hp2 : padN M.length ≤ 64 := by unfold padN; split <;> omega
    have hpm : (M.length + padN M.length + 8) % 64 = 0 := by unfold padN; split <;> omega
    rw [wrapu64 (by omega) (by omega)] at hx5
    have e5 : x5.toNat = padN M.length + 8 := by omega
    refine ⟨⟨by omega, by omega⟩, ?_⟩
    rintro x6 hx6
    rw [wrapu64 (by omega) (by omega)] at hx6
    have e6 : x6.toNat = padN M.length := by omega
    rw [e5, e6, if_neg (by omega)]
    simp only [Nat.sub_zero, Nat.mul_one, Nat.add_sub_cancel_left, Nat.zero_add, List.drop_zero, z128]
    have e8 : List.take 8 (List.drop (padN M.length) (128 :: List.replicate 71 (0 : Int))) = List.replicate 8 0 := by
      obtain ⟨k, hk⟩ : ∃ k, padN M.length = k + 1 := ⟨padN M.length - 1, by omega⟩
      rw [hk, List.drop_succ_cons, List.drop_replicate, List.take_replicate]
      congr 1
      omega
    rw [e8]
    refine ⟨⟨by omega, by omega⟩, by omega, ⟨by omega, by simp⟩, ?_⟩
    rintro ys7 rfl
    refine ⟨rfl, ?_, ?_⟩
    · show padN M.length + 8 ≤ 72
      omega
    rintro ys8 rfl
    rw [wr8_eq]
    have hsl : (splice (128 :: List.replicate 71 0) (padN M.length) (len8 x4)).length = 72 := by
      rw [splice_length]
      · simp
      · show padN M.length + 8 ≤ _
        simp
        omega
    have hpad : (splice (128 :: List.replicate 71 0) (padN M.length) (len8 x4)).take (padN M.length + 8) = padding M.length := by
      rw [pad_row hp1 hp2, hx4, hlen]
      rfl
    rw [hpad]
    have hpl := padding_length M.length
    refine ⟨by rw [hsl]; omega, M, ⟨trivial, hA, padding_bytes _, hpl, by omega, by omega, by omega⟩, ?_⟩
    rintro x10 x11 x12 x13 hB ys14 rfl x15 rfl
    have hl2 : (M ++ padding M.length).length = M.length + padN M.length + 8 := by rw [List.length_append, hpl]; omega
    have h0 : x15 = 0 := by rw [hB.nx, hl2, hpm]; rfl
    subst h0
    refine ⟨fun h => absurd h (by decide), fun _ => ?_⟩
    have hsha : out32 x10 = sha M := by rw [hB.h, hl2]; rfl
    obtain ⟨a, b, c, d, e, f, g, h⟩ := x10
    dsimp only
    rintro x16 rfl
    refine ⟨by omega, ⟨by omega, by omega⟩, ?_⟩
    rintro ys17 rfl
    refine ⟨rfl, Nat.le_of_ble_eq_true rfl, ?_⟩
    rintro ys18 h18
    obtain rfl : ys18 = out4 x16 ++ List.replicate 28 0 := h18
    rintro x19 rfl
    refine ⟨Nat.le_of_ble_eq_true rfl, ⟨by omega, Nat.le_of_ble_eq_true rfl⟩, ?_⟩
    rintro ys20 rfl
    refine ⟨rfl, Nat.le_of_ble_eq_true rfl, ?_⟩
    rintro ys21 h21
    obtain rfl : ys21 = out4 x16 ++ out4 x19 ++ List.replicate 24 0 := h21
    rintro x22 rfl
    refine ⟨Nat.le_of_ble_eq_true rfl, ⟨by omega, Nat.le_of_ble_eq_true rfl⟩, ?_⟩
    rintro ys23 rfl
    refine ⟨rfl, Nat.le_of_ble_eq_true rfl, ?_⟩
    rintro ys24 h24
    obtain rfl : ys24 = out4 x16 ++ out4 x19 ++ out4 x22 ++ List.replicate 20 0 := h24
    rintro x25 rfl
    refine ⟨Nat.le_of_ble_eq_true rfl, ⟨by omega, Nat.le_of_ble_eq_true rfl⟩, ?_⟩
    rintro ys26 rfl
    refine ⟨rfl, Nat.le_of_ble_eq_true rfl, ?_⟩
    rintro ys27 h27
    obtain rfl : ys27 = out4 x16 ++ out4 x19 ++ out4 x22 ++ out4 x25 ++ List.replicate 16 0 := h27
    rintro x28 rfl
    refine ⟨Nat.le_of_ble_eq_true rfl, ⟨by omega, Nat.le_of_ble_eq_true rfl⟩, ?_⟩
    rintro ys29 rfl
    refine ⟨rfl, Nat.le_of_ble_eq_true rfl, ?_⟩
    rintro ys30 h30
    obtain rfl : ys30 = out4 x16 ++ out4 x19 ++ out4 x22 ++ out4 x25 ++ out4 x28 ++ List.replicate 12 0 := h30
    rintro x31 rfl
    refine ⟨Nat.le_of_ble_eq_true rfl, ⟨by omega, Nat.le_of_ble_eq_true rfl⟩, ?_⟩
    rintro ys32 rfl
    refine ⟨rfl, Nat.le_of_ble_eq_true rfl, ?_⟩
    rintro ys33 h33
    obtain rfl : ys33 = out4 x16 ++ out4 x19 ++ out4 x22 ++ out4 x25 ++ out4 x28 ++ out4 x31 ++ List.replicate 8 0 := h33
    rintro x34 rfl
    refine ⟨Nat.le_of_ble_eq_true rfl, ⟨by omega, Nat.le_of_ble_eq_true rfl⟩, ?_⟩
    rintro ys35 rfl
    refine ⟨rfl, Nat.le_of_ble_eq_true rfl, ?_⟩
    rintro ys36 h36
    obtain rfl : ys36 = out4 x16 ++ out4 x19 ++ out4 x22 ++ out4 x25 ++ out4 x28 ++ out4 x31 ++ out4 x34 ++ List.replicate 4 0 := h36
    rintro x37 rfl
    refine ⟨Nat.le_of_ble_eq_true rfl, ⟨by omega, Nat.le_of_ble_eq_true rfl⟩, ?_⟩
    rintro ys38 rfl
    refine ⟨rfl, Nat.le_of_ble_eq_true rfl, ?_⟩
    rintro ys39 h39
    obtain h39 : ys39 = out32 ⟨x16, x19, x22, x25, x28, x31, x34, x37⟩ := h39
    rw [hsha] at h39
    refine ⟨by rw [h39]; exact Nat.le_of_ble_eq_true rfl, ?_⟩
    rintro x40 rfl x41 rfl x42 rfl x43 rfl x44 rfl x45 rfl x46 rfl x47 rfl x48 rfl x49 rfl x50 rfl x51 rfl x52 rfl x53 rfl x54 rfl x55 rfl x56 rfl x57 rfl x58 rfl x59 rfl x60 rfl x61 rfl x62 rfl x63 rfl x64 rfl x65 rfl x66 rfl x67 rfl x68 rfl x69 rfl x70 rfl x71 rfl
    have := hK _ h39 ⟨x16, x19, x22, x25, x28, x31, x34, x37⟩ ys14 0 x13
    exact hup.le (memL_more (k := [_, _, _]) (l := [_, _]) [2, 9, 513, 561, 817] rfl (by decide)) this
end Go.Sx

/- The contract of Digest.checkSum. -/
namespace Go.Sx
open Go Go.Proofs
set_option maxRecDepth 100000
def gCs : G0 := fun args l K =>
  match args, l with
  | [.ptr 9 (.lit 0)], [(2, ⟨true, .ints .u32 ks⟩), (9, ⟨false, .segs [.cells [.int .u32 (.sym h0), .int .u32 (.sym h1), .int .u32 (.sym h2), .int .u32 (.sym h3), .int .u32 (.sym h4), .int .u32 (.sym h5), .int .u32 (.sym h6), .int .u32 (.sym h7)], .ints .u8 64 xs, .cells [.int .i64 (.sym nx), .int .u64 (.sym len), .bool (.lit false)]]⟩)] =>
    ∃ M, (ks = kL ∧ Abs M ⟨h0, h1, h2, h3, h4, h5, h6, h7⟩ xs nx len ∧ M.length < 2 ^ 39) ∧
      ∀ bs, bs = sha M → ∀ H' x' nx' len', K (.agg (picks .u8 bs 0 32)) (memL [(2, ⟨true, .ints .u32 kL⟩), (9, dgR false H' x' nx' len')])
  | _, _ => False
theorem cs_good : Good gCs := by
  constructor
  · intro args l K K' hk h
    unfold gCs at h ⊢
    split at h
    · obtain ⟨M, h1, h2⟩ := h
      exact ⟨M, h1, fun bs hb H' x' nx' len' => hk _ _ (h2 bs hb H' x' nx' len')⟩
    · exact h.elim
  · intro args l K h
    unfold gCs at h
    split at h
    · obtain ⟨M, h1, h2⟩ := h
      exact ⟨_, _, h2 _ rfl S0 [] 0 0⟩
    · exact h.elim
theorem cs_ok (args : List SV) (l : List (Nat × Reg)) (K : SV → Mem → Prop) (hup : KUp K) (h : gCs args l K) : ∃ U, execF cxCs U Tryd.f38 64 args (memL l) K := by
  refine ⟨u0, ?_⟩
  unfold gCs at h
  split at h
  · rename_i ks h0 h1 h2 h3 h4 h5 h6 h7 xs nx len
    obtain ⟨M, ⟨hk, k1, k2⟩, k3⟩ := h
    subst hk
    exact cs_walk M ⟨h0, h1, h2, h3, h4, h5, h6, h7⟩ xs nx len K k1 k2 hup k3
  · exact h.elim
def cCs : Ef Tryd.prog := mkE mixed 38 Tryd.func38 (by decide) (by kernel_rfl) [1] [.parts dgSh false] gCs cs_good cs_ok
end Go.Sx

/- Digest.Sum. -/
namespace Go.Sx
open Go Go.Proofs
set_option maxRecDepth 100000
def cxSum : Cx Tryd.prog := { rds := [], efs := [cCs], eqs := [] }
theorem vc_sum (H : S8) (xs : List Int) (nx len : Int) (K : SV → Mem → Prop) : (execF cxSum u0 Tryd.f26 64 [.ptr 9 (.lit 0), .val (.slice none 0 0)] (memL [(2, ⟨true, .ints .u32 kL⟩), (9, dgR true H xs nx len)]) K) =
  ((∀ (x0 : Int), ((x0 = (Go.Sx.S8.a H)) → (∀ (x1 : Int), ((x1 = (Go.Sx.S8.b H)) → (∀ (x2 : Int), ((x2 = (Go.Sx.S8.c H)) → (∀ (x3 : Int), ((x3 = (Go.Sx.S8.d H)) → (∀ (x4 : Int), ((x4 = (Go.Sx.S8.e H)) → (∀ (x5 : Int), ((x5 = (Go.Sx.S8.f H)) → (∀ (x6 : Int), ((x6 = (Go.Sx.S8.g H)) → (∀ (x7 : Int), ((x7 = (Go.Sx.S8.h H)) → (∀ (x8 : Int), ((x8 = (List.getD xs (0 : Nat) (0 : Int))) → (∀ (x9 : Int), ((x9 = (List.getD xs (1 : Nat) (0 : Int))) → (∀ (x10 : Int), ((x10 = (List.getD xs (2 : Nat) (0 : Int))) → (∀ (x11 : Int), ((x11 = (List.getD xs (3 : Nat) (0 : Int))) → (∀ (x12 : Int), ((x12 = (List.getD xs (4 : Nat) (0 : Int))) → (∀ (x13 : Int), ((x13 = (List.getD xs (5 : Nat) (0 : Int))) → (∀ (x14 : Int), ((x14 = (List.getD xs (6 : Nat) (0 : Int))) → (∀ (x15 : Int), ((x15 = (List.getD xs (7 : Nat) (0 : Int))) → (∀ (x16 : Int), ((x16 = (List.getD xs (8 : Nat) (0 : Int))) → (∀ (x17 : Int), ((x17 = (List.getD xs (9 : Nat) (0 : Int))) → (∀ (x18 : Int), ((x18 = (List.getD xs (10 : Nat) (0 : Int))) → (∀ (x19 : Int), ((x19 = (List.getD xs (11 : Nat) (0 : Int))) → (∀ (x20 : Int), ((x20 = (List.getD xs (12 : Nat) (0 : Int))) → (∀ (x21 : Int), ((x21 = (List.getD xs (13 : Nat) (0 : Int))) → (∀ (x22 : Int), ((x22 = (List.getD xs (14 : Nat) (0 : Int))) → (∀ (x23 : Int), ((x23 = (List.getD xs (15 : Nat) (0 : Int))) → (∀ (x24 : Int), ((x24 = (List.getD xs (16 : Nat) (0 : Int))) → (∀ (x25 : Int), ((x25 = (List.getD xs (17 : Nat) (0 : Int))) → (∀ (x26 : Int), ((x26 = (List.getD xs (18 : Nat) (0 : Int))) → (∀ (x27 : Int), ((x27 = (List.getD xs (19 : Nat) (0 : Int))) → (∀ (x28 : Int), ((x28 = (List.getD xs (20 : Nat) (0 : Int))) → (∀ (x29 : Int), ((x29 = (List.getD xs (21 : Nat) (0 : Int))) → (∀ (x30 : Int), ((x30 = (List.getD xs (22 : Nat) (0 : Int))) → (∀ (x31 : Int), ((x31 = (List.getD xs (23 : Nat) (0 : Int))) → (∀ (x32 : Int), ((x32 = (List.getD xs (24 : Nat) (0 : Int))) → (∀ (x33 : Int), ((x33 = (List.getD xs (25 : Nat) (0 : Int))) → (∀ (x34 : Int), ((x34 = (List.getD xs (26 : Nat) (0 : Int))) → (∀ (x35 : Int), ((x35 = (List.getD xs (27 : Nat) (0 : Int))) → (∀ (x36 : Int), ((x36 = (List.getD xs (28 : Nat) (0 : Int))) → (∀ (x37 : Int), ((x37 = (List.getD xs (29 : Nat) (0 : Int))) → (∀ (x38 : Int), ((x38 = (List.getD xs (30 : Nat) (0 : Int))) → (∀ (x39 : Int), ((x39 = (List.getD xs (31 : Nat) (0 : Int))) → (∀ (x40 : Int), ((x40 = (List.getD xs (32 : Nat) (0 : Int))) → (∀ (x41 : Int), ((x41 = (List.getD xs (33 : Nat) (0 : Int))) → (∀ (x42 : Int), ((x42 = (List.getD xs (34 : Nat) (0 : Int))) → (∀ (x43 : Int), ((x43 = (List.getD xs (35 : Nat) (0 : Int))) → (∀ (x44 : Int), ((x44 = (List.getD xs (36 : Nat) (0 : Int))) → (∀ (x45 : Int), ((x45 = (List.getD xs (37 : Nat) (0 : Int))) → (∀ (x46 : Int), ((x46 = (List.getD xs (38 : Nat) (0 : Int))) → (∀ (x47 : Int), ((x47 = (List.getD xs (39 : Nat) (0 : Int))) → (∀ (x48 : Int), ((x48 = (List.getD xs (40 : Nat) (0 : Int))) → (∀ (x49 : Int), ((x49 = (List.getD xs (41 : Nat) (0 : Int))) → (∀ (x50 : Int), ((x50 = (List.getD xs (42 : Nat) (0 : Int))) → (∀ (x51 : Int), ((x51 = (List.getD xs (43 : Nat) (0 : Int))) → (∀ (x52 : Int), ((x52 = (List.getD xs (44 : Nat) (0 : Int))) → (∀ (x53 : Int), ((x53 = (List.getD xs (45 : Nat) (0 : Int))) → (∀ (x54 : Int), ((x54 = (List.getD xs (46 : Nat) (0 : Int))) → (∀ (x55 : Int), ((x55 = (List.getD xs (47 : Nat) (0 : Int))) → (∀ (x56 : Int), ((x56 = (List.getD xs (48 : Nat) (0 : Int))) → (∀ (x57 : Int), ((x57 = (List.getD xs (49 : Nat) (0 : Int))) → (∀ (x58 : Int), ((x58 = (List.getD xs (50 : Nat) (0 : Int))) → (∀ (x59 : Int), ((x59 = (List.getD xs (51 : Nat) (0 : Int))) → (∀ (x60 : Int), ((x60 = (List.getD xs (52 : Nat) (0 : Int))) → (∀ (x61 : Int), ((x61 = (List.getD xs (53 : Nat) (0 : Int))) → (∀ (x62 : Int), ((x62 = (List.getD xs (54 : Nat) (0 : Int))) → (∀ (x63 : Int), ((x63 = (List.getD xs (55 : Nat) (0 : Int))) → (∀ (x64 : Int), ((x64 = (List.getD xs (56 : Nat) (0 : Int))) → (∀ (x65 : Int), ((x65 = (List.getD xs (57 : Nat) (0 : Int))) → (∀ (x66 : Int), ((x66 = (List.getD xs (58 : Nat) (0 : Int))) → (∀ (x67 : Int), ((x67 = (List.getD xs (59 : Nat) (0 : Int))) → (∀ (x68 : Int), ((x68 = (List.getD xs (60 : Nat) (0 : Int))) → (∀ (x69 : Int), ((x69 = (List.getD xs (61 : Nat) (0 : Int))) → (∀ (x70 : Int), ((x70 = (List.getD xs (62 : Nat) (0 : Int))) → (∀ (x71 : Int), ((x71 = (List.getD xs (63 : Nat) (0 : Int))) → (∀ (x72 : Int), ((x72 = nx) → (∀ (x73 : Int), ((x73 = len) → (∃ (M74 : (List Int)), (((Go.Sx.kL = Go.Sx.kL) ∧
 ((Go.Sx.Abs M74 (Go.Sx.S8.mk x0 x1 x2 x3 x4 x5 x6 x7) [x8, x9, x10, x11, x12, x13, x14, x15, x16, x17, x18, x19, x20, x21, x22, x23, x24, x25, x26, x27, x28, x29, x30, x31, x32, x33, x34, x35, x36, x37, x38, x39, x40, x41, x42, x43, x44, x45, x46, x47, x48, x49, x50, x51, x52, x53, x54, x55, x56, x57, x58, x59, x60, x61, x62, x63, x64, x65, x66, x67, x68, x69, x70, x71] x72 x73) ∧
 ((List.length M74) < (549755813888 : Nat)))) ∧
 (∀ (bs75 : (List Int)), ((bs75 = (Go.Sx.sha M74)) → (∀ (x76 : Go.Sx.S8), (∀ (x77 : (List Int)), (∀ (x78 : Int), (∀ (x79 : Int), (∀ (ys80 : (List Int)), ((ys80 = x77) → ((True ∧
 ((Nat.le (32 : Nat) (List.length [(List.getD bs75 (0 : Nat) (0 : Int)), (List.getD bs75 (1 : Nat) (0 : Int)), (List.getD bs75 (2 : Nat) (0 : Int)), (List.getD bs75 (3 : Nat) (0 : Int)), (List.getD bs75 (4 : Nat) (0 : Int)), (List.getD bs75 (5 : Nat) (0 : Int)), (List.getD bs75 (6 : Nat) (0 : Int)), (List.getD bs75 (7 : Nat) (0 : Int)), (List.getD bs75 (8 : Nat) (0 : Int)), (List.getD bs75 (9 : Nat) (0 : Int)), (List.getD bs75 (10 : Nat) (0 : Int)), (List.getD bs75 (11 : Nat) (0 : Int)), (List.getD bs75 (12 : Nat) (0 : Int)), (List.getD bs75 (13 : Nat) (0 : Int)), (List.getD bs75 (14 : Nat) (0 : Int)), (List.getD bs75 (15 : Nat) (0 : Int)), (List.getD bs75 (16 : Nat) (0 : Int)), (List.getD bs75 (17 : Nat) (0 : Int)), (List.getD bs75 (18 : Nat) (0 : Int)), (List.getD bs75 (19 : Nat) (0 : Int)), (List.getD bs75 (20 : Nat) (0 : Int)), (List.getD bs75 (21 : Nat) (0 : Int)), (List.getD bs75 (22 : Nat) (0 : Int)), (List.getD bs75 (23 : Nat) (0 : Int)), (List.getD bs75 (24 : Nat) (0 : Int)), (List.getD bs75 (25 : Nat) (0 : Int)), (List.getD bs75 (26 : Nat) (0 : Int)), (List.getD bs75 (27 : Nat) (0 : Int)), (List.getD bs75 (28 : Nat) (0 : Int)), (List.getD bs75 (29 : Nat) (0 : Int)), (List.getD bs75 (30 : Nat) (0 : Int)), (List.getD bs75 (31 : Nat) (0 : Int))])) ∧
 (((32 : Nat) ≤ (549755813888 : Nat)) ∧
 ((32 : Nat) ≤ (549755813888 : Nat))))) ∧
 ((((32 : Nat) = (0 : Nat)) → (K (Go.Sx.SV.val (Go.Value.slice Option.none (0 : Nat) (0 : Nat))) (Go.Sx.memL [((2 : Nat), (Go.Sx.Reg.mk Bool.true (Go.Sx.Ct.ints Go.IntKind.u32 Go.Sx.kL))), ((9 : Nat), (Go.Sx.Reg.mk Bool.true (Go.Sx.Ct.segs [(Go.Sx.Sg.cells [(Go.Sx.SV.int Go.IntKind.u32 (Go.Sx.A.sym (Go.Sx.S8.a H))), (Go.Sx.SV.int Go.IntKind.u32 (Go.Sx.A.sym (Go.Sx.S8.b H))), (Go.Sx.SV.int Go.IntKind.u32 (Go.Sx.A.sym (Go.Sx.S8.c H))), (Go.Sx.SV.int Go.IntKind.u32 (Go.Sx.A.sym (Go.Sx.S8.d H))), (Go.Sx.SV.int Go.IntKind.u32 (Go.Sx.A.sym (Go.Sx.S8.e H))), (Go.Sx.SV.int Go.IntKind.u32 (Go.Sx.A.sym (Go.Sx.S8.f H))), (Go.Sx.SV.int Go.IntKind.u32 (Go.Sx.A.sym (Go.Sx.S8.g H))), (Go.Sx.SV.int Go.IntKind.u32 (Go.Sx.A.sym (Go.Sx.S8.h H)))]), (Go.Sx.Sg.ints Go.IntKind.u8 (64 : Nat) xs), (Go.Sx.Sg.cells [(Go.Sx.SV.int Go.IntKind.i64 (Go.Sx.A.sym nx)), (Go.Sx.SV.int Go.IntKind.u64 (Go.Sx.A.sym len)), (Go.Sx.SV.bool (Go.Sx.B.lit Bool.false))])]))), ((545 : Nat), (Go.Sx.Reg.mk Bool.false (Go.Sx.Ct.segs [(Go.Sx.Sg.cells [(Go.Sx.SV.int Go.IntKind.u32 (Go.Sx.A.sym (Go.Sx.S8.a x76))), (Go.Sx.SV.int Go.IntKind.u32 (Go.Sx.A.sym (Go.Sx.S8.b x76))), (Go.Sx.SV.int Go.IntKind.u32 (Go.Sx.A.sym (Go.Sx.S8.c x76))), (Go.Sx.SV.int Go.IntKind.u32 (Go.Sx.A.sym (Go.Sx.S8.d x76))), (Go.Sx.SV.int Go.IntKind.u32 (Go.Sx.A.sym (Go.Sx.S8.e x76))), (Go.Sx.SV.int Go.IntKind.u32 (Go.Sx.A.sym (Go.Sx.S8.f x76))), (Go.Sx.SV.int Go.IntKind.u32 (Go.Sx.A.sym (Go.Sx.S8.g x76))), (Go.Sx.SV.int Go.IntKind.u32 (Go.Sx.A.sym (Go.Sx.S8.h x76)))]), (Go.Sx.Sg.ints Go.IntKind.u8 (64 : Nat) ys80), (Go.Sx.Sg.cells [(Go.Sx.SV.int Go.IntKind.i64 (Go.Sx.A.sym x78)), (Go.Sx.SV.int Go.IntKind.u64 (Go.Sx.A.sym x79)), (Go.Sx.SV.bool (Go.Sx.B.lit Bool.false))])]))), ((569 : Nat), (Go.Sx.Reg.mk Bool.false (Go.Sx.Ct.cells [(Go.Sx.SV.int Go.IntKind.u8 (Go.Sx.A.sym (List.getD bs75 (0 : Nat) (0 : Int)))), (Go.Sx.SV.int Go.IntKind.u8 (Go.Sx.A.sym (List.getD bs75 (1 : Nat) (0 : Int)))), (Go.Sx.SV.int Go.IntKind.u8 (Go.Sx.A.sym (List.getD bs75 (2 : Nat) (0 : Int)))), (Go.Sx.SV.int Go.IntKind.u8 (Go.Sx.A.sym (List.getD bs75 (3 : Nat) (0 : Int)))), (Go.Sx.SV.int Go.IntKind.u8 (Go.Sx.A.sym (List.getD bs75 (4 : Nat) (0 : Int)))), (Go.Sx.SV.int Go.IntKind.u8 (Go.Sx.A.sym (List.getD bs75 (5 : Nat) (0 : Int)))), (Go.Sx.SV.int Go.IntKind.u8 (Go.Sx.A.sym (List.getD bs75 (6 : Nat) (0 : Int)))), (Go.Sx.SV.int Go.IntKind.u8 (Go.Sx.A.sym (List.getD bs75 (7 : Nat) (0 : Int)))), (Go.Sx.SV.int Go.IntKind.u8 (Go.Sx.A.sym (List.getD bs75 (8 : Nat) (0 : Int)))), (Go.Sx.SV.int Go.IntKind.u8 (Go.Sx.A.sym (List.getD bs75 (9 : Nat) (0 : Int)))), (Go.Sx.SV.int Go.IntKind.u8 (Go.Sx.A.sym (List.getD bs75 (10 : Nat) (0 : Int)))), (Go.Sx.SV.int Go.IntKind.u8 (Go.Sx.A.sym (List.getD bs75 (11 : Nat) (0 : Int)))), (Go.Sx.SV.int Go.IntKind.u8 (Go.Sx.A.sym (List.getD bs75 (12 : Nat) (0 : Int)))), (Go.Sx.SV.int Go.IntKind.u8 (Go.Sx.A.sym (List.getD bs75 (13 : Nat) (0 : Int)))), (Go.Sx.SV.int Go.IntKind.u8 (Go.Sx.A.sym (List.getD bs75 (14 : Nat) (0 : Int)))), (Go.Sx.SV.int Go.IntKind.u8 (Go.Sx.A.sym (List.getD bs75 (15 : Nat) (0 : Int)))), (Go.Sx.SV.int Go.IntKind.u8 (Go.Sx.A.sym (List.getD bs75 (16 : Nat) (0 : Int)))), (Go.Sx.SV.int Go.IntKind.u8 (Go.Sx.A.sym (List.getD bs75 (17 : Nat) (0 : Int)))), (Go.Sx.SV.int Go.IntKind.u8 (Go.Sx.A.sym (List.getD bs75 (18 : Nat) (0 : Int)))), (Go.Sx.SV.int Go.IntKind.u8 (Go.Sx.A.sym (List.getD bs75 (19 : Nat) (0 : Int)))), (Go.Sx.SV.int Go.IntKind.u8 (Go.Sx.A.sym (List.getD bs75 (20 : Nat) (0 : Int)))), (Go.Sx.SV.int Go.IntKind.u8 (Go.Sx.A.sym (List.getD bs75 (21 : Nat) (0 : Int)))), (Go.Sx.SV.int Go.IntKind.u8 (Go.Sx.A.sym (List.getD bs75 (22 : Nat) (0 : Int)))), (Go.Sx.SV.int Go.IntKind.u8 (Go.Sx.A.sym (List.getD bs75 (23 : Nat) (0 : Int)))), (Go.Sx.SV.int Go.IntKind.u8 (Go.Sx.A.sym (List.getD bs75 (24 : Nat) (0 : Int)))), (Go.Sx.SV.int Go.IntKind.u8 (Go.Sx.A.sym (List.getD bs75 (25 : Nat) (0 : Int)))), (Go.Sx.SV.int Go.IntKind.u8 (Go.Sx.A.sym (List.getD bs75 (26 : Nat) (0 : Int)))), (Go.Sx.SV.int Go.IntKind.u8 (Go.Sx.A.sym (List.getD bs75 (27 : Nat) (0 : Int)))), (Go.Sx.SV.int Go.IntKind.u8 (Go.Sx.A.sym (List.getD bs75 (28 : Nat) (0 : Int)))), (Go.Sx.SV.int Go.IntKind.u8 (Go.Sx.A.sym (List.getD bs75 (29 : Nat) (0 : Int)))), (Go.Sx.SV.int Go.IntKind.u8 (Go.Sx.A.sym (List.getD bs75 (30 : Nat) (0 : Int)))), (Go.Sx.SV.int Go.IntKind.u8 (Go.Sx.A.sym (List.getD bs75 (31 : Nat) (0 : Int))))])))]))) ∧
 (((0 : Nat) < (32 : Nat)) → (∀ (cap81 : Nat), (∀ (ys82 : (List Int)), ((((32 : Nat) ≤ cap81) ∧
 (((List.length ys82) = (cap81 * (1 : Nat))) ∧
 ((List.take (32 : Nat) ys82) = ([] ++ (List.take (32 : Nat) (List.drop (0 : Nat) [(List.getD bs75 (0 : Nat) (0 : Int)), (List.getD bs75 (1 : Nat) (0 : Int)), (List.getD bs75 (2 : Nat) (0 : Int)), (List.getD bs75 (3 : Nat) (0 : Int)), (List.getD bs75 (4 : Nat) (0 : Int)), (List.getD bs75 (5 : Nat) (0 : Int)), (List.getD bs75 (6 : Nat) (0 : Int)), (List.getD bs75 (7 : Nat) (0 : Int)), (List.getD bs75 (8 : Nat) (0 : Int)), (List.getD bs75 (9 : Nat) (0 : Int)), (List.getD bs75 (10 : Nat) (0 : Int)), (List.getD bs75 (11 : Nat) (0 : Int)), (List.getD bs75 (12 : Nat) (0 : Int)), (List.getD bs75 (13 : Nat) (0 : Int)), (List.getD bs75 (14 : Nat) (0 : Int)), (List.getD bs75 (15 : Nat) (0 : Int)), (List.getD bs75 (16 : Nat) (0 : Int)), (List.getD bs75 (17 : Nat) (0 : Int)), (List.getD bs75 (18 : Nat) (0 : Int)), (List.getD bs75 (19 : Nat) (0 : Int)), (List.getD bs75 (20 : Nat) (0 : Int)), (List.getD bs75 (21 : Nat) (0 : Int)), (List.getD bs75 (22 : Nat) (0 : Int)), (List.getD bs75 (23 : Nat) (0 : Int)), (List.getD bs75 (24 : Nat) (0 : Int)), (List.getD bs75 (25 : Nat) (0 : Int)), (List.getD bs75 (26 : Nat) (0 : Int)), (List.getD bs75 (27 : Nat) (0 : Int)), (List.getD bs75 (28 : Nat) (0 : Int)), (List.getD bs75 (29 : Nat) (0 : Int)), (List.getD bs75 (30 : Nat) (0 : Int)), (List.getD bs75 (31 : Nat) (0 : Int))])))))) → (K (Go.Sx.SV.slice (617 : Nat) (Go.Sx.N.lit (0 : Nat)) (Go.Sx.N.lit (32 : Nat)) (Go.Sx.N.sym cap81)) (Go.Sx.memL [((2 : Nat), (Go.Sx.Reg.mk Bool.true (Go.Sx.Ct.ints Go.IntKind.u32 Go.Sx.kL))), ((9 : Nat), (Go.Sx.Reg.mk Bool.true (Go.Sx.Ct.segs [(Go.Sx.Sg.cells [(Go.Sx.SV.int Go.IntKind.u32 (Go.Sx.A.sym (Go.Sx.S8.a H))), (Go.Sx.SV.int Go.IntKind.u32 (Go.Sx.A.sym (Go.Sx.S8.b H))), (Go.Sx.SV.int Go.IntKind.u32 (Go.Sx.A.sym (Go.Sx.S8.c H))), (Go.Sx.SV.int Go.IntKind.u32 (Go.Sx.A.sym (Go.Sx.S8.d H))), (Go.Sx.SV.int Go.IntKind.u32 (Go.Sx.A.sym (Go.Sx.S8.e H))), (Go.Sx.SV.int Go.IntKind.u32 (Go.Sx.A.sym (Go.Sx.S8.f H))), (Go.Sx.SV.int Go.IntKind.u32 (Go.Sx.A.sym (Go.Sx.S8.g H))), (Go.Sx.SV.int Go.IntKind.u32 (Go.Sx.A.sym (Go.Sx.S8.h H)))]), (Go.Sx.Sg.ints Go.IntKind.u8 (64 : Nat) xs), (Go.Sx.Sg.cells [(Go.Sx.SV.int Go.IntKind.i64 (Go.Sx.A.sym nx)), (Go.Sx.SV.int Go.IntKind.u64 (Go.Sx.A.sym len)), (Go.Sx.SV.bool (Go.Sx.B.lit Bool.false))])]))), ((545 : Nat), (Go.Sx.Reg.mk Bool.false (Go.Sx.Ct.segs [(Go.Sx.Sg.cells [(Go.Sx.SV.int Go.IntKind.u32 (Go.Sx.A.sym (Go.Sx.S8.a x76))), (Go.Sx.SV.int Go.IntKind.u32 (Go.Sx.A.sym (Go.Sx.S8.b x76))), (Go.Sx.SV.int Go.IntKind.u32 (Go.Sx.A.sym (Go.Sx.S8.c x76))), (Go.Sx.SV.int Go.IntKind.u32 (Go.Sx.A.sym (Go.Sx.S8.d x76))), (Go.Sx.SV.int Go.IntKind.u32 (Go.Sx.A.sym (Go.Sx.S8.e x76))), (Go.Sx.SV.int Go.IntKind.u32 (Go.Sx.A.sym (Go.Sx.S8.f x76))), (Go.Sx.SV.int Go.IntKind.u32 (Go.Sx.A.sym (Go.Sx.S8.g x76))), (Go.Sx.SV.int Go.IntKind.u32 (Go.Sx.A.sym (Go.Sx.S8.h x76)))]), (Go.Sx.Sg.ints Go.IntKind.u8 (64 : Nat) ys80), (Go.Sx.Sg.cells [(Go.Sx.SV.int Go.IntKind.i64 (Go.Sx.A.sym x78)), (Go.Sx.SV.int Go.IntKind.u64 (Go.Sx.A.sym x79)), (Go.Sx.SV.bool (Go.Sx.B.lit Bool.false))])]))), ((569 : Nat), (Go.Sx.Reg.mk Bool.false (Go.Sx.Ct.cells [(Go.Sx.SV.int Go.IntKind.u8 (Go.Sx.A.sym (List.getD bs75 (0 : Nat) (0 : Int)))), (Go.Sx.SV.int Go.IntKind.u8 (Go.Sx.A.sym (List.getD bs75 (1 : Nat) (0 : Int)))), (Go.Sx.SV.int Go.IntKind.u8 (Go.Sx.A.sym (List.getD bs75 (2 : Nat) (0 : Int)))), (Go.Sx.SV.int Go.IntKind.u8 (Go.Sx.A.sym (List.getD bs75 (3 : Nat) (0 : Int)))), (Go.Sx.SV.int Go.IntKind.u8 (Go.Sx.A.sym (List.getD bs75 (4 : Nat) (0 : Int)))), (Go.Sx.SV.int Go.IntKind.u8 (Go.Sx.A.sym (List.getD bs75 (5 : Nat) (0 : Int)))), (Go.Sx.SV.int Go.IntKind.u8 (Go.Sx.A.sym (List.getD bs75 (6 : Nat) (0 : Int)))), (Go.Sx.SV.int Go.IntKind.u8 (Go.Sx.A.sym (List.getD bs75 (7 : Nat) (0 : Int)))), (Go.Sx.SV.int Go.IntKind.u8 (Go.Sx.A.sym (List.getD bs75 (8 : Nat) (0 : Int)))), (Go.Sx.SV.int Go.IntKind.u8 (Go.Sx.A.sym (List.getD bs75 (9 : Nat) (0 : Int)))), (Go.Sx.SV.int Go.IntKind.u8 (Go.Sx.A.sym (List.getD bs75 (10 : Nat) (0 : Int)))), (Go.Sx.SV.int Go.IntKind.u8 (Go.Sx.A.sym (List.getD bs75 (11 : Nat) (0 : Int)))), (Go.Sx.SV.int Go.IntKind.u8 (Go.Sx.A.sym (List.getD bs75 (12 : Nat) (0 : Int)))), (Go.Sx.SV.int Go.IntKind.u8 (Go.Sx.A.sym (List.getD bs75 (13 : Nat) (0 : Int)))), (Go.Sx.SV.int Go.IntKind.u8 (Go.Sx.A.sym (List.getD bs75 (14 : Nat) (0 : Int)))), (Go.Sx.SV.int Go.IntKind.u8 (Go.Sx.A.sym (List.getD bs75 (15 : Nat) (0 : Int)))), (Go.Sx.SV.int Go.IntKind.u8 (Go.Sx.A.sym (List.getD bs75 (16 : Nat) (0 : Int)))), (Go.Sx.SV.int Go.IntKind.u8 (Go.Sx.A.sym (List.getD bs75 (17 : Nat) (0 : Int)))), (Go.Sx.SV.int Go.IntKind.u8 (Go.Sx.A.sym (List.getD bs75 (18 : Nat) (0 : Int)))), (Go.Sx.SV.int Go.IntKind.u8 (Go.Sx.A.sym (List.getD bs75 (19 : Nat) (0 : Int)))), (Go.Sx.SV.int Go.IntKind.u8 (Go.Sx.A.sym (List.getD bs75 (20 : Nat) (0 : Int)))), (Go.Sx.SV.int Go.IntKind.u8 (Go.Sx.A.sym (List.getD bs75 (21 : Nat) (0 : Int)))), (Go.Sx.SV.int Go.IntKind.u8 (Go.Sx.A.sym (List.getD bs75 (22 : Nat) (0 : Int)))), (Go.Sx.SV.int Go.IntKind.u8 (Go.Sx.A.sym (List.getD bs75 (23 : Nat) (0 : Int)))), (Go.Sx.SV.int Go.IntKind.u8 (Go.Sx.A.sym (List.getD bs75 (24 : Nat) (0 : Int)))), (Go.Sx.SV.int Go.IntKind.u8 (Go.Sx.A.sym (List.getD bs75 (25 : Nat) (0 : Int)))), (Go.Sx.SV.int Go.IntKind.u8 (Go.Sx.A.sym (List.getD bs75 (26 : Nat) (0 : Int)))), (Go.Sx.SV.int Go.IntKind.u8 (Go.Sx.A.sym (List.getD bs75 (27 : Nat) (0 : Int)))), (Go.Sx.SV.int Go.IntKind.u8 (Go.Sx.A.sym (List.getD bs75 (28 : Nat) (0 : Int)))), (Go.Sx.SV.int Go.IntKind.u8 (Go.Sx.A.sym (List.getD bs75 (29 : Nat) (0 : Int)))), (Go.Sx.SV.int Go.IntKind.u8 (Go.Sx.A.sym (List.getD bs75 (30 : Nat) (0 : Int)))), (Go.Sx.SV.int Go.IntKind.u8 (Go.Sx.A.sym (List.getD bs75 (31 : Nat) (0 : Int))))]))), ((617 : Nat), (Go.Sx.Reg.mk Bool.false (Go.Sx.Ct.ints Go.IntKind.u8 ys82)))]))))))))))))))))))))))))))))))))))))))))))))))))))))))))))))))))))))))))))))))))))))))))))))))))))))))))))))))))))))))))))))))))))))))))))))))))))))))))))))))))))))))) := by kernel_rfl
theorem list64 {xs : List Int} (h : xs.length = 64) : [xs.getD 0 0, xs.getD 1 0, xs.getD 2 0, xs.getD 3 0, xs.getD 4 0, xs.getD 5 0, xs.getD 6 0, xs.getD 7 0, xs.getD 8 0, xs.getD 9 0, xs.getD 10 0, xs.getD 11 0, xs.getD 12 0, xs.getD 13 0, xs.getD 14 0, xs.getD 15 0, xs.getD 16 0, xs.getD 17 0, xs.getD 18 0, xs.getD 19 0, xs.getD 20 0, xs.getD 21 0, xs.getD 22 0, xs.getD 23 0, xs.getD 24 0, xs.getD 25 0, xs.getD 26 0, xs.getD 27 0, xs.getD 28 0, xs.getD 29 0, xs.getD 30 0, xs.getD 31 0, xs.getD 32 0, xs.getD 33 0, xs.getD 34 0, xs.getD 35 0, xs.getD 36 0, xs.getD 37 0, xs.getD 38 0, xs.getD 39 0, xs.getD 40 0, xs.getD 41 0, xs.getD 42 0, xs.getD 43 0, xs.getD 44 0, xs.getD 45 0, xs.getD 46 0, xs.getD 47 0, xs.getD 48 0, xs.getD 49 0, xs.getD 50 0, xs.getD 51 0, xs.getD 52 0, xs.getD 53 0, xs.getD 54 0, xs.getD 55 0, xs.getD 56 0, xs.getD 57 0, xs.getD 58 0, xs.getD 59 0, xs.getD 60 0, xs.getD 61 0, xs.getD 62 0, xs.getD 63 0] = xs := by
  apply List.ext_getElem
  · simpa using h.symm
  · intro i h1 h2
    simp only [List.length_cons, List.length_nil] at h1
    have hi : i < 64 := by omega
    have : ∀ j : Nat, j < 64 → (hj : j < xs.length) → ((List.range 64).map (fun k => xs.getD k 0))[j]? = some (xs[j]) := by
      intro j hj hj2
      simp [hj, List.getD_eq_getElem?_getD, List.getElem?_eq_getElem hj2]
    have h3 := this i hi h2
    have h4 : ∀ l : List Int, l = (List.range 64).map (fun k => xs.getD k 0) → ∀ (hl : i < l.length), l[i] = xs[i] := by
      rintro l rfl hl
      rw [List.getElem?_eq_getElem hl] at h3
      exact Option.some.inj h3
    exact h4 _ rfl h1
theorem list32 {xs : List Int} (h : xs.length = 32) : [xs.getD 0 0, xs.getD 1 0, xs.getD 2 0, xs.getD 3 0, xs.getD 4 0, xs.getD 5 0, xs.getD 6 0, xs.getD 7 0, xs.getD 8 0, xs.getD 9 0, xs.getD 10 0, xs.getD 11 0, xs.getD 12 0, xs.getD 13 0, xs.getD 14 0, xs.getD 15 0, xs.getD 16 0, xs.getD 17 0, xs.getD 18 0, xs.getD 19 0, xs.getD 20 0, xs.getD 21 0, xs.getD 22 0, xs.getD 23 0, xs.getD 24 0, xs.getD 25 0, xs.getD 26 0, xs.getD 27 0, xs.getD 28 0, xs.getD 29 0, xs.getD 30 0, xs.getD 31 0] = xs := by
  apply List.ext_getElem
  · simpa using h.symm
  · intro i h1 h2
    simp only [List.length_cons, List.length_nil] at h1
    have hi : i < 32 := by omega
    have : ∀ j : Nat, j < 32 → (hj : j < xs.length) → ((List.range 32).map (fun k => xs.getD k 0))[j]? = some (xs[j]) := by
      intro j hj hj2
      simp [hj, List.getD_eq_getElem?_getD, List.getElem?_eq_getElem hj2]
    have h3 := this i hi h2
    have h4 : ∀ l : List Int, l = (List.range 32).map (fun k => xs.getD k 0) → ∀ (hl : i < l.length), l[i] = xs[i] := by
      rintro l rfl hl
      rw [List.getElem?_eq_getElem hl] at h3
      exact Option.some.inj h3
    exact h4 _ rfl h1
def gSum : G0 := fun args l K =>
  match args, l with
  | [.ptr 9 (.lit 0), .val (.slice none 0 0)], [(2, ⟨true, .ints .u32 ks⟩), (9, ⟨true, .segs [.cells [.int .u32 (.sym h0), .int .u32 (.sym h1), .int .u32 (.sym h2), .int .u32 (.sym h3), .int .u32 (.sym h4), .int .u32 (.sym h5), .int .u32 (.sym h6), .int .u32 (.sym h7)], .ints .u8 64 xs, .cells [.int .i64 (.sym nx), .int .u64 (.sym len), .bool (.lit false)]]⟩)] =>
    ∃ M, (ks = kL ∧ Abs M ⟨h0, h1, h2, h3, h4, h5, h6, h7⟩ xs nx len ∧ M.length < 2 ^ 39) ∧
      ∀ ys cap, ys.take 32 = sha M ∧ ys.length = cap ∧ 32 ≤ cap → K (.slice 617 (.lit 0) (.lit 32) (.sym cap)) (memL [(2, ⟨true, .ints .u32 kL⟩), (9, dgR true ⟨h0, h1, h2, h3, h4, h5, h6, h7⟩ xs nx len), (617, ⟨false, .ints .u8 ys⟩)])
  | _, _ => False
theorem sum_good : Good gSum := by
  constructor
  · intro args l K K' hk h
    unfold gSum at h ⊢
    split at h
    · obtain ⟨M, h1, h2⟩ := h
      exact ⟨M, h1, fun ys cap hy => hk _ _ (h2 ys cap hy)⟩
    · exact h.elim
  · intro args l K h
    unfold gSum at h
    split at h
    · obtain ⟨M, h1, h2⟩ := h
      exact ⟨_, _, h2 (sha M) 32 ⟨rfl, rfl, Nat.le_refl _⟩⟩
    · exact h.elim
set_option maxHeartbeats 4000000
theorem sum_ok (args : List SV) (l : List (Nat × Reg)) (K : SV → Mem → Prop) (hup : KUp K) (h : gSum args l K) : ∃ U, execF cxSum U Tryd.f26 64 args (memL l) K := by
  refine ⟨u0, ?_⟩
  unfold gSum at h
  split at h
  · rename_i ks h0 h1 h2 h3 h4 h5 h6 h7 xs nx len
    obtain ⟨M, ⟨hk, k1, k2⟩, k3⟩ := h
    subst hk
    have := vc_sum ⟨h0, h1, h2, h3, h4, h5, h6, h7⟩ xs nx len K
    unfold dgR i32 at this
    rw [this]
    rintro x0 rfl x1 rfl x2 rfl x3 rfl x4 rfl x5 rfl x6 rfl x7 rfl x8 rfl x9 rfl x10 rfl x11 rfl x12 rfl x13 rfl x14 rfl x15 rfl x16 rfl x17 rfl x18 rfl x19 rfl x20 rfl x21 rfl x22 rfl x23 rfl x24 rfl x25 rfl x26 rfl x27 rfl x28 rfl x29 rfl x30 rfl x31 rfl x32 rfl x33 rfl x34 rfl x35 rfl x36 rfl x37 rfl x38 rfl x39 rfl x40 rfl x41 rfl x42 rfl x43 rfl x44 rfl x45 rfl x46 rfl x47 rfl x48 rfl x49 rfl x50 rfl x51 rfl x52 rfl x53 rfl x54 rfl x55 rfl x56 rfl x57 rfl x58 rfl x59 rfl x60 rfl x61 rfl x62 rfl x63 rfl x64 rfl x65 rfl x66 rfl x67 rfl x68 rfl x69 rfl x70 rfl x71 rfl x72 rfl x73 rfl
    rw [list64 k1.xl]
    refine ⟨M, ⟨rfl, k1, k2⟩, ?_⟩
    rintro bs hbs x76 x77 x78 x79 ys80 rfl
    have hbl : bs.length = 32 := by rw [hbs]; rfl
    rw [list32 hbl]
    refine ⟨⟨trivial, by rw [hbl]; exact Nat.le_refl _, by omega, by omega⟩, fun h => absurd h (by omega), fun _ => ?_⟩
    rintro cap ys ⟨hc, hr, ht⟩
    rw [Nat.mul_one] at hr
    have hb : List.take 32 (List.drop 0 bs) = bs := by rw [List.drop_zero, List.take_of_length_le (by omega)]
    rw [hb, List.nil_append, hbs] at ht
    refine hup.le (memL_sub [2, 9, 545, 569, 617] rfl (by decide) ?_) (k3 ys cap ⟨ht, hr, hc⟩)
    intro x hx
    simp only [List.mem_cons, List.not_mem_nil, or_false] at hx ⊢
    rcases hx with h | h | h
    · exact .inl h
    · exact .inr (.inl h)
    · exact .inr (.inr (.inr (.inr h)))
  · exact h.elim
def cSum : Ef Tryd.prog := mkE mixed 26 Tryd.func26 (by decide) (by kernel_rfl) [1] [.parts dgSh true, .sl 1 false] gSum sum_good sum_ok
end Go.Sx

/- The contract of errors.New. -/
namespace Go.Sx
open Go Go.Proofs
set_option maxRecDepth 100000
theorem vc_errn (b : ByteArray) (K : SV → Mem → Prop) : (execF cx0 u0 Tryd.f22 64 [.val (.string b)] (memL []) K) =
  ((K (Go.Sx.SV.iface (73 : Nat) (Go.Sx.SV.ptr (537 : Nat) (Go.Sx.N.lit (0 : Nat)))) (Go.Sx.memL [((537 : Nat), (Go.Sx.Reg.mk Bool.false (Go.Sx.Ct.cells [(Go.Sx.SV.val (Go.Value.string b))])))]))) := by kernel_rfl
def gErr : G0 := fun args l K =>
  match args, l with
  | [.val (.string b)], [] => K (.iface 73 (.ptr 537 (.lit 0))) (memL [(537, ⟨false, .cells [.val (.string b)]⟩)])
  | _, _ => False
theorem err_good : Good gErr := by
  constructor
  · intro args l K K' hk h
    unfold gErr at h ⊢
    split at h
    · exact hk _ _ h
    · exact h.elim
  · intro args l K h
    unfold gErr at h
    split at h
    · exact ⟨_, _, h⟩
    · exact h.elim
theorem err_ok (args : List SV) (l : List (Nat × Reg)) (K : SV → Mem → Prop) (_ : KUp K) (h : gErr args l K) : ∃ U, execF cx0 U Tryd.f22 64 args (memL l) K := by
  refine ⟨u0, ?_⟩
  unfold gErr at h
  split at h
  · rw [vc_errn]
    exact h
  · exact h.elim
def cErr : Ef Tryd.prog := mkE mixed 22 Tryd.func22 (by decide) (by kernel_rfl) [] [.val] gErr err_good err_ok
end Go.Sx

/- expand_message_xmd over SHA-256, in plain Lean. -/
namespace Go.Sx
open Go
def xorL (a b : List Int) : List Int := (List.range 32).map fun k => bxor .u8 (a.getD k 0) (b.getD k 0)
/-- The blocks. -/
def bI (first D : List Int) : Nat → List Int
  | 0 => List.replicate 32 0
  | i + 1 => sha (xorL first (bI first D i) ++ [IntKind.u8.wrap ((i : Int) + 1)] ++ D)
def outN (first D : List Int) : Nat → List Int
  | 0 => []
  | i + 1 => outN first D i ++ bI first D (i + 1)
def domL (dst : List Int) : List Int := dst ++ [IntKind.u8.wrap (dst.length : Nat)]
def firstL (msg dst : List Int) (n : Int) : List Int := sha (List.replicate 64 0 ++ msg ++ [IntKind.u8.wrap (IntKind.i64.wrap (Int.tdiv n 256)), IntKind.u8.wrap n, 0] ++ domL dst)
def expand (msg dst : List Int) (n : Nat) : List Int := (outN (firstL msg dst n) (domL dst) ((n + 31) / 32)).take n

theorem xorL_length (a b : List Int) : (xorL a b).length = 32 := by simp [xorL]
theorem xorL_bytes (a b : List Int) : Bytes (xorL a b) := by
  intro x hx
  unfold xorL at hx
  obtain ⟨k, _, rfl⟩ := List.mem_map.1 hx
  exact u8_range _
theorem bI_length (first D : List Int) : ∀ i, (bI first D i).length = 32
  | 0 => by simp [bI]
  | i + 1 => rfl
theorem bI_bytes (first D : List Int) : ∀ i, Bytes (bI first D i)
  | 0 => by intro x hx; simp [bI] at hx; omega
  | i + 1 => sha_bytes _
theorem outN_length (first D : List Int) : ∀ i, (outN first D i).length = 32 * i
  | 0 => rfl
  | i + 1 => by simp [outN, outN_length first D i, bI_length]; omega
theorem domL_length (dst : List Int) : (domL dst).length = dst.length + 1 := by simp [domL]
theorem domL_bytes {dst : List Int} (h : Bytes dst) : Bytes (domL dst) := by
  refine h.append ?_
  intro x hx
  simp only [List.mem_cons, List.not_mem_nil, or_false] at hx
  rw [hx]
  exact u8_range _
theorem outN_prefix (first D : List Int) {i j : Nat} (h : i ≤ j) {n : Nat} (hn : n ≤ 32 * i) : (outN first D j).take n = (outN first D i).take n := by
  induction j with
  | zero => rw [show i = 0 by omega]
  | succ j ih =>
    rcases Nat.lt_or_ge i (j + 1) with hlt | hge
    · rw [outN, List.take_append_of_le_length (by rw [outN_length]; omega)]
      exact ih (by omega)
    · rw [show i = j + 1 by omega]
theorem xorL_congr {a a' b b' : List Int} (ha : a.take 32 = a'.take 32) (hb : b.take 32 = b'.take 32) : xorL a b = xorL a' b' := by
  unfold xorL
  apply List.map_congr_left
  intro k hk
  have hk := List.mem_range.1 hk
  have e : ∀ x y : List Int, x.take 32 = y.take 32 → x.getD k 0 = y.getD k 0 := by
    intro x y h
    have := congrArg (fun l => l.getD k 0) h
    simpa [List.getD_eq_getElem?_getD, List.getElem?_take, hk] using this
  rw [e _ _ ha, e _ _ hb]
theorem xorL_take {a b : List Int} {k : Nat} (h : k < 32) : (xorL a b).take (k + 1) = (xorL a b).take k ++ [bxor .u8 (a.getD k 0) (b.getD k 0)] := by
  rw [List.take_add_one]
  congr 1
  unfold xorL
  simp [h]
end Go.Sx

/- The contract of spec.Joined. -/
namespace Go.Sx
open Go Go.Proofs
set_option maxRecDepth 100000
theorem vc_join4 (x1 x2 x3 x4 : List Int) (n1 n2 n3 n4 c1 c2 c3 c4 : Nat) (K : SV → Mem → Prop) : (execF cx0 u9 Tryd.f16 64 [.slice 33 (.lit 0) (.lit 4) (.lit 4)] (memL [(1, ⟨true, .ints .u8 x1⟩), (9, ⟨true, .ints .u8 x2⟩), (17, ⟨true, .ints .u8 x3⟩), (25, ⟨true, .ints .u8 x4⟩), (33, ⟨true, .cells [.slice 1 (.lit 0) (.sym n1) (.sym c1), .slice 9 (.lit 0) (.sym n2) (.sym c2), .slice 17 (.lit 0) (.sym n3) (.sym c3), .slice 25 (.lit 0) (.sym n4) (.sym c4)]⟩)]) K) =
  ((((((0 : Nat) ≤ (0 : Nat)) ∧
 ((0 : Nat) ≤ (0 : Nat))) ∧
 ((Nat.le ((0 : Nat) + (n1 * (1 : Nat))) (List.length x1)) ∧
 (((((0 : Nat) + n1) * (1 : Nat)) ≤ (549755813888 : Nat)) ∧
 (((0 : Nat) + n1) ≤ (549755813888 : Nat))))) ∧
 (∀ (cap0 : Nat), (∀ (ys1 : (List Int)), (((((0 : Nat) + n1) ≤ cap0) ∧
 (((List.length ys1) = (cap0 * (1 : Nat))) ∧
 ((List.take (((0 : Nat) + n1) * (1 : Nat)) ys1) = ((List.take (0 : Nat) (List.drop (0 : Nat) [])) ++ (List.take (n1 * (1 : Nat)) (List.drop (0 : Nat) x1)))))) → ((((n1 ≤ cap0) ∧
 (((0 : Nat) + (cap0 * (1 : Nat))) ≤ (List.length ys1))) ∧
 ((Nat.le ((0 : Nat) + (n2 * (1 : Nat))) (List.length x2)) ∧
 ((((n1 + n2) * (1 : Nat)) ≤ (549755813888 : Nat)) ∧
 ((n1 + n2) ≤ (549755813888 : Nat))))) ∧
 (∀ (cap2 : Nat), (∀ (ys3 : (List Int)), ((((n1 + n2) ≤ cap2) ∧
 (((List.length ys3) = (cap2 * (1 : Nat))) ∧
 ((List.take ((n1 + n2) * (1 : Nat)) ys3) = ((List.take (n1 * (1 : Nat)) (List.drop (0 : Nat) ys1)) ++ (List.take (n2 * (1 : Nat)) (List.drop (0 : Nat) x2)))))) → (((((n1 + n2) ≤ cap2) ∧
 (((0 : Nat) + (cap2 * (1 : Nat))) ≤ (List.length ys3))) ∧
 ((Nat.le ((0 : Nat) + (n3 * (1 : Nat))) (List.length x3)) ∧
 (((((n1 + n2) + n3) * (1 : Nat)) ≤ (549755813888 : Nat)) ∧
 (((n1 + n2) + n3) ≤ (549755813888 : Nat))))) ∧
 (∀ (cap4 : Nat), (∀ (ys5 : (List Int)), (((((n1 + n2) + n3) ≤ cap4) ∧
 (((List.length ys5) = (cap4 * (1 : Nat))) ∧
 ((List.take (((n1 + n2) + n3) * (1 : Nat)) ys5) = ((List.take ((n1 + n2) * (1 : Nat)) (List.drop (0 : Nat) ys3)) ++ (List.take (n3 * (1 : Nat)) (List.drop (0 : Nat) x3)))))) → ((((((n1 + n2) + n3) ≤ cap4) ∧
 (((0 : Nat) + (cap4 * (1 : Nat))) ≤ (List.length ys5))) ∧
 ((Nat.le ((0 : Nat) + (n4 * (1 : Nat))) (List.length x4)) ∧
 ((((((n1 + n2) + n3) + n4) * (1 : Nat)) ≤ (549755813888 : Nat)) ∧
 ((((n1 + n2) + n3) + n4) ≤ (549755813888 : Nat))))) ∧
 (∀ (cap6 : Nat), (∀ (ys7 : (List Int)), ((((((n1 + n2) + n3) + n4) ≤ cap6) ∧
 (((List.length ys7) = (cap6 * (1 : Nat))) ∧
 ((List.take ((((n1 + n2) + n3) + n4) * (1 : Nat)) ys7) = ((List.take (((n1 + n2) + n3) * (1 : Nat)) (List.drop (0 : Nat) ys5)) ++ (List.take (n4 * (1 : Nat)) (List.drop (0 : Nat) x4)))))) → (K (Go.Sx.SV.slice (953 : Nat) (Go.Sx.N.lit (0 : Nat)) (Go.Sx.N.sym (((n1 + n2) + n3) + n4)) (Go.Sx.N.sym cap6)) (Go.Sx.memL [((1 : Nat), (Go.Sx.Reg.mk Bool.true (Go.Sx.Ct.ints Go.IntKind.u8 x1))), ((9 : Nat), (Go.Sx.Reg.mk Bool.true (Go.Sx.Ct.ints Go.IntKind.u8 x2))), ((17 : Nat), (Go.Sx.Reg.mk Bool.true (Go.Sx.Ct.ints Go.IntKind.u8 x3))), ((25 : Nat), (Go.Sx.Reg.mk Bool.true (Go.Sx.Ct.ints Go.IntKind.u8 x4))), ((33 : Nat), (Go.Sx.Reg.mk Bool.true (Go.Sx.Ct.cells [(Go.Sx.SV.slice (1 : Nat) (Go.Sx.N.lit (0 : Nat)) (Go.Sx.N.sym n1) (Go.Sx.N.sym c1)), (Go.Sx.SV.slice (9 : Nat) (Go.Sx.N.lit (0 : Nat)) (Go.Sx.N.sym n2) (Go.Sx.N.sym c2)), (Go.Sx.SV.slice (17 : Nat) (Go.Sx.N.lit (0 : Nat)) (Go.Sx.N.sym n3) (Go.Sx.N.sym c3)), (Go.Sx.SV.slice (25 : Nat) (Go.Sx.N.lit (0 : Nat)) (Go.Sx.N.sym n4) (Go.Sx.N.sym c4))]))), ((953 : Nat), (Go.Sx.Reg.mk Bool.false (Go.Sx.Ct.ints Go.IntKind.u8 ys7)))]))))))))))))))))))) := by kernel_rfl
theorem vc_join3 (x1 x2 x3 : List Int) (n1 n2 n3 c1 c2 c3 : Nat) (K : SV → Mem → Prop) : (execF cx0 u9 Tryd.f16 64 [.slice 25 (.lit 0) (.lit 3) (.lit 3)] (memL [(1, ⟨true, .ints .u8 x1⟩), (9, ⟨true, .ints .u8 x2⟩), (17, ⟨true, .ints .u8 x3⟩), (25, ⟨true, .cells [.slice 1 (.lit 0) (.sym n1) (.sym c1), .slice 9 (.lit 0) (.sym n2) (.sym c2), .slice 17 (.lit 0) (.sym n3) (.sym c3)]⟩)]) K) =
  ((((((0 : Nat) ≤ (0 : Nat)) ∧
 ((0 : Nat) ≤ (0 : Nat))) ∧
 ((Nat.le ((0 : Nat) + (n1 * (1 : Nat))) (List.length x1)) ∧
 (((((0 : Nat) + n1) * (1 : Nat)) ≤ (549755813888 : Nat)) ∧
 (((0 : Nat) + n1) ≤ (549755813888 : Nat))))) ∧
 (∀ (cap0 : Nat), (∀ (ys1 : (List Int)), (((((0 : Nat) + n1) ≤ cap0) ∧
 (((List.length ys1) = (cap0 * (1 : Nat))) ∧
 ((List.take (((0 : Nat) + n1) * (1 : Nat)) ys1) = ((List.take (0 : Nat) (List.drop (0 : Nat) [])) ++ (List.take (n1 * (1 : Nat)) (List.drop (0 : Nat) x1)))))) → ((((n1 ≤ cap0) ∧
 (((0 : Nat) + (cap0 * (1 : Nat))) ≤ (List.length ys1))) ∧
 ((Nat.le ((0 : Nat) + (n2 * (1 : Nat))) (List.length x2)) ∧
 ((((n1 + n2) * (1 : Nat)) ≤ (549755813888 : Nat)) ∧
 ((n1 + n2) ≤ (549755813888 : Nat))))) ∧
 (∀ (cap2 : Nat), (∀ (ys3 : (List Int)), ((((n1 + n2) ≤ cap2) ∧
 (((List.length ys3) = (cap2 * (1 : Nat))) ∧
 ((List.take ((n1 + n2) * (1 : Nat)) ys3) = ((List.take (n1 * (1 : Nat)) (List.drop (0 : Nat) ys1)) ++ (List.take (n2 * (1 : Nat)) (List.drop (0 : Nat) x2)))))) → (((((n1 + n2) ≤ cap2) ∧
 (((0 : Nat) + (cap2 * (1 : Nat))) ≤ (List.length ys3))) ∧
 ((Nat.le ((0 : Nat) + (n3 * (1 : Nat))) (List.length x3)) ∧
 (((((n1 + n2) + n3) * (1 : Nat)) ≤ (549755813888 : Nat)) ∧
 (((n1 + n2) + n3) ≤ (549755813888 : Nat))))) ∧
 (∀ (cap4 : Nat), (∀ (ys5 : (List Int)), (((((n1 + n2) + n3) ≤ cap4) ∧
 (((List.length ys5) = (cap4 * (1 : Nat))) ∧
 ((List.take (((n1 + n2) + n3) * (1 : Nat)) ys5) = ((List.take ((n1 + n2) * (1 : Nat)) (List.drop (0 : Nat) ys3)) ++ (List.take (n3 * (1 : Nat)) (List.drop (0 : Nat) x3)))))) → (K (Go.Sx.SV.slice (841 : Nat) (Go.Sx.N.lit (0 : Nat)) (Go.Sx.N.sym ((n1 + n2) + n3)) (Go.Sx.N.sym cap4)) (Go.Sx.memL [((1 : Nat), (Go.Sx.Reg.mk Bool.true (Go.Sx.Ct.ints Go.IntKind.u8 x1))), ((9 : Nat), (Go.Sx.Reg.mk Bool.true (Go.Sx.Ct.ints Go.IntKind.u8 x2))), ((17 : Nat), (Go.Sx.Reg.mk Bool.true (Go.Sx.Ct.ints Go.IntKind.u8 x3))), ((25 : Nat), (Go.Sx.Reg.mk Bool.true (Go.Sx.Ct.cells [(Go.Sx.SV.slice (1 : Nat) (Go.Sx.N.lit (0 : Nat)) (Go.Sx.N.sym n1) (Go.Sx.N.sym c1)), (Go.Sx.SV.slice (9 : Nat) (Go.Sx.N.lit (0 : Nat)) (Go.Sx.N.sym n2) (Go.Sx.N.sym c2)), (Go.Sx.SV.slice (17 : Nat) (Go.Sx.N.lit (0 : Nat)) (Go.Sx.N.sym n3) (Go.Sx.N.sym c3))]))), ((841 : Nat), (Go.Sx.Reg.mk Bool.false (Go.Sx.Ct.ints Go.IntKind.u8 ys5)))]))))))))))))))) := by kernel_rfl
theorem vc_joinn (x1 x3 x4 : List Int) (n1 n3 n4 c1 c3 c4 : Nat) (K : SV → Mem → Prop) : (execF cx0 u9 Tryd.f16 64 [.slice 25 (.lit 0) (.lit 4) (.lit 4)] (memL [(1, ⟨true, .ints .u8 x1⟩), (9, ⟨true, .ints .u8 x3⟩), (17, ⟨true, .ints .u8 x4⟩), (25, ⟨true, .cells [.slice 1 (.lit 0) (.sym n1) (.sym c1), .val (.slice none 0 0), .slice 9 (.lit 0) (.sym n3) (.sym c3), .slice 17 (.lit 0) (.sym n4) (.sym c4)]⟩)]) K) =
  ((((((0 : Nat) ≤ (0 : Nat)) ∧
 ((0 : Nat) ≤ (0 : Nat))) ∧
 ((Nat.le ((0 : Nat) + (n1 * (1 : Nat))) (List.length x1)) ∧
 (((((0 : Nat) + n1) * (1 : Nat)) ≤ (549755813888 : Nat)) ∧
 (((0 : Nat) + n1) ≤ (549755813888 : Nat))))) ∧
 (∀ (cap0 : Nat), (∀ (ys1 : (List Int)), (((((0 : Nat) + n1) ≤ cap0) ∧
 (((List.length ys1) = (cap0 * (1 : Nat))) ∧
 ((List.take (((0 : Nat) + n1) * (1 : Nat)) ys1) = ((List.take (0 : Nat) (List.drop (0 : Nat) [])) ++ (List.take (n1 * (1 : Nat)) (List.drop (0 : Nat) x1)))))) → ((((n1 ≤ cap0) ∧
 (((0 : Nat) + (cap0 * (1 : Nat))) ≤ (List.length ys1))) ∧
 (True ∧
 ((((n1 + (0 : Nat)) * (1 : Nat)) ≤ (549755813888 : Nat)) ∧
 ((n1 + (0 : Nat)) ≤ (549755813888 : Nat))))) ∧
 (∀ (cap2 : Nat), (∀ (ys3 : (List Int)), ((((n1 + (0 : Nat)) ≤ cap2) ∧
 (((List.length ys3) = (cap2 * (1 : Nat))) ∧
 ((List.take ((n1 + (0 : Nat)) * (1 : Nat)) ys3) = ((List.take (n1 * (1 : Nat)) (List.drop (0 : Nat) ys1)) ++ [])))) → (((((n1 + (0 : Nat)) ≤ cap2) ∧
 (((0 : Nat) + (cap2 * (1 : Nat))) ≤ (List.length ys3))) ∧
 ((Nat.le ((0 : Nat) + (n3 * (1 : Nat))) (List.length x3)) ∧
 (((((n1 + (0 : Nat)) + n3) * (1 : Nat)) ≤ (549755813888 : Nat)) ∧
 (((n1 + (0 : Nat)) + n3) ≤ (549755813888 : Nat))))) ∧
 (∀ (cap4 : Nat), (∀ (ys5 : (List Int)), (((((n1 + (0 : Nat)) + n3) ≤ cap4) ∧
 (((List.length ys5) = (cap4 * (1 : Nat))) ∧
 ((List.take (((n1 + (0 : Nat)) + n3) * (1 : Nat)) ys5) = ((List.take ((n1 + (0 : Nat)) * (1 : Nat)) (List.drop (0 : Nat) ys3)) ++ (List.take (n3 * (1 : Nat)) (List.drop (0 : Nat) x3)))))) → ((((((n1 + (0 : Nat)) + n3) ≤ cap4) ∧
 (((0 : Nat) + (cap4 * (1 : Nat))) ≤ (List.length ys5))) ∧
 ((Nat.le ((0 : Nat) + (n4 * (1 : Nat))) (List.length x4)) ∧
 ((((((n1 + (0 : Nat)) + n3) + n4) * (1 : Nat)) ≤ (549755813888 : Nat)) ∧
 ((((n1 + (0 : Nat)) + n3) + n4) ≤ (549755813888 : Nat))))) ∧
 (∀ (cap6 : Nat), (∀ (ys7 : (List Int)), ((((((n1 + (0 : Nat)) + n3) + n4) ≤ cap6) ∧
 (((List.length ys7) = (cap6 * (1 : Nat))) ∧
 ((List.take ((((n1 + (0 : Nat)) + n3) + n4) * (1 : Nat)) ys7) = ((List.take (((n1 + (0 : Nat)) + n3) * (1 : Nat)) (List.drop (0 : Nat) ys5)) ++ (List.take (n4 * (1 : Nat)) (List.drop (0 : Nat) x4)))))) → (K (Go.Sx.SV.slice (953 : Nat) (Go.Sx.N.lit (0 : Nat)) (Go.Sx.N.sym (((n1 + (0 : Nat)) + n3) + n4)) (Go.Sx.N.sym cap6)) (Go.Sx.memL [((1 : Nat), (Go.Sx.Reg.mk Bool.true (Go.Sx.Ct.ints Go.IntKind.u8 x1))), ((9 : Nat), (Go.Sx.Reg.mk Bool.true (Go.Sx.Ct.ints Go.IntKind.u8 x3))), ((17 : Nat), (Go.Sx.Reg.mk Bool.true (Go.Sx.Ct.ints Go.IntKind.u8 x4))), ((25 : Nat), (Go.Sx.Reg.mk Bool.true (Go.Sx.Ct.cells [(Go.Sx.SV.slice (1 : Nat) (Go.Sx.N.lit (0 : Nat)) (Go.Sx.N.sym n1) (Go.Sx.N.sym c1)), (Go.Sx.SV.val (Go.Value.slice Option.none (0 : Nat) (0 : Nat))), (Go.Sx.SV.slice (9 : Nat) (Go.Sx.N.lit (0 : Nat)) (Go.Sx.N.sym n3) (Go.Sx.N.sym c3)), (Go.Sx.SV.slice (17 : Nat) (Go.Sx.N.lit (0 : Nat)) (Go.Sx.N.sym n4) (Go.Sx.N.sym c4))]))), ((953 : Nat), (Go.Sx.Reg.mk Bool.false (Go.Sx.Ct.ints Go.IntKind.u8 ys7)))]))))))))))))))))))) := by kernel_rfl

/-- A row with room behind: what stands in front. -/
structure Rw (ys xs : List Int) (n cap : Nat) : Prop where
  xl : xs.length = n
  le : n ≤ cap
  len : ys.length = cap
  row : ys.take n = xs
theorem Rw.self (xs : List Int) : Rw xs xs xs.length xs.length := ⟨rfl, Nat.le_refl _, rfl, List.take_of_length_le (Nat.le_refl _)⟩
theorem Rw.step {ys xs zs us : List Int} {n m cap cap' : Nat} (h : Rw ys xs n cap) (hz : zs.length = m) (hc : n + m ≤ cap') (hl : us.length = cap') (ht : us.take (n + m) = ys.take n ++ zs) : Rw us (xs ++ zs) (n + m) cap' :=
  ⟨by rw [List.length_append, h.xl, hz], hc, hl, by rw [ht, h.row]⟩
def gJoin : G0 := fun args l K =>
  match args, l with
  | [.slice 33 (.lit 0) (.lit 4) (.lit 4)], [(1, ⟨true, .ints .u8 x1⟩), (9, ⟨true, .ints .u8 x2⟩), (17, ⟨true, .ints .u8 x3⟩), (25, ⟨true, .ints .u8 x4⟩), (33, ⟨true, .cells [.slice 1 (.lit 0) (.sym n1) (.sym c1), .slice 9 (.lit 0) (.sym n2) (.sym c2), .slice 17 (.lit 0) (.sym n3) (.sym c3), .slice 25 (.lit 0) (.sym n4) (.sym c4)]⟩)] =>
    ((x1.length = n1 ∧ x2.length = n2 ∧ x3.length = n3 ∧ x4.length = n4) ∧ n1 + n2 + n3 + n4 ≤ 2 ^ 39) ∧
    ∀ ys cap n, Rw ys (x1 ++ x2 ++ x3 ++ x4) n cap → K (.slice 953 (.lit 0) (.sym n) (.sym cap)) (memL [(1, ⟨true, .ints .u8 x1⟩), (9, ⟨true, .ints .u8 x2⟩), (17, ⟨true, .ints .u8 x3⟩), (25, ⟨true, .ints .u8 x4⟩),
      (33, ⟨true, .cells [.slice 1 (.lit 0) (.sym n1) (.sym c1), .slice 9 (.lit 0) (.sym n2) (.sym c2), .slice 17 (.lit 0) (.sym n3) (.sym c3), .slice 25 (.lit 0) (.sym n4) (.sym c4)]⟩), (953, ⟨false, .ints .u8 ys⟩)])
  | [.slice 25 (.lit 0) (.lit 3) (.lit 3)], [(1, ⟨true, .ints .u8 x1⟩), (9, ⟨true, .ints .u8 x2⟩), (17, ⟨true, .ints .u8 x3⟩), (25, ⟨true, .cells [.slice 1 (.lit 0) (.sym n1) (.sym c1), .slice 9 (.lit 0) (.sym n2) (.sym c2), .slice 17 (.lit 0) (.sym n3) (.sym c3)]⟩)] =>
    ((x1.length = n1 ∧ x2.length = n2 ∧ x3.length = n3) ∧ n1 + n2 + n3 ≤ 2 ^ 39) ∧
    ∀ ys cap n, Rw ys (x1 ++ x2 ++ x3) n cap → K (.slice 841 (.lit 0) (.sym n) (.sym cap)) (memL [(1, ⟨true, .ints .u8 x1⟩), (9, ⟨true, .ints .u8 x2⟩), (17, ⟨true, .ints .u8 x3⟩),
      (25, ⟨true, .cells [.slice 1 (.lit 0) (.sym n1) (.sym c1), .slice 9 (.lit 0) (.sym n2) (.sym c2), .slice 17 (.lit 0) (.sym n3) (.sym c3)]⟩), (841, ⟨false, .ints .u8 ys⟩)])
  | [.slice 25 (.lit 0) (.lit 4) (.lit 4)], [(1, ⟨true, .ints .u8 x1⟩), (9, ⟨true, .ints .u8 x3⟩), (17, ⟨true, .ints .u8 x4⟩), (25, ⟨true, .cells [.slice 1 (.lit 0) (.sym n1) (.sym c1), .val (.slice none 0 0), .slice 9 (.lit 0) (.sym n3) (.sym c3), .slice 17 (.lit 0) (.sym n4) (.sym c4)]⟩)] =>
    ((x1.length = n1 ∧ x3.length = n3 ∧ x4.length = n4) ∧ n1 + n3 + n4 ≤ 2 ^ 39) ∧
    ∀ ys cap n, Rw ys (x1 ++ x3 ++ x4) n cap → K (.slice 953 (.lit 0) (.sym n) (.sym cap)) (memL [(1, ⟨true, .ints .u8 x1⟩), (9, ⟨true, .ints .u8 x3⟩), (17, ⟨true, .ints .u8 x4⟩),
      (25, ⟨true, .cells [.slice 1 (.lit 0) (.sym n1) (.sym c1), .val (.slice none 0 0), .slice 9 (.lit 0) (.sym n3) (.sym c3), .slice 17 (.lit 0) (.sym n4) (.sym c4)]⟩), (953, ⟨false, .ints .u8 ys⟩)])
  | _, _ => False
theorem join_good : Good gJoin := by
  constructor
  · intro args l K K' hk h
    unfold gJoin at h ⊢
    split at h
    · exact ⟨h.1, fun ys cap n hy => hk _ _ (h.2 ys cap n hy)⟩
    · exact ⟨h.1, fun ys cap n hy => hk _ _ (h.2 ys cap n hy)⟩
    · exact ⟨h.1, fun ys cap n hy => hk _ _ (h.2 ys cap n hy)⟩
    · exact h.elim
  · intro args l K h
    unfold gJoin at h
    split at h
    · exact ⟨_, _, h.2 _ _ _ (Rw.self _)⟩
    · exact ⟨_, _, h.2 _ _ _ (Rw.self _)⟩
    · exact ⟨_, _, h.2 _ _ _ (Rw.self _)⟩
    · exact h.elim
theorem Rw.first {ys xs : List Int} {n cap : Nat} (hx : xs.length = n) (h : 0 + n ≤ cap ∧ ys.length = cap * 1 ∧ ys.take ((0 + n) * 1) = List.take 0 (List.drop 0 []) ++ List.take (n * 1) (List.drop 0 xs)) : Rw ys xs n cap := by
  simp only [Nat.zero_add, Nat.mul_one, List.drop_zero, List.take_zero, List.nil_append] at h
  exact ⟨hx, h.1, h.2.1, by rw [h.2.2, List.take_of_length_le (by omega)]⟩
theorem Rw.next {ys xs zs us : List Int} {n m cap cap' : Nat} (h : Rw ys xs n cap) (hz : zs.length = m) (hu : n + m ≤ cap' ∧ us.length = cap' * 1 ∧ us.take ((n + m) * 1) = List.take (n * 1) (List.drop 0 ys) ++ List.take (m * 1) (List.drop 0 zs)) :
    Rw us (xs ++ zs) (n + m) cap' := by
  simp only [Nat.mul_one, List.drop_zero] at hu
  exact h.step hz hu.1 hu.2.1 (by rw [hu.2.2, List.take_of_length_le (by omega : zs.length ≤ m)])
theorem Rw.fits {ys xs : List Int} {n cap : Nat} (h : Rw ys xs n cap) : n ≤ cap ∧ 0 + cap * 1 ≤ ys.length := ⟨h.le, by rw [h.len]; omega⟩
theorem Rw.nothing {ys xs us : List Int} {n cap cap' : Nat} (h : Rw ys xs n cap) (hu : n + 0 ≤ cap' ∧ us.length = cap' * 1 ∧ us.take ((n + 0) * 1) = List.take (n * 1) (List.drop 0 ys) ++ []) :
    Rw us xs (n + 0) cap' := by
  have := h.next (zs := []) (m := 0) rfl (by simpa using hu)
  rwa [List.append_nil] at this
theorem join_ok (args : List SV) (l : List (Nat × Reg)) (K : SV → Mem → Prop) (_ : KUp K) (h : gJoin args l K) : ∃ U, execF cx0 U Tryd.f16 64 args (memL l) K := by
  refine ⟨u9, ?_⟩
  unfold gJoin at h
  split at h
  · obtain ⟨⟨⟨h1, h2, h3, h4⟩, h5⟩, h6⟩ := h
    rw [vc_join4]
    refine ⟨⟨by omega, nle (by omega), by omega, by omega⟩, fun cap1 y1 e1 => ?_⟩
    have r1 := Rw.first h1 e1
    refine ⟨⟨r1.fits, nle (by omega), by omega, by omega⟩, fun cap2 y2 e2 => ?_⟩
    have r2 := r1.next h2 e2
    refine ⟨⟨r2.fits, nle (by omega), by omega, by omega⟩, fun cap3 y3 e3 => ?_⟩
    have r3 := r2.next h3 e3
    refine ⟨⟨r3.fits, nle (by omega), by omega, by omega⟩, fun cap4 y4 e4 => ?_⟩
    exact h6 _ _ _ (r3.next h4 e4)
  · obtain ⟨⟨⟨h1, h2, h3⟩, h5⟩, h6⟩ := h
    rw [vc_join3]
    refine ⟨⟨by omega, nle (by omega), by omega, by omega⟩, fun cap1 y1 e1 => ?_⟩
    have r1 := Rw.first h1 e1
    refine ⟨⟨r1.fits, nle (by omega), by omega, by omega⟩, fun cap2 y2 e2 => ?_⟩
    have r2 := r1.next h2 e2
    refine ⟨⟨r2.fits, nle (by omega), by omega, by omega⟩, fun cap3 y3 e3 => ?_⟩
    exact h6 _ _ _ (r2.next h3 e3)
  · obtain ⟨⟨⟨h1, h3, h4⟩, h5⟩, h6⟩ := h
    rw [vc_joinn]
    refine ⟨⟨by omega, nle (by omega), by omega, by omega⟩, fun cap1 y1 e1 => ?_⟩
    have r1 := Rw.first h1 e1
    refine ⟨⟨r1.fits, trivial, by omega, by omega⟩, fun cap2 y2 e2 => ?_⟩
    have r2 := r1.nothing e2
    refine ⟨⟨r2.fits, nle (by omega), by omega, by omega⟩, fun cap3 y3 e3 => ?_⟩
    have r3 := r2.next h3 e3
    refine ⟨⟨r3.fits, nle (by omega), by omega, by omega⟩, fun cap4 y4 e4 => ?_⟩
    exact h6 _ _ _ (r3.next h4 e4)
  · exact h.elim
def cJoin : Ef Tryd.prog := mkE mixed 16 Tryd.func16 (by decide) (by kernel_rfl) [] [.sls] gJoin join_good join_ok
end Go.Sx

/- The contract of spec.constants. -/
namespace Go.Sx
open Go Go.Proofs
set_option maxRecDepth 100000
def rConst : R0 := fun args l =>
  match args, l with
  | [], [] => some (none, .agg (kL.map fun x => .int .u32 (.lit x)))
  | _, _ => none
theorem const_ok (args : List SV) (l : List (Nat × Reg)) (p : Ob) (v : SV) (h : rConst args l = some (p, v)) (_ : p.ok) : ∃ U, execF cx0 U Tryd.f49 64 args (memL l) fun v' _ => v' = v := by
  refine ⟨u0, ?_⟩
  unfold rConst at h
  split at h
  · simp only [Option.some.injEq, Prod.mk.injEq] at h
    obtain ⟨rfl, rfl⟩ := h
    rw [vc_const]
    rfl
  · cases h
def cConst : Rd Tryd.prog := mkR mixed 49 Tryd.func49 (by decide) (by kernel_rfl) [] [] rConst const_ok
def cxSB : Cx Tryd.prog := { rds := [cTurned, cConst], efs := [], eqs := [] }
end Go.Sx

/- The loops of spec.block. -/
namespace Go.Sx
open Go Go.Proofs
def i64n (n : Nat) : SV := .int .i64 (.sym (n : Nat))
def liSB0 (xs : List Int) : LI where
  ι := Nat × List Int
  keep := [0, 1, 2, 4, 5]
  keepR := [1, 513, 521]
  F := fun i => ⟨[(6, i64n i.1)], [(537, ⟨false, .ints .u32 i.2⟩)]⟩
  I := fun _ i => i.1 ≤ 16 ∧ i.2.length = 64 ∧ ∀ j, j < i.1 → i.2.getD j 0 = W xs j
  μ := fun i => 16 - i.1
def liSB2 (xs : List Int) : LI where
  ι := Nat × List Int
  keep := [0, 1, 2, 4, 5]
  keepR := [1, 513, 521]
  F := fun i => ⟨[(7, i64n i.1)], [(537, ⟨false, .ints .u32 i.2⟩)]⟩
  I := fun _ i => 16 ≤ i.1 ∧ i.1 ≤ 64 ∧ i.2.length = 64 ∧ ∀ j, j < i.1 → i.2.getD j 0 = W xs j
  μ := fun i => 64 - i.1
def liSB4 (H : S8) (xs : List Int) : LI where
  ι := Nat
  keep := [0, 1, 2, 4, 5, 10, 11]
  keepR := [1, 513, 521, 537]
  F := fun i => ⟨[(12, i64n i)], [(617, ⟨false, .ints .u32 kL⟩), (625, ⟨false, s8C (rounds H xs i)⟩)]⟩
  I := fun _ i => i ≤ 64
  μ := fun i => 64 - i
def uSB (H : S8) (xs : List Int) : Nat → Lp := fun n =>
  match n with
  | 0 => .inv (liSB0 xs)
  | 2 => .inv (liSB2 xs)
  | 4 => .inv (liSB4 H xs)
  | _ => .un 9
end Go.Sx

/- The loops of hash.ExpandMsgXmd. -/
namespace Go.Sx
open Go Go.Proofs
def cxEX : Cx Tryd.prog := { rds := [cSize, cBsz], efs := [cNew, cReset, cWrite, cSum, cErr], eqs := [] }
structure ExI where
  j : Nat
  b : List Int
  bc : Nat
  res : List Int
  H : S8
  x : List Int
  nx : Int
  len : Int
def liEX0 (rd : Nat) (first D : List Int) (n : Int) : LI where
  ι := ExI
  keep := [1, 2, 8, 9, 10, 21, 31]
  keepR := [2, rd, 1177]
  F := fun i => ⟨[(30, .slice 1641 (.lit 0) (.lit 32) (.sym i.bc)), (32, .int .i64 (.sym ((i.j : Nat) + 1)))],
    [(529, dgR false i.H i.x i.nx i.len), (1641, ⟨false, .ints .u8 i.b⟩), (1569, ⟨false, .ints .u8 i.res⟩)]⟩
  I := fun _ i => 1 ≤ i.j ∧ 32 * (i.j : Int) < n + 32 ∧ Rw i.b (bI first D i.j) 32 i.bc ∧ (i.res.length : Int) = n ∧ i.res.take (32 * i.j) = (outN first D i.j).take n.toNat ∧ i.x.length = 64
  μ := fun i => n.toNat + 32 - 32 * i.j
  k := 1
def liEX2 (rd : Nat) : LI where
  ι := Nat × List Int
  keep := [1, 2, 8, 9, 10, 21, 30, 31, 32, 33]
  keepR := [2, rd, 529, 1177, 1569, 1641]
  F := fun i => ⟨[(34, i64n i.1)], [(1705, ⟨false, .ints .u8 i.2⟩)]⟩
  I := fun st i => i.2.length = 32 ∧ i.2.take i.1 = (xorL (st.reg 1177) (st.reg 1641)).take i.1 ∧ i.1 ≤ 32
  μ := fun i => 32 - i.1
def uEX (rd : Nat) (msg dst : List Int) (n : Int) : Nat → Lp := fun b =>
  match b with
  | 0 => .inv (liEX0 rd (firstL msg dst n) (domL dst) n)
  | 2 => .inv (liEX2 rd)
  | _ => .un 0
end Go.Sx

/- hash.ExpandMsgXmd: its condition. -/
namespace Go.Sx
open Go Go.Proofs
set_option maxRecDepth 100000
theorem vc_ex (msg dst : List Int) (l c l2 c2 : Nat) (n : Int) (K : SV → Mem → Prop) : (execF cxEX (uEX 17 msg dst n) Tryd.f12 64 [.slice 9 (.lit 0) (.sym l) (.sym c), .slice 17 (.lit 0) (.sym l2) (.sym c2), .int .i64 (.sym n)] (memL [(2, ⟨true, .ints .u32 kL⟩), (9, ⟨true, .ints .u8 msg⟩), (17, ⟨true, .ints .u8 dst⟩)]) K) =
  ((∀ (ys0 : (List Int)), ((ys0 = (List.replicate (64 : Nat) (0 : Int))) → (∀ (x1 : Int), ((x1 = (Go.IntKind.wrap Go.IntKind.i64 (n + (32 : Int)))) → (∀ (x2 : Int), ((x2 = (Go.IntKind.wrap Go.IntKind.i64 (x1 - (1 : Int)))) → (∀ (x3 : Int), ((x3 = (Go.IntKind.wrap Go.IntKind.i64 (Int.tdiv x2 (32 : Int)))) → ((((decide (x3 > (255 : Int))) = Bool.true) → (K (Go.Sx.SV.tup [(Go.Sx.SV.val (Go.Value.slice Option.none (0 : Nat) (0 : Nat))), (Go.Sx.SV.iface (73 : Go.TypeId) (Go.Sx.SV.ptr (633 : Nat) (Go.Sx.N.lit (0 : Nat))))]) (Go.Sx.memL [((2 : Nat), (Go.Sx.Reg.mk Bool.true (Go.Sx.Ct.ints Go.IntKind.u32 Go.Sx.kL))), ((9 : Nat), (Go.Sx.Reg.mk Bool.true (Go.Sx.Ct.ints Go.IntKind.u8 msg))), ((17 : Nat), (Go.Sx.Reg.mk Bool.true (Go.Sx.Ct.ints Go.IntKind.u8 dst))), ((529 : Nat), (Go.Sx.Reg.mk Bool.false (Go.Sx.Ct.segs [(Go.Sx.Sg.cells [(Go.Sx.SV.int Go.IntKind.u32 (Go.Sx.A.sym (1779033703 : Int))), (Go.Sx.SV.int Go.IntKind.u32 (Go.Sx.A.sym (3144134277 : Int))), (Go.Sx.SV.int Go.IntKind.u32 (Go.Sx.A.sym (1013904242 : Int))), (Go.Sx.SV.int Go.IntKind.u32 (Go.Sx.A.sym (2773480762 : Int))), (Go.Sx.SV.int Go.IntKind.u32 (Go.Sx.A.sym (1359893119 : Int))), (Go.Sx.SV.int Go.IntKind.u32 (Go.Sx.A.sym (2600822924 : Int))), (Go.Sx.SV.int Go.IntKind.u32 (Go.Sx.A.sym (528734635 : Int))), (Go.Sx.SV.int Go.IntKind.u32 (Go.Sx.A.sym (1541459225 : Int)))]), (Go.Sx.Sg.ints Go.IntKind.u8 (64 : Nat) ys0), (Go.Sx.Sg.cells [(Go.Sx.SV.int Go.IntKind.i64 (Go.Sx.A.sym (0 : Int))), (Go.Sx.SV.int Go.IntKind.u64 (Go.Sx.A.sym (0 : Int))), (Go.Sx.SV.bool (Go.Sx.B.lit Bool.false))])]))), ((633 : Nat), (Go.Sx.Reg.mk Bool.false (Go.Sx.Ct.cells [(Go.Sx.SV.val (Go.Value.string (ByteArray.mk (Array.mk [(105 : UInt8), (110 : UInt8), (118 : UInt8), (97 : UInt8), (108 : UInt8), (105 : UInt8), (100 : UInt8), (32 : UInt8), (108 : UInt8), (101 : UInt8), (110 : UInt8), (73 : UInt8), (110 : UInt8), (66 : UInt8), (121 : UInt8), (116 : UInt8), (101 : UInt8), (115 : UInt8)]))))])))]))) ∧
 (((decide (x3 > (255 : Int))) = Bool.false) → (∀ (x4 : Int), ((x4 = ((l2 : Nat) : Int)) → ((((decide (x4 > (255 : Int))) = Bool.true) → (K (Go.Sx.SV.tup [(Go.Sx.SV.val (Go.Value.slice Option.none (0 : Nat) (0 : Nat))), (Go.Sx.SV.iface (73 : Go.TypeId) (Go.Sx.SV.ptr (657 : Nat) (Go.Sx.N.lit (0 : Nat))))]) (Go.Sx.memL [((2 : Nat), (Go.Sx.Reg.mk Bool.true (Go.Sx.Ct.ints Go.IntKind.u32 Go.Sx.kL))), ((9 : Nat), (Go.Sx.Reg.mk Bool.true (Go.Sx.Ct.ints Go.IntKind.u8 msg))), ((17 : Nat), (Go.Sx.Reg.mk Bool.true (Go.Sx.Ct.ints Go.IntKind.u8 dst))), ((529 : Nat), (Go.Sx.Reg.mk Bool.false (Go.Sx.Ct.segs [(Go.Sx.Sg.cells [(Go.Sx.SV.int Go.IntKind.u32 (Go.Sx.A.sym (1779033703 : Int))), (Go.Sx.SV.int Go.IntKind.u32 (Go.Sx.A.sym (3144134277 : Int))), (Go.Sx.SV.int Go.IntKind.u32 (Go.Sx.A.sym (1013904242 : Int))), (Go.Sx.SV.int Go.IntKind.u32 (Go.Sx.A.sym (2773480762 : Int))), (Go.Sx.SV.int Go.IntKind.u32 (Go.Sx.A.sym (1359893119 : Int))), (Go.Sx.SV.int Go.IntKind.u32 (Go.Sx.A.sym (2600822924 : Int))), (Go.Sx.SV.int Go.IntKind.u32 (Go.Sx.A.sym (528734635 : Int))), (Go.Sx.SV.int Go.IntKind.u32 (Go.Sx.A.sym (1541459225 : Int)))]), (Go.Sx.Sg.ints Go.IntKind.u8 (64 : Nat) ys0), (Go.Sx.Sg.cells [(Go.Sx.SV.int Go.IntKind.i64 (Go.Sx.A.sym (0 : Int))), (Go.Sx.SV.int Go.IntKind.u64 (Go.Sx.A.sym (0 : Int))), (Go.Sx.SV.bool (Go.Sx.B.lit Bool.false))])]))), ((657 : Nat), (Go.Sx.Reg.mk Bool.false (Go.Sx.Ct.cells [(Go.Sx.SV.val (Go.Value.string (ByteArray.mk (Array.mk [(105 : UInt8), (110 : UInt8), (118 : UInt8), (97 : UInt8), (108 : UInt8), (105 : UInt8), (100 : UInt8), (32 : UInt8), (100 : UInt8), (111 : UInt8), (109 : UInt8), (97 : UInt8), (105 : UInt8), (110 : UInt8), (32 : UInt8), (115 : UInt8), (105 : UInt8), (122 : UInt8), (101 : UInt8), (32 : UInt8), (40 : UInt8), (62 : UInt8), (50 : UInt8), (53 : UInt8), (53 : UInt8), (32 : UInt8), (98 : UInt8), (121 : UInt8), (116 : UInt8), (101 : UInt8), (115 : UInt8), (41 : UInt8)]))))])))]))) ∧
 (((decide (x4 > (255 : Int))) = Bool.false) → (∀ (x5 : Int), ((x5 = ((l2 : Nat) : Int)) → (∀ (x6 : Int), ((x6 = (Go.IntKind.wrap Go.IntKind.u8 x5)) → (∀ (ys7 : (List Int)), ((ys7 = ys0) → ((((0 : Int) ≤ (64 : Int)) ∧
 (((64 : Int) ≤ (140737488355328 : Int)) ∧
 ((64 : Int) ≤ (140737488355328 : Int)))) ∧
 (((64 : Nat) ≤ (64 : Nat)) ∧
 (∃ (M8 : (List Int)), (((Go.Sx.kL = Go.Sx.kL) ∧
 ((Go.Sx.Abs M8 (Go.Sx.S8.mk (1779033703 : Int) (3144134277 : Int) (1013904242 : Int) (2773480762 : Int) (1359893119 : Int) (2600822924 : Int) (528734635 : Int) (1541459225 : Int)) ys7 (0 : Int) (0 : Int)) ∧
 ((Go.Sx.Bytes (List.take (64 : Nat) (List.drop (0 : Nat) (List.replicate (64 : Nat) (0 : Int))))) ∧
 (((64 : Nat) = (64 : Nat)) ∧
 (((64 : Nat) ≤ (64 : Nat)) ∧
 (((64 : Nat) ≤ (65536 : Nat)) ∧
 ((List.length M8) < (1099511627776 : Nat)))))))) ∧
 (∀ (x9 : Go.Sx.S8), (∀ (x10 : (List Int)), (∀ (x11 : Int), (∀ (x12 : Int), ((Go.Sx.Abs (M8 ++ (List.take (64 : Nat) (List.drop (0 : Nat) (List.replicate (64 : Nat) (0 : Int))))) x9 x10 x11 x12) → (∀ (ys13 : (List Int)), ((ys13 = x10) → ((((0 : Nat) + (l * (1 : Nat))) ≤ (List.length msg)) ∧
 (∃ (M14 : (List Int)), (((Go.Sx.kL = Go.Sx.kL) ∧
 ((Go.Sx.Abs M14 (Go.Sx.S8.mk (Go.Sx.S8.a x9) (Go.Sx.S8.b x9) (Go.Sx.S8.c x9) (Go.Sx.S8.d x9) (Go.Sx.S8.e x9) (Go.Sx.S8.f x9) (Go.Sx.S8.g x9) (Go.Sx.S8.h x9)) ys13 x11 x12) ∧
 ((Go.Sx.Bytes (List.take (l * (1 : Nat)) (List.drop (0 : Nat) msg))) ∧
 (((List.length (List.take (l * (1 : Nat)) (List.drop (0 : Nat) msg))) = l) ∧
 ((l ≤ c) ∧
 ((l ≤ (65536 : Nat)) ∧
 ((List.length M14) < (1099511627776 : Nat)))))))) ∧
 (∀ (x15 : Go.Sx.S8), (∀ (x16 : (List Int)), (∀ (x17 : Int), (∀ (x18 : Int), ((Go.Sx.Abs (M14 ++ (List.take (l * (1 : Nat)) (List.drop (0 : Nat) msg))) x15 x16 x17 x18) → (∀ (ys19 : (List Int)), ((ys19 = x16) → (∀ (x20 : Int), ((x20 = (Go.Sx.shrv Go.IntKind.i64 n (8 : Nat))) → (∀ (x21 : Int), ((x21 = (Go.IntKind.wrap Go.IntKind.u8 x20)) → (∀ (x22 : Int), ((x22 = (Go.IntKind.wrap Go.IntKind.u8 n)) → (((3 : Nat) ≤ (List.length [x21, x22, (0 : Int)])) ∧
 (∃ (M23 : (List Int)), (((Go.Sx.kL = Go.Sx.kL) ∧
 ((Go.Sx.Abs M23 (Go.Sx.S8.mk (Go.Sx.S8.a x15) (Go.Sx.S8.b x15) (Go.Sx.S8.c x15) (Go.Sx.S8.d x15) (Go.Sx.S8.e x15) (Go.Sx.S8.f x15) (Go.Sx.S8.g x15) (Go.Sx.S8.h x15)) ys19 x17 x18) ∧
 ((Go.Sx.Bytes (List.take (3 : Nat) (List.drop (0 : Nat) [x21, x22, (0 : Int)]))) ∧
 (((List.length (List.take (3 : Nat) (List.drop (0 : Nat) [x21, x22, (0 : Int)]))) = (3 : Nat)) ∧
 (((3 : Nat) ≤ (3 : Nat)) ∧
 (((3 : Nat) ≤ (65536 : Nat)) ∧
 ((List.length M23) < (1099511627776 : Nat)))))))) ∧
 (∀ (x24 : Go.Sx.S8), (∀ (x25 : (List Int)), (∀ (x26 : Int), (∀ (x27 : Int), ((Go.Sx.Abs (M23 ++ (List.take (3 : Nat) (List.drop (0 : Nat) [x21, x22, (0 : Int)]))) x24 x25 x26 x27) → (∀ (ys28 : (List Int)), ((ys28 = x25) → ((((0 : Nat) + (l2 * (1 : Nat))) ≤ (List.length dst)) ∧
 (∃ (M29 : (List Int)), (((Go.Sx.kL = Go.Sx.kL) ∧
 ((Go.Sx.Abs M29 (Go.Sx.S8.mk (Go.Sx.S8.a x24) (Go.Sx.S8.b x24) (Go.Sx.S8.c x24) (Go.Sx.S8.d x24) (Go.Sx.S8.e x24) (Go.Sx.S8.f x24) (Go.Sx.S8.g x24) (Go.Sx.S8.h x24)) ys28 x26 x27) ∧
 ((Go.Sx.Bytes (List.take (l2 * (1 : Nat)) (List.drop (0 : Nat) dst))) ∧
 (((List.length (List.take (l2 * (1 : Nat)) (List.drop (0 : Nat) dst))) = l2) ∧
 ((l2 ≤ c2) ∧
 ((l2 ≤ (65536 : Nat)) ∧
 ((List.length M29) < (1099511627776 : Nat)))))))) ∧
 (∀ (x30 : Go.Sx.S8), (∀ (x31 : (List Int)), (∀ (x32 : Int), (∀ (x33 : Int), ((Go.Sx.Abs (M29 ++ (List.take (l2 * (1 : Nat)) (List.drop (0 : Nat) dst))) x30 x31 x32 x33) → (∀ (ys34 : (List Int)), ((ys34 = x31) → (((1 : Nat) ≤ (List.length [x6])) ∧
 (∃ (M35 : (List Int)), (((Go.Sx.kL = Go.Sx.kL) ∧
 ((Go.Sx.Abs M35 (Go.Sx.S8.mk (Go.Sx.S8.a x30) (Go.Sx.S8.b x30) (Go.Sx.S8.c x30) (Go.Sx.S8.d x30) (Go.Sx.S8.e x30) (Go.Sx.S8.f x30) (Go.Sx.S8.g x30) (Go.Sx.S8.h x30)) ys34 x32 x33) ∧
 ((Go.Sx.Bytes (List.take (1 : Nat) (List.drop (0 : Nat) [x6]))) ∧
 (((List.length (List.take (1 : Nat) (List.drop (0 : Nat) [x6]))) = (1 : Nat)) ∧
 (((1 : Nat) ≤ (1 : Nat)) ∧
 (((1 : Nat) ≤ (65536 : Nat)) ∧
 ((List.length M35) < (1099511627776 : Nat)))))))) ∧
 (∀ (x36 : Go.Sx.S8), (∀ (x37 : (List Int)), (∀ (x38 : Int), (∀ (x39 : Int), ((Go.Sx.Abs (M35 ++ (List.take (1 : Nat) (List.drop (0 : Nat) [x6]))) x36 x37 x38 x39) → (∀ (ys40 : (List Int)), ((ys40 = x37) → (∃ (M41 : (List Int)), (((Go.Sx.kL = Go.Sx.kL) ∧
 ((Go.Sx.Abs M41 (Go.Sx.S8.mk (Go.Sx.S8.a x36) (Go.Sx.S8.b x36) (Go.Sx.S8.c x36) (Go.Sx.S8.d x36) (Go.Sx.S8.e x36) (Go.Sx.S8.f x36) (Go.Sx.S8.g x36) (Go.Sx.S8.h x36)) ys40 x38 x39) ∧
 ((List.length M41) < (549755813888 : Nat)))) ∧
 (∀ (ys42 : (List Int)), (∀ (cap43 : Nat), ((((List.take (32 : Nat) ys42) = (Go.Sx.sha M41)) ∧
 (((List.length ys42) = cap43) ∧
 ((32 : Nat) ≤ cap43))) → (∀ (ys44 : (List Int)), ((ys44 = ys42) → (∀ (ys45 : (List Int)), ((ys45 = ys40) → (((32 : Nat) ≤ (List.length ys44)) ∧
 (∃ (M46 : (List Int)), (((Go.Sx.kL = Go.Sx.kL) ∧
 ((Go.Sx.Abs M46 (Go.Sx.S8.mk (1779033703 : Int) (3144134277 : Int) (1013904242 : Int) (2773480762 : Int) (1359893119 : Int) (2600822924 : Int) (528734635 : Int) (1541459225 : Int)) ys45 (0 : Int) (0 : Int)) ∧
 ((Go.Sx.Bytes (List.take (32 : Nat) (List.drop (0 : Nat) ys44))) ∧
 (((List.length (List.take (32 : Nat) (List.drop (0 : Nat) ys44))) = (32 : Nat)) ∧
 (((32 : Nat) ≤ cap43) ∧
 (((32 : Nat) ≤ (65536 : Nat)) ∧
 ((List.length M46) < (1099511627776 : Nat)))))))) ∧
 (∀ (x47 : Go.Sx.S8), (∀ (x48 : (List Int)), (∀ (x49 : Int), (∀ (x50 : Int), ((Go.Sx.Abs (M46 ++ (List.take (32 : Nat) (List.drop (0 : Nat) ys44))) x47 x48 x49 x50) → (∀ (ys51 : (List Int)), ((ys51 = x48) → (((1 : Nat) ≤ (1 : Nat)) ∧
 (∃ (M52 : (List Int)), (((Go.Sx.kL = Go.Sx.kL) ∧
 ((Go.Sx.Abs M52 (Go.Sx.S8.mk (Go.Sx.S8.a x47) (Go.Sx.S8.b x47) (Go.Sx.S8.c x47) (Go.Sx.S8.d x47) (Go.Sx.S8.e x47) (Go.Sx.S8.f x47) (Go.Sx.S8.g x47) (Go.Sx.S8.h x47)) ys51 x49 x50) ∧
 ((Go.Sx.Bytes (List.take (1 : Nat) (List.drop (0 : Nat) [(1 : Int)]))) ∧
 (((1 : Nat) = (1 : Nat)) ∧
 (((1 : Nat) ≤ (1 : Nat)) ∧
 (((1 : Nat) ≤ (65536 : Nat)) ∧
 ((List.length M52) < (1099511627776 : Nat)))))))) ∧
 (∀ (x53 : Go.Sx.S8), (∀ (x54 : (List Int)), (∀ (x55 : Int), (∀ (x56 : Int), ((Go.Sx.Abs (M52 ++ (List.take (1 : Nat) (List.drop (0 : Nat) [(1 : Int)]))) x53 x54 x55 x56) → (∀ (ys57 : (List Int)), ((ys57 = x54) → ((((0 : Nat) + (l2 * (1 : Nat))) ≤ (List.length dst)) ∧
 (∃ (M58 : (List Int)), (((Go.Sx.kL = Go.Sx.kL) ∧
 ((Go.Sx.Abs M58 (Go.Sx.S8.mk (Go.Sx.S8.a x53) (Go.Sx.S8.b x53) (Go.Sx.S8.c x53) (Go.Sx.S8.d x53) (Go.Sx.S8.e x53) (Go.Sx.S8.f x53) (Go.Sx.S8.g x53) (Go.Sx.S8.h x53)) ys57 x55 x56) ∧
 ((Go.Sx.Bytes (List.take (l2 * (1 : Nat)) (List.drop (0 : Nat) dst))) ∧
 (((List.length (List.take (l2 * (1 : Nat)) (List.drop (0 : Nat) dst))) = l2) ∧
 ((l2 ≤ c2) ∧
 ((l2 ≤ (65536 : Nat)) ∧
 ((List.length M58) < (1099511627776 : Nat)))))))) ∧
 (∀ (x59 : Go.Sx.S8), (∀ (x60 : (List Int)), (∀ (x61 : Int), (∀ (x62 : Int), ((Go.Sx.Abs (M58 ++ (List.take (l2 * (1 : Nat)) (List.drop (0 : Nat) dst))) x59 x60 x61 x62) → (∀ (ys63 : (List Int)), ((ys63 = x60) → (((1 : Nat) ≤ (List.length [x6])) ∧
 (∃ (M64 : (List Int)), (((Go.Sx.kL = Go.Sx.kL) ∧
 ((Go.Sx.Abs M64 (Go.Sx.S8.mk (Go.Sx.S8.a x59) (Go.Sx.S8.b x59) (Go.Sx.S8.c x59) (Go.Sx.S8.d x59) (Go.Sx.S8.e x59) (Go.Sx.S8.f x59) (Go.Sx.S8.g x59) (Go.Sx.S8.h x59)) ys63 x61 x62) ∧
 ((Go.Sx.Bytes (List.take (1 : Nat) (List.drop (0 : Nat) [x6]))) ∧
 (((List.length (List.take (1 : Nat) (List.drop (0 : Nat) [x6]))) = (1 : Nat)) ∧
 (((1 : Nat) ≤ (1 : Nat)) ∧
 (((1 : Nat) ≤ (65536 : Nat)) ∧
 ((List.length M64) < (1099511627776 : Nat)))))))) ∧
 (∀ (x65 : Go.Sx.S8), (∀ (x66 : (List Int)), (∀ (x67 : Int), (∀ (x68 : Int), ((Go.Sx.Abs (M64 ++ (List.take (1 : Nat) (List.drop (0 : Nat) [x6]))) x65 x66 x67 x68) → (∀ (ys69 : (List Int)), ((ys69 = x66) → (∃ (M70 : (List Int)), (((Go.Sx.kL = Go.Sx.kL) ∧
 ((Go.Sx.Abs M70 (Go.Sx.S8.mk (Go.Sx.S8.a x65) (Go.Sx.S8.b x65) (Go.Sx.S8.c x65) (Go.Sx.S8.d x65) (Go.Sx.S8.e x65) (Go.Sx.S8.f x65) (Go.Sx.S8.g x65) (Go.Sx.S8.h x65)) ys69 x67 x68) ∧
 ((List.length M70) < (549755813888 : Nat)))) ∧
 (∀ (ys71 : (List Int)), (∀ (cap72 : Nat), ((((List.take (32 : Nat) ys71) = (Go.Sx.sha M70)) ∧
 (((List.length ys71) = cap72) ∧
 ((32 : Nat) ≤ cap72))) → (∀ (ys73 : (List Int)), ((ys73 = ys71) → ((((0 : Int) ≤ n) ∧
 (((n * (1 : Int)) ≤ (140737488355328 : Int)) ∧
 (n ≤ (140737488355328 : Int)))) ∧
 ((((0 : Int) ≤ (32 : Int)) ∧
 ((32 : Int) ≤ (((Int.toNat n) : Nat) : Int))) ∧
 ((((32 : Nat) ≤ (List.length ys73)) ∧
 ((32 : Nat) ≤ (List.length (List.replicate ((Int.toNat n) * (1 : Nat)) (0 : Int))))) ∧
 ((∃ (i074 : Go.Sx.ExI), ((((1 : Nat) ≤ (Go.Sx.ExI.j i074)) ∧
 ((((32 : Int) * (((Go.Sx.ExI.j i074) : Nat) : Int)) < (n + (32 : Int))) ∧
 ((Go.Sx.Rw (Go.Sx.ExI.b i074) (Go.Sx.bI (Go.Sx.firstL msg dst n) (Go.Sx.domL dst) (Go.Sx.ExI.j i074)) (32 : Nat) (Go.Sx.ExI.bc i074)) ∧
 (((((List.length (Go.Sx.ExI.res i074)) : Nat) : Int) = n) ∧
 (((List.take ((32 : Nat) * (Go.Sx.ExI.j i074)) (Go.Sx.ExI.res i074)) = (List.take (Int.toNat n) (Go.Sx.outN (Go.Sx.firstL msg dst n) (Go.Sx.domL dst) (Go.Sx.ExI.j i074)))) ∧
 ((List.length (Go.Sx.ExI.x i074)) = (64 : Nat))))))) ∧
 ((((l2 = l2) ∧
 (c2 = c2)) ∧
 ((n = n) ∧
 ((x3 = x3) ∧
 ((x6 = x6) ∧
 ((cap43 = cap43) ∧
 ((((Int.toNat n) = (Int.toNat n)) ∧
 ((Int.toNat n) = (Int.toNat n))) ∧
 ((cap72 = (Go.Sx.ExI.bc i074)) ∧
 ((2 : Int) = ((((Go.Sx.ExI.j i074) : Nat) : Int) + (1 : Int)))))))))) ∧
 ((Go.Sx.kL = Go.Sx.kL) ∧
 ((dst = dst) ∧
 ((ys44 = ys44) ∧
 (((((Go.Sx.S8.a x65) = (Go.Sx.S8.a (Go.Sx.ExI.H i074))) ∧
 (((Go.Sx.S8.b x65) = (Go.Sx.S8.b (Go.Sx.ExI.H i074))) ∧
 (((Go.Sx.S8.c x65) = (Go.Sx.S8.c (Go.Sx.ExI.H i074))) ∧
 (((Go.Sx.S8.d x65) = (Go.Sx.S8.d (Go.Sx.ExI.H i074))) ∧
 (((Go.Sx.S8.e x65) = (Go.Sx.S8.e (Go.Sx.ExI.H i074))) ∧
 (((Go.Sx.S8.f x65) = (Go.Sx.S8.f (Go.Sx.ExI.H i074))) ∧
 (((Go.Sx.S8.g x65) = (Go.Sx.S8.g (Go.Sx.ExI.H i074))) ∧
 ((Go.Sx.S8.h x65) = (Go.Sx.S8.h (Go.Sx.ExI.H i074)))))))))) ∧
 ((ys69 = (Go.Sx.ExI.x i074)) ∧
 ((x67 = (Go.Sx.ExI.nx i074)) ∧
 (x68 = (Go.Sx.ExI.len i074))))) ∧
 ((ys73 = (Go.Sx.ExI.b i074)) ∧
 ((Go.Sx.splice (List.replicate ((Int.toNat n) * (1 : Nat)) (0 : Int)) (0 : Nat) (List.take (32 : Nat) (List.drop (0 : Nat) ys73))) = (Go.Sx.ExI.res i074)))))))))) ∧
 (∀ (i75 : Go.Sx.ExI), ((((1 : Nat) ≤ (Go.Sx.ExI.j i75)) ∧
 ((((32 : Int) * (((Go.Sx.ExI.j i75) : Nat) : Int)) < (n + (32 : Int))) ∧
 ((Go.Sx.Rw (Go.Sx.ExI.b i75) (Go.Sx.bI (Go.Sx.firstL msg dst n) (Go.Sx.domL dst) (Go.Sx.ExI.j i75)) (32 : Nat) (Go.Sx.ExI.bc i75)) ∧
 (((((List.length (Go.Sx.ExI.res i75)) : Nat) : Int) = n) ∧
 (((List.take ((32 : Nat) * (Go.Sx.ExI.j i75)) (Go.Sx.ExI.res i75)) = (List.take (Int.toNat n) (Go.Sx.outN (Go.Sx.firstL msg dst n) (Go.Sx.domL dst) (Go.Sx.ExI.j i75)))) ∧
 ((List.length (Go.Sx.ExI.x i75)) = (64 : Nat))))))) → ((((decide (((((Go.Sx.ExI.j i75) : Nat) : Int) + (1 : Int)) ≤ x3)) = Bool.true) → (∀ (ys76 : (List Int)), ((ys76 = (Go.Sx.ExI.x i75)) → ((((0 : Int) ≤ (32 : Int)) ∧
 (((32 : Int) ≤ (140737488355328 : Int)) ∧
 ((32 : Int) ≤ (140737488355328 : Int)))) ∧
 ((∃ (i077 : (Prod Nat (List Int))), ((((List.length (Prod.snd i077)) = (32 : Nat)) ∧
 (((List.take (Prod.fst i077) (Prod.snd i077)) = (List.take (Prod.fst i077) (Go.Sx.xorL ys44 (Go.Sx.ExI.b i75)))) ∧
 ((Prod.fst i077) ≤ (32 : Nat)))) ∧
 ((((l2 = l2) ∧
 (c2 = c2)) ∧
 ((n = n) ∧
 ((x3 = x3) ∧
 ((x6 = x6) ∧
 ((cap43 = cap43) ∧
 (((Go.Sx.ExI.bc i75) = (Go.Sx.ExI.bc i75)) ∧
 ((((Int.toNat n) = (Int.toNat n)) ∧
 ((Int.toNat n) = (Int.toNat n))) ∧
 ((((((Go.Sx.ExI.j i75) : Nat) : Int) + (1 : Int)) = ((((Go.Sx.ExI.j i75) : Nat) : Int) + (1 : Int))) ∧
 ((0 : Int) = (((Prod.fst i077) : Nat) : Int)))))))))) ∧
 ((Go.Sx.kL = Go.Sx.kL) ∧
 ((dst = dst) ∧
 (((((1779033703 : Int) = (1779033703 : Int)) ∧
 (((3144134277 : Int) = (3144134277 : Int)) ∧
 (((1013904242 : Int) = (1013904242 : Int)) ∧
 (((2773480762 : Int) = (2773480762 : Int)) ∧
 (((1359893119 : Int) = (1359893119 : Int)) ∧
 (((2600822924 : Int) = (2600822924 : Int)) ∧
 (((528734635 : Int) = (528734635 : Int)) ∧
 ((1541459225 : Int) = (1541459225 : Int))))))))) ∧
 ((ys76 = ys76) ∧
 (((0 : Int) = (0 : Int)) ∧
 ((0 : Int) = (0 : Int))))) ∧
 ((ys44 = ys44) ∧
 (((Go.Sx.ExI.res i75) = (Go.Sx.ExI.res i75)) ∧
 (((Go.Sx.ExI.b i75) = (Go.Sx.ExI.b i75)) ∧
 ((List.replicate (32 : Nat) (0 : Int)) = (Prod.snd i077))))))))))) ∧
 (∀ (i78 : (Prod Nat (List Int))), ((((List.length (Prod.snd i78)) = (32 : Nat)) ∧
 (((List.take (Prod.fst i78) (Prod.snd i78)) = (List.take (Prod.fst i78) (Go.Sx.xorL ys44 (Go.Sx.ExI.b i75)))) ∧
 ((Prod.fst i78) ≤ (32 : Nat)))) → ((((decide ((((Prod.fst i78) : Nat) : Int) < (32 : Int))) = Bool.true) → ((((0 : Int) ≤ (((Prod.fst i78) : Nat) : Int)) ∧
 ((((Prod.fst i78) : Nat) : Int) < (32 : Int))) ∧
 (((((Int.toNat (((Prod.fst i78) : Nat) : Int)) * (1 : Nat)) + (1 : Nat)) ≤ (List.length ys44)) ∧
 (∀ (x79 : Int), ((x79 = (List.getD ys44 ((Int.toNat (((Prod.fst i78) : Nat) : Int)) * (1 : Nat)) (0 : Int))) → ((((0 : Int) ≤ (((Prod.fst i78) : Nat) : Int)) ∧
 ((((Prod.fst i78) : Nat) : Int) < (32 : Int))) ∧
 (((((Int.toNat (((Prod.fst i78) : Nat) : Int)) * (1 : Nat)) + (1 : Nat)) ≤ (List.length (Go.Sx.ExI.b i75))) ∧
 (∀ (x80 : Int), ((x80 = (List.getD (Go.Sx.ExI.b i75) ((Int.toNat (((Prod.fst i78) : Nat) : Int)) * (1 : Nat)) (0 : Int))) → (∀ (x81 : Int), ((x81 = (Go.Sx.bxor Go.IntKind.u8 x79 x80)) → ((((0 : Int) ≤ (((Prod.fst i78) : Nat) : Int)) ∧
 ((((Prod.fst i78) : Nat) : Int) < (32 : Int))) ∧
 ((((Int.toNat (((Prod.fst i78) : Nat) : Int)) * (1 : Nat)) < (List.length (Prod.snd i78))) ∧
 (∀ (x82 : Int), ((x82 = (Go.IntKind.wrap Go.IntKind.i64 ((((Prod.fst i78) : Nat) : Int) + (1 : Int)))) → (∃ (x83 : (Prod Nat (List Int))), ((((List.length (Prod.snd x83)) = (32 : Nat)) ∧
 (((List.take (Prod.fst x83) (Prod.snd x83)) = (List.take (Prod.fst x83) (Go.Sx.xorL ys44 (Go.Sx.ExI.b i75)))) ∧
 ((Prod.fst x83) ≤ (32 : Nat)))) ∧
 (((((l2 = l2) ∧
 (c2 = c2)) ∧
 ((n = n) ∧
 ((x3 = x3) ∧
 ((x6 = x6) ∧
 ((cap43 = cap43) ∧
 (((Go.Sx.ExI.bc i75) = (Go.Sx.ExI.bc i75)) ∧
 ((((Int.toNat n) = (Int.toNat n)) ∧
 ((Int.toNat n) = (Int.toNat n))) ∧
 ((((((Go.Sx.ExI.j i75) : Nat) : Int) + (1 : Int)) = ((((Go.Sx.ExI.j i75) : Nat) : Int) + (1 : Int))) ∧
 (x82 = (((Prod.fst x83) : Nat) : Int)))))))))) ∧
 ((Go.Sx.kL = Go.Sx.kL) ∧
 ((dst = dst) ∧
 (((((1779033703 : Int) = (1779033703 : Int)) ∧
 (((3144134277 : Int) = (3144134277 : Int)) ∧
 (((1013904242 : Int) = (1013904242 : Int)) ∧
 (((2773480762 : Int) = (2773480762 : Int)) ∧
 (((1359893119 : Int) = (1359893119 : Int)) ∧
 (((2600822924 : Int) = (2600822924 : Int)) ∧
 (((528734635 : Int) = (528734635 : Int)) ∧
 ((1541459225 : Int) = (1541459225 : Int))))))))) ∧
 ((ys76 = ys76) ∧
 (((0 : Int) = (0 : Int)) ∧
 ((0 : Int) = (0 : Int))))) ∧
 ((ys44 = ys44) ∧
 (((Go.Sx.ExI.res i75) = (Go.Sx.ExI.res i75)) ∧
 (((Go.Sx.ExI.b i75) = (Go.Sx.ExI.b i75)) ∧
 ((List.set (Prod.snd i78) ((Int.toNat (((Prod.fst i78) : Nat) : Int)) * (1 : Nat)) x81) = (Prod.snd x83))))))))) ∧
 (((32 : Nat) - (Prod.fst x83)) < ((32 : Nat) - (Prod.fst i78))))))))))))))))))))) ∧
 (((decide ((((Prod.fst i78) : Nat) : Int) < (32 : Int))) = Bool.false) → (((32 : Nat) ≤ (List.length (Prod.snd i78))) ∧
 (∃ (M84 : (List Int)), (((Go.Sx.kL = Go.Sx.kL) ∧
 ((Go.Sx.Abs M84 (Go.Sx.S8.mk (1779033703 : Int) (3144134277 : Int) (1013904242 : Int) (2773480762 : Int) (1359893119 : Int) (2600822924 : Int) (528734635 : Int) (1541459225 : Int)) ys76 (0 : Int) (0 : Int)) ∧
 ((Go.Sx.Bytes (List.take (32 : Nat) (List.drop (0 : Nat) (Prod.snd i78)))) ∧
 (((List.length (List.take (32 : Nat) (List.drop (0 : Nat) (Prod.snd i78)))) = (32 : Nat)) ∧
 (((32 : Nat) ≤ (32 : Nat)) ∧
 (((32 : Nat) ≤ (65536 : Nat)) ∧
 ((List.length M84) < (1099511627776 : Nat)))))))) ∧
 (∀ (x85 : Go.Sx.S8), (∀ (x86 : (List Int)), (∀ (x87 : Int), (∀ (x88 : Int), ((Go.Sx.Abs (M84 ++ (List.take (32 : Nat) (List.drop (0 : Nat) (Prod.snd i78)))) x85 x86 x87 x88) → (∀ (ys89 : (List Int)), ((ys89 = x86) → (∀ (x90 : Int), ((x90 = (Go.IntKind.wrap Go.IntKind.u8 ((((Go.Sx.ExI.j i75) : Nat) : Int) + (1 : Int)))) → (((1 : Nat) ≤ (List.length [x90])) ∧
 (∃ (M91 : (List Int)), (((Go.Sx.kL = Go.Sx.kL) ∧
 ((Go.Sx.Abs M91 (Go.Sx.S8.mk (Go.Sx.S8.a x85) (Go.Sx.S8.b x85) (Go.Sx.S8.c x85) (Go.Sx.S8.d x85) (Go.Sx.S8.e x85) (Go.Sx.S8.f x85) (Go.Sx.S8.g x85) (Go.Sx.S8.h x85)) ys89 x87 x88) ∧
 ((Go.Sx.Bytes (List.take (1 : Nat) (List.drop (0 : Nat) [x90]))) ∧
 (((List.length (List.take (1 : Nat) (List.drop (0 : Nat) [x90]))) = (1 : Nat)) ∧
 (((1 : Nat) ≤ (1 : Nat)) ∧
 (((1 : Nat) ≤ (65536 : Nat)) ∧
 ((List.length M91) < (1099511627776 : Nat)))))))) ∧
 (∀ (x92 : Go.Sx.S8), (∀ (x93 : (List Int)), (∀ (x94 : Int), (∀ (x95 : Int), ((Go.Sx.Abs (M91 ++ (List.take (1 : Nat) (List.drop (0 : Nat) [x90]))) x92 x93 x94 x95) → (∀ (ys96 : (List Int)), ((ys96 = x93) → ((((0 : Nat) + (l2 * (1 : Nat))) ≤ (List.length dst)) ∧
 (∃ (M97 : (List Int)), (((Go.Sx.kL = Go.Sx.kL) ∧
 ((Go.Sx.Abs M97 (Go.Sx.S8.mk (Go.Sx.S8.a x92) (Go.Sx.S8.b x92) (Go.Sx.S8.c x92) (Go.Sx.S8.d x92) (Go.Sx.S8.e x92) (Go.Sx.S8.f x92) (Go.Sx.S8.g x92) (Go.Sx.S8.h x92)) ys96 x94 x95) ∧
 ((Go.Sx.Bytes (List.take (l2 * (1 : Nat)) (List.drop (0 : Nat) dst))) ∧
 (((List.length (List.take (l2 * (1 : Nat)) (List.drop (0 : Nat) dst))) = l2) ∧
 ((l2 ≤ c2) ∧
 ((l2 ≤ (65536 : Nat)) ∧
 ((List.length M97) < (1099511627776 : Nat)))))))) ∧
 (∀ (x98 : Go.Sx.S8), (∀ (x99 : (List Int)), (∀ (x100 : Int), (∀ (x101 : Int), ((Go.Sx.Abs (M97 ++ (List.take (l2 * (1 : Nat)) (List.drop (0 : Nat) dst))) x98 x99 x100 x101) → (∀ (ys102 : (List Int)), ((ys102 = x99) → (((1 : Nat) ≤ (List.length [x6])) ∧
 (∃ (M103 : (List Int)), (((Go.Sx.kL = Go.Sx.kL) ∧
 ((Go.Sx.Abs M103 (Go.Sx.S8.mk (Go.Sx.S8.a x98) (Go.Sx.S8.b x98) (Go.Sx.S8.c x98) (Go.Sx.S8.d x98) (Go.Sx.S8.e x98) (Go.Sx.S8.f x98) (Go.Sx.S8.g x98) (Go.Sx.S8.h x98)) ys102 x100 x101) ∧
 ((Go.Sx.Bytes (List.take (1 : Nat) (List.drop (0 : Nat) [x6]))) ∧
 (((List.length (List.take (1 : Nat) (List.drop (0 : Nat) [x6]))) = (1 : Nat)) ∧
 (((1 : Nat) ≤ (1 : Nat)) ∧
 (((1 : Nat) ≤ (65536 : Nat)) ∧
 ((List.length M103) < (1099511627776 : Nat)))))))) ∧
 (∀ (x104 : Go.Sx.S8), (∀ (x105 : (List Int)), (∀ (x106 : Int), (∀ (x107 : Int), ((Go.Sx.Abs (M103 ++ (List.take (1 : Nat) (List.drop (0 : Nat) [x6]))) x104 x105 x106 x107) → (∀ (ys108 : (List Int)), ((ys108 = x105) → (∃ (M109 : (List Int)), (((Go.Sx.kL = Go.Sx.kL) ∧
 ((Go.Sx.Abs M109 (Go.Sx.S8.mk (Go.Sx.S8.a x104) (Go.Sx.S8.b x104) (Go.Sx.S8.c x104) (Go.Sx.S8.d x104) (Go.Sx.S8.e x104) (Go.Sx.S8.f x104) (Go.Sx.S8.g x104) (Go.Sx.S8.h x104)) ys108 x106 x107) ∧
 ((List.length M109) < (549755813888 : Nat)))) ∧
 (∀ (ys110 : (List Int)), (∀ (cap111 : Nat), ((((List.take (32 : Nat) ys110) = (Go.Sx.sha M109)) ∧
 (((List.length ys110) = cap111) ∧
 ((32 : Nat) ≤ cap111))) → (∀ (ys112 : (List Int)), ((ys112 = ys110) → (∀ (x113 : Int), ((x113 = (Go.IntKind.wrap Go.IntKind.i64 (((((Go.Sx.ExI.j i75) : Nat) : Int) + (1 : Int)) - (1 : Int)))) → (∀ (x114 : Int), ((x114 = (Go.IntKind.wrap Go.IntKind.i64 ((32 : Int) * x113))) → (∀ (x115 : Int), ((x115 = (Go.IntKind.wrap Go.IntKind.i64 ((32 : Int) * ((((Go.Sx.ExI.j i75) : Nat) : Int) + (1 : Int))))) → (∀ (x116 : Int), ((x116 = (((Int.toNat n) : Nat) : Int)) → (∀ (x117 : Int), ((x117 = (if (x116 < x115) then x116 else x115)) → (((((0 : Int) ≤ x117) ∧
 (x117 ≤ (((Int.toNat n) : Nat) : Int))) ∧
 (((0 : Int) ≤ x114) ∧
 (x114 ≤ (((Int.toNat x117) : Nat) : Int)))) ∧
 (((((0 : Nat) + (Min.min (32 : Nat) ((Int.toNat x117) - (Int.toNat x114)))) ≤ (List.length ys112)) ∧
 (((if ((Int.toNat n) = (Int.toNat x114)) then (0 : Nat) else ((Int.toNat x114) * (1 : Nat))) + (Min.min (32 : Nat) ((Int.toNat x117) - (Int.toNat x114)))) ≤ (List.length (Go.Sx.ExI.res i75)))) ∧
 (∀ (x118 : Int), ((x118 = (Go.IntKind.wrap Go.IntKind.i64 (((((Go.Sx.ExI.j i75) : Nat) : Int) + (1 : Int)) + (1 : Int)))) → (∃ (x119 : Go.Sx.ExI), ((((1 : Nat) ≤ (Go.Sx.ExI.j x119)) ∧
 ((((32 : Int) * (((Go.Sx.ExI.j x119) : Nat) : Int)) < (n + (32 : Int))) ∧
 ((Go.Sx.Rw (Go.Sx.ExI.b x119) (Go.Sx.bI (Go.Sx.firstL msg dst n) (Go.Sx.domL dst) (Go.Sx.ExI.j x119)) (32 : Nat) (Go.Sx.ExI.bc x119)) ∧
 (((((List.length (Go.Sx.ExI.res x119)) : Nat) : Int) = n) ∧
 (((List.take ((32 : Nat) * (Go.Sx.ExI.j x119)) (Go.Sx.ExI.res x119)) = (List.take (Int.toNat n) (Go.Sx.outN (Go.Sx.firstL msg dst n) (Go.Sx.domL dst) (Go.Sx.ExI.j x119)))) ∧
 ((List.length (Go.Sx.ExI.x x119)) = (64 : Nat))))))) ∧
 (((((l2 = l2) ∧
 (c2 = c2)) ∧
 ((n = n) ∧
 ((x3 = x3) ∧
 ((x6 = x6) ∧
 ((cap43 = cap43) ∧
 ((((Int.toNat n) = (Int.toNat n)) ∧
 ((Int.toNat n) = (Int.toNat n))) ∧
 ((cap111 = (Go.Sx.ExI.bc x119)) ∧
 (x118 = ((((Go.Sx.ExI.j x119) : Nat) : Int) + (1 : Int)))))))))) ∧
 ((Go.Sx.kL = Go.Sx.kL) ∧
 ((dst = dst) ∧
 ((ys44 = ys44) ∧
 (((((Go.Sx.S8.a x104) = (Go.Sx.S8.a (Go.Sx.ExI.H x119))) ∧
 (((Go.Sx.S8.b x104) = (Go.Sx.S8.b (Go.Sx.ExI.H x119))) ∧
 (((Go.Sx.S8.c x104) = (Go.Sx.S8.c (Go.Sx.ExI.H x119))) ∧
 (((Go.Sx.S8.d x104) = (Go.Sx.S8.d (Go.Sx.ExI.H x119))) ∧
 (((Go.Sx.S8.e x104) = (Go.Sx.S8.e (Go.Sx.ExI.H x119))) ∧
 (((Go.Sx.S8.f x104) = (Go.Sx.S8.f (Go.Sx.ExI.H x119))) ∧
 (((Go.Sx.S8.g x104) = (Go.Sx.S8.g (Go.Sx.ExI.H x119))) ∧
 ((Go.Sx.S8.h x104) = (Go.Sx.S8.h (Go.Sx.ExI.H x119)))))))))) ∧
 ((ys108 = (Go.Sx.ExI.x x119)) ∧
 ((x106 = (Go.Sx.ExI.nx x119)) ∧
 (x107 = (Go.Sx.ExI.len x119))))) ∧
 ((ys112 = (Go.Sx.ExI.b x119)) ∧
 ((Go.Sx.splice (Go.Sx.ExI.res i75) (if ((Int.toNat n) = (Int.toNat x114)) then (0 : Nat) else ((Int.toNat x114) * (1 : Nat))) (List.take (Min.min (32 : Nat) ((Int.toNat x117) - (Int.toNat x114))) (List.drop (0 : Nat) ys112))) = (Go.Sx.ExI.res x119)))))))) ∧
 ((((Int.toNat n) + (32 : Nat)) - ((32 : Nat) * (Go.Sx.ExI.j x119))) < (((Int.toNat n) + (32 : Nat)) - ((32 : Nat) * (Go.Sx.ExI.j i75))))))))))))))))))))))))))))))))))))))))))))))))))))))))))))))))))))))))))))))) ∧
 (((decide (((((Go.Sx.ExI.j i75) : Nat) : Int) + (1 : Int)) ≤ x3)) = Bool.false) → (K (Go.Sx.SV.tup [(Go.Sx.SV.slice (1569 : Nat) (Go.Sx.N.lit (0 : Nat)) (Go.Sx.N.sym (Int.toNat n)) (Go.Sx.N.sym (Int.toNat n))), (Go.Sx.SV.val Go.Value.nilIface)]) (Go.Sx.memL [((2 : Nat), (Go.Sx.Reg.mk Bool.true (Go.Sx.Ct.ints Go.IntKind.u32 Go.Sx.kL))), ((17 : Nat), (Go.Sx.Reg.mk Bool.true (Go.Sx.Ct.ints Go.IntKind.u8 dst))), ((529 : Nat), (Go.Sx.Reg.mk Bool.false (Go.Sx.Ct.segs [(Go.Sx.Sg.cells [(Go.Sx.SV.int Go.IntKind.u32 (Go.Sx.A.sym (Go.Sx.S8.a (Go.Sx.ExI.H i75)))), (Go.Sx.SV.int Go.IntKind.u32 (Go.Sx.A.sym (Go.Sx.S8.b (Go.Sx.ExI.H i75)))), (Go.Sx.SV.int Go.IntKind.u32 (Go.Sx.A.sym (Go.Sx.S8.c (Go.Sx.ExI.H i75)))), (Go.Sx.SV.int Go.IntKind.u32 (Go.Sx.A.sym (Go.Sx.S8.d (Go.Sx.ExI.H i75)))), (Go.Sx.SV.int Go.IntKind.u32 (Go.Sx.A.sym (Go.Sx.S8.e (Go.Sx.ExI.H i75)))), (Go.Sx.SV.int Go.IntKind.u32 (Go.Sx.A.sym (Go.Sx.S8.f (Go.Sx.ExI.H i75)))), (Go.Sx.SV.int Go.IntKind.u32 (Go.Sx.A.sym (Go.Sx.S8.g (Go.Sx.ExI.H i75)))), (Go.Sx.SV.int Go.IntKind.u32 (Go.Sx.A.sym (Go.Sx.S8.h (Go.Sx.ExI.H i75))))]), (Go.Sx.Sg.ints Go.IntKind.u8 (64 : Nat) (Go.Sx.ExI.x i75)), (Go.Sx.Sg.cells [(Go.Sx.SV.int Go.IntKind.i64 (Go.Sx.A.sym (Go.Sx.ExI.nx i75))), (Go.Sx.SV.int Go.IntKind.u64 (Go.Sx.A.sym (Go.Sx.ExI.len i75))), (Go.Sx.SV.bool (Go.Sx.B.lit Bool.false))])]))), ((1177 : Nat), (Go.Sx.Reg.mk Bool.false (Go.Sx.Ct.ints Go.IntKind.u8 ys44))), ((1569 : Nat), (Go.Sx.Reg.mk Bool.false (Go.Sx.Ct.ints Go.IntKind.u8 (Go.Sx.ExI.res i75)))), ((1641 : Nat), (Go.Sx.Reg.mk Bool.false (Go.Sx.Ct.ints Go.IntKind.u8 (Go.Sx.ExI.b i75))))])))))))))))))))))))))))))))))))))))))))))))))))))))))))))))))))))))))))))))))))))))))))))))))))))))))))))))))))))))))))))))))))))))))))))))))))) := by kernel_rfl
theorem vc_exn (dst : List Int) (l2 c2 : Nat) (n : Int) (K : SV → Mem → Prop) : (execF cxEX (uEX 9 [] dst n) Tryd.f12 64 [.val (.slice none 0 0), .slice 9 (.lit 0) (.sym l2) (.sym c2), .int .i64 (.sym n)] (memL [(2, ⟨true, .ints .u32 kL⟩), (9, ⟨true, .ints .u8 dst⟩)]) K) =
  ((∀ (ys0 : (List Int)), ((ys0 = (List.replicate (64 : Nat) (0 : Int))) → (∀ (x1 : Int), ((x1 = (Go.IntKind.wrap Go.IntKind.i64 (n + (32 : Int)))) → (∀ (x2 : Int), ((x2 = (Go.IntKind.wrap Go.IntKind.i64 (x1 - (1 : Int)))) → (∀ (x3 : Int), ((x3 = (Go.IntKind.wrap Go.IntKind.i64 (Int.tdiv x2 (32 : Int)))) → ((((decide (x3 > (255 : Int))) = Bool.true) → (K (Go.Sx.SV.tup [(Go.Sx.SV.val (Go.Value.slice Option.none (0 : Nat) (0 : Nat))), (Go.Sx.SV.iface (73 : Go.TypeId) (Go.Sx.SV.ptr (633 : Nat) (Go.Sx.N.lit (0 : Nat))))]) (Go.Sx.memL [((2 : Nat), (Go.Sx.Reg.mk Bool.true (Go.Sx.Ct.ints Go.IntKind.u32 Go.Sx.kL))), ((9 : Nat), (Go.Sx.Reg.mk Bool.true (Go.Sx.Ct.ints Go.IntKind.u8 dst))), ((529 : Nat), (Go.Sx.Reg.mk Bool.false (Go.Sx.Ct.segs [(Go.Sx.Sg.cells [(Go.Sx.SV.int Go.IntKind.u32 (Go.Sx.A.sym (1779033703 : Int))), (Go.Sx.SV.int Go.IntKind.u32 (Go.Sx.A.sym (3144134277 : Int))), (Go.Sx.SV.int Go.IntKind.u32 (Go.Sx.A.sym (1013904242 : Int))), (Go.Sx.SV.int Go.IntKind.u32 (Go.Sx.A.sym (2773480762 : Int))), (Go.Sx.SV.int Go.IntKind.u32 (Go.Sx.A.sym (1359893119 : Int))), (Go.Sx.SV.int Go.IntKind.u32 (Go.Sx.A.sym (2600822924 : Int))), (Go.Sx.SV.int Go.IntKind.u32 (Go.Sx.A.sym (528734635 : Int))), (Go.Sx.SV.int Go.IntKind.u32 (Go.Sx.A.sym (1541459225 : Int)))]), (Go.Sx.Sg.ints Go.IntKind.u8 (64 : Nat) ys0), (Go.Sx.Sg.cells [(Go.Sx.SV.int Go.IntKind.i64 (Go.Sx.A.sym (0 : Int))), (Go.Sx.SV.int Go.IntKind.u64 (Go.Sx.A.sym (0 : Int))), (Go.Sx.SV.bool (Go.Sx.B.lit Bool.false))])]))), ((633 : Nat), (Go.Sx.Reg.mk Bool.false (Go.Sx.Ct.cells [(Go.Sx.SV.val (Go.Value.string (ByteArray.mk (Array.mk [(105 : UInt8), (110 : UInt8), (118 : UInt8), (97 : UInt8), (108 : UInt8), (105 : UInt8), (100 : UInt8), (32 : UInt8), (108 : UInt8), (101 : UInt8), (110 : UInt8), (73 : UInt8), (110 : UInt8), (66 : UInt8), (121 : UInt8), (116 : UInt8), (101 : UInt8), (115 : UInt8)]))))])))]))) ∧
 (((decide (x3 > (255 : Int))) = Bool.false) → (∀ (x4 : Int), ((x4 = ((l2 : Nat) : Int)) → ((((decide (x4 > (255 : Int))) = Bool.true) → (K (Go.Sx.SV.tup [(Go.Sx.SV.val (Go.Value.slice Option.none (0 : Nat) (0 : Nat))), (Go.Sx.SV.iface (73 : Go.TypeId) (Go.Sx.SV.ptr (657 : Nat) (Go.Sx.N.lit (0 : Nat))))]) (Go.Sx.memL [((2 : Nat), (Go.Sx.Reg.mk Bool.true (Go.Sx.Ct.ints Go.IntKind.u32 Go.Sx.kL))), ((9 : Nat), (Go.Sx.Reg.mk Bool.true (Go.Sx.Ct.ints Go.IntKind.u8 dst))), ((529 : Nat), (Go.Sx.Reg.mk Bool.false (Go.Sx.Ct.segs [(Go.Sx.Sg.cells [(Go.Sx.SV.int Go.IntKind.u32 (Go.Sx.A.sym (1779033703 : Int))), (Go.Sx.SV.int Go.IntKind.u32 (Go.Sx.A.sym (3144134277 : Int))), (Go.Sx.SV.int Go.IntKind.u32 (Go.Sx.A.sym (1013904242 : Int))), (Go.Sx.SV.int Go.IntKind.u32 (Go.Sx.A.sym (2773480762 : Int))), (Go.Sx.SV.int Go.IntKind.u32 (Go.Sx.A.sym (1359893119 : Int))), (Go.Sx.SV.int Go.IntKind.u32 (Go.Sx.A.sym (2600822924 : Int))), (Go.Sx.SV.int Go.IntKind.u32 (Go.Sx.A.sym (528734635 : Int))), (Go.Sx.SV.int Go.IntKind.u32 (Go.Sx.A.sym (1541459225 : Int)))]), (Go.Sx.Sg.ints Go.IntKind.u8 (64 : Nat) ys0), (Go.Sx.Sg.cells [(Go.Sx.SV.int Go.IntKind.i64 (Go.Sx.A.sym (0 : Int))), (Go.Sx.SV.int Go.IntKind.u64 (Go.Sx.A.sym (0 : Int))), (Go.Sx.SV.bool (Go.Sx.B.lit Bool.false))])]))), ((657 : Nat), (Go.Sx.Reg.mk Bool.false (Go.Sx.Ct.cells [(Go.Sx.SV.val (Go.Value.string (ByteArray.mk (Array.mk [(105 : UInt8), (110 : UInt8), (118 : UInt8), (97 : UInt8), (108 : UInt8), (105 : UInt8), (100 : UInt8), (32 : UInt8), (100 : UInt8), (111 : UInt8), (109 : UInt8), (97 : UInt8), (105 : UInt8), (110 : UInt8), (32 : UInt8), (115 : UInt8), (105 : UInt8), (122 : UInt8), (101 : UInt8), (32 : UInt8), (40 : UInt8), (62 : UInt8), (50 : UInt8), (53 : UInt8), (53 : UInt8), (32 : UInt8), (98 : UInt8), (121 : UInt8), (116 : UInt8), (101 : UInt8), (115 : UInt8), (41 : UInt8)]))))])))]))) ∧
 (((decide (x4 > (255 : Int))) = Bool.false) → (∀ (x5 : Int), ((x5 = ((l2 : Nat) : Int)) → (∀ (x6 : Int), ((x6 = (Go.IntKind.wrap Go.IntKind.u8 x5)) → (∀ (ys7 : (List Int)), ((ys7 = ys0) → ((((0 : Int) ≤ (64 : Int)) ∧
 (((64 : Int) ≤ (140737488355328 : Int)) ∧
 ((64 : Int) ≤ (140737488355328 : Int)))) ∧
 (((64 : Nat) ≤ (64 : Nat)) ∧
 (∃ (M8 : (List Int)), (((Go.Sx.kL = Go.Sx.kL) ∧
 ((Go.Sx.Abs M8 (Go.Sx.S8.mk (1779033703 : Int) (3144134277 : Int) (1013904242 : Int) (2773480762 : Int) (1359893119 : Int) (2600822924 : Int) (528734635 : Int) (1541459225 : Int)) ys7 (0 : Int) (0 : Int)) ∧
 ((Go.Sx.Bytes (List.take (64 : Nat) (List.drop (0 : Nat) (List.replicate (64 : Nat) (0 : Int))))) ∧
 (((64 : Nat) = (64 : Nat)) ∧
 (((64 : Nat) ≤ (64 : Nat)) ∧
 (((64 : Nat) ≤ (65536 : Nat)) ∧
 ((List.length M8) < (1099511627776 : Nat)))))))) ∧
 (∀ (x9 : Go.Sx.S8), (∀ (x10 : (List Int)), (∀ (x11 : Int), (∀ (x12 : Int), ((Go.Sx.Abs (M8 ++ (List.take (64 : Nat) (List.drop (0 : Nat) (List.replicate (64 : Nat) (0 : Int))))) x9 x10 x11 x12) → (∀ (ys13 : (List Int)), ((ys13 = x10) → (∃ (M14 : (List Int)), (((Go.Sx.kL = Go.Sx.kL) ∧
 ((Go.Sx.Abs M14 (Go.Sx.S8.mk (Go.Sx.S8.a x9) (Go.Sx.S8.b x9) (Go.Sx.S8.c x9) (Go.Sx.S8.d x9) (Go.Sx.S8.e x9) (Go.Sx.S8.f x9) (Go.Sx.S8.g x9) (Go.Sx.S8.h x9)) ys13 x11 x12) ∧
 ((((List.length M14) % (64 : Nat)) = (0 : Nat)) ∧
 ((List.length M14) < (1099511627776 : Nat))))) ∧
 (∀ (x15 : Go.Sx.S8), (∀ (x16 : (List Int)), (∀ (x17 : Int), (∀ (x18 : Int), ((Go.Sx.Abs M14 x15 x16 x17 x18) → (∀ (ys19 : (List Int)), ((ys19 = x16) → (∀ (x20 : Int), ((x20 = (Go.Sx.shrv Go.IntKind.i64 n (8 : Nat))) → (∀ (x21 : Int), ((x21 = (Go.IntKind.wrap Go.IntKind.u8 x20)) → (∀ (x22 : Int), ((x22 = (Go.IntKind.wrap Go.IntKind.u8 n)) → (((3 : Nat) ≤ (List.length [x21, x22, (0 : Int)])) ∧
 (∃ (M23 : (List Int)), (((Go.Sx.kL = Go.Sx.kL) ∧
 ((Go.Sx.Abs M23 (Go.Sx.S8.mk (Go.Sx.S8.a x15) (Go.Sx.S8.b x15) (Go.Sx.S8.c x15) (Go.Sx.S8.d x15) (Go.Sx.S8.e x15) (Go.Sx.S8.f x15) (Go.Sx.S8.g x15) (Go.Sx.S8.h x15)) ys19 x17 x18) ∧
 ((Go.Sx.Bytes (List.take (3 : Nat) (List.drop (0 : Nat) [x21, x22, (0 : Int)]))) ∧
 (((List.length (List.take (3 : Nat) (List.drop (0 : Nat) [x21, x22, (0 : Int)]))) = (3 : Nat)) ∧
 (((3 : Nat) ≤ (3 : Nat)) ∧
 (((3 : Nat) ≤ (65536 : Nat)) ∧
 ((List.length M23) < (1099511627776 : Nat)))))))) ∧
 (∀ (x24 : Go.Sx.S8), (∀ (x25 : (List Int)), (∀ (x26 : Int), (∀ (x27 : Int), ((Go.Sx.Abs (M23 ++ (List.take (3 : Nat) (List.drop (0 : Nat) [x21, x22, (0 : Int)]))) x24 x25 x26 x27) → (∀ (ys28 : (List Int)), ((ys28 = x25) → ((((0 : Nat) + (l2 * (1 : Nat))) ≤ (List.length dst)) ∧
 (∃ (M29 : (List Int)), (((Go.Sx.kL = Go.Sx.kL) ∧
 ((Go.Sx.Abs M29 (Go.Sx.S8.mk (Go.Sx.S8.a x24) (Go.Sx.S8.b x24) (Go.Sx.S8.c x24) (Go.Sx.S8.d x24) (Go.Sx.S8.e x24) (Go.Sx.S8.f x24) (Go.Sx.S8.g x24) (Go.Sx.S8.h x24)) ys28 x26 x27) ∧
 ((Go.Sx.Bytes (List.take (l2 * (1 : Nat)) (List.drop (0 : Nat) dst))) ∧
 (((List.length (List.take (l2 * (1 : Nat)) (List.drop (0 : Nat) dst))) = l2) ∧
 ((l2 ≤ c2) ∧
 ((l2 ≤ (65536 : Nat)) ∧
 ((List.length M29) < (1099511627776 : Nat)))))))) ∧
 (∀ (x30 : Go.Sx.S8), (∀ (x31 : (List Int)), (∀ (x32 : Int), (∀ (x33 : Int), ((Go.Sx.Abs (M29 ++ (List.take (l2 * (1 : Nat)) (List.drop (0 : Nat) dst))) x30 x31 x32 x33) → (∀ (ys34 : (List Int)), ((ys34 = x31) → (((1 : Nat) ≤ (List.length [x6])) ∧
 (∃ (M35 : (List Int)), (((Go.Sx.kL = Go.Sx.kL) ∧
 ((Go.Sx.Abs M35 (Go.Sx.S8.mk (Go.Sx.S8.a x30) (Go.Sx.S8.b x30) (Go.Sx.S8.c x30) (Go.Sx.S8.d x30) (Go.Sx.S8.e x30) (Go.Sx.S8.f x30) (Go.Sx.S8.g x30) (Go.Sx.S8.h x30)) ys34 x32 x33) ∧
 ((Go.Sx.Bytes (List.take (1 : Nat) (List.drop (0 : Nat) [x6]))) ∧
 (((List.length (List.take (1 : Nat) (List.drop (0 : Nat) [x6]))) = (1 : Nat)) ∧
 (((1 : Nat) ≤ (1 : Nat)) ∧
 (((1 : Nat) ≤ (65536 : Nat)) ∧
 ((List.length M35) < (1099511627776 : Nat)))))))) ∧
 (∀ (x36 : Go.Sx.S8), (∀ (x37 : (List Int)), (∀ (x38 : Int), (∀ (x39 : Int), ((Go.Sx.Abs (M35 ++ (List.take (1 : Nat) (List.drop (0 : Nat) [x6]))) x36 x37 x38 x39) → (∀ (ys40 : (List Int)), ((ys40 = x37) → (∃ (M41 : (List Int)), (((Go.Sx.kL = Go.Sx.kL) ∧
 ((Go.Sx.Abs M41 (Go.Sx.S8.mk (Go.Sx.S8.a x36) (Go.Sx.S8.b x36) (Go.Sx.S8.c x36) (Go.Sx.S8.d x36) (Go.Sx.S8.e x36) (Go.Sx.S8.f x36) (Go.Sx.S8.g x36) (Go.Sx.S8.h x36)) ys40 x38 x39) ∧
 ((List.length M41) < (549755813888 : Nat)))) ∧
 (∀ (ys42 : (List Int)), (∀ (cap43 : Nat), ((((List.take (32 : Nat) ys42) = (Go.Sx.sha M41)) ∧
 (((List.length ys42) = cap43) ∧
 ((32 : Nat) ≤ cap43))) → (∀ (ys44 : (List Int)), ((ys44 = ys42) → (∀ (ys45 : (List Int)), ((ys45 = ys40) → (((32 : Nat) ≤ (List.length ys44)) ∧
 (∃ (M46 : (List Int)), (((Go.Sx.kL = Go.Sx.kL) ∧
 ((Go.Sx.Abs M46 (Go.Sx.S8.mk (1779033703 : Int) (3144134277 : Int) (1013904242 : Int) (2773480762 : Int) (1359893119 : Int) (2600822924 : Int) (528734635 : Int) (1541459225 : Int)) ys45 (0 : Int) (0 : Int)) ∧
 ((Go.Sx.Bytes (List.take (32 : Nat) (List.drop (0 : Nat) ys44))) ∧
 (((List.length (List.take (32 : Nat) (List.drop (0 : Nat) ys44))) = (32 : Nat)) ∧
 (((32 : Nat) ≤ cap43) ∧
 (((32 : Nat) ≤ (65536 : Nat)) ∧
 ((List.length M46) < (1099511627776 : Nat)))))))) ∧
 (∀ (x47 : Go.Sx.S8), (∀ (x48 : (List Int)), (∀ (x49 : Int), (∀ (x50 : Int), ((Go.Sx.Abs (M46 ++ (List.take (32 : Nat) (List.drop (0 : Nat) ys44))) x47 x48 x49 x50) → (∀ (ys51 : (List Int)), ((ys51 = x48) → (((1 : Nat) ≤ (1 : Nat)) ∧
 (∃ (M52 : (List Int)), (((Go.Sx.kL = Go.Sx.kL) ∧
 ((Go.Sx.Abs M52 (Go.Sx.S8.mk (Go.Sx.S8.a x47) (Go.Sx.S8.b x47) (Go.Sx.S8.c x47) (Go.Sx.S8.d x47) (Go.Sx.S8.e x47) (Go.Sx.S8.f x47) (Go.Sx.S8.g x47) (Go.Sx.S8.h x47)) ys51 x49 x50) ∧
 ((Go.Sx.Bytes (List.take (1 : Nat) (List.drop (0 : Nat) [(1 : Int)]))) ∧
 (((1 : Nat) = (1 : Nat)) ∧
 (((1 : Nat) ≤ (1 : Nat)) ∧
 (((1 : Nat) ≤ (65536 : Nat)) ∧
 ((List.length M52) < (1099511627776 : Nat)))))))) ∧
 (∀ (x53 : Go.Sx.S8), (∀ (x54 : (List Int)), (∀ (x55 : Int), (∀ (x56 : Int), ((Go.Sx.Abs (M52 ++ (List.take (1 : Nat) (List.drop (0 : Nat) [(1 : Int)]))) x53 x54 x55 x56) → (∀ (ys57 : (List Int)), ((ys57 = x54) → ((((0 : Nat) + (l2 * (1 : Nat))) ≤ (List.length dst)) ∧
 (∃ (M58 : (List Int)), (((Go.Sx.kL = Go.Sx.kL) ∧
 ((Go.Sx.Abs M58 (Go.Sx.S8.mk (Go.Sx.S8.a x53) (Go.Sx.S8.b x53) (Go.Sx.S8.c x53) (Go.Sx.S8.d x53) (Go.Sx.S8.e x53) (Go.Sx.S8.f x53) (Go.Sx.S8.g x53) (Go.Sx.S8.h x53)) ys57 x55 x56) ∧
 ((Go.Sx.Bytes (List.take (l2 * (1 : Nat)) (List.drop (0 : Nat) dst))) ∧
 (((List.length (List.take (l2 * (1 : Nat)) (List.drop (0 : Nat) dst))) = l2) ∧
 ((l2 ≤ c2) ∧
 ((l2 ≤ (65536 : Nat)) ∧
 ((List.length M58) < (1099511627776 : Nat)))))))) ∧
 (∀ (x59 : Go.Sx.S8), (∀ (x60 : (List Int)), (∀ (x61 : Int), (∀ (x62 : Int), ((Go.Sx.Abs (M58 ++ (List.take (l2 * (1 : Nat)) (List.drop (0 : Nat) dst))) x59 x60 x61 x62) → (∀ (ys63 : (List Int)), ((ys63 = x60) → (((1 : Nat) ≤ (List.length [x6])) ∧
 (∃ (M64 : (List Int)), (((Go.Sx.kL = Go.Sx.kL) ∧
 ((Go.Sx.Abs M64 (Go.Sx.S8.mk (Go.Sx.S8.a x59) (Go.Sx.S8.b x59) (Go.Sx.S8.c x59) (Go.Sx.S8.d x59) (Go.Sx.S8.e x59) (Go.Sx.S8.f x59) (Go.Sx.S8.g x59) (Go.Sx.S8.h x59)) ys63 x61 x62) ∧
 ((Go.Sx.Bytes (List.take (1 : Nat) (List.drop (0 : Nat) [x6]))) ∧
 (((List.length (List.take (1 : Nat) (List.drop (0 : Nat) [x6]))) = (1 : Nat)) ∧
 (((1 : Nat) ≤ (1 : Nat)) ∧
 (((1 : Nat) ≤ (65536 : Nat)) ∧
 ((List.length M64) < (1099511627776 : Nat)))))))) ∧
 (∀ (x65 : Go.Sx.S8), (∀ (x66 : (List Int)), (∀ (x67 : Int), (∀ (x68 : Int), ((Go.Sx.Abs (M64 ++ (List.take (1 : Nat) (List.drop (0 : Nat) [x6]))) x65 x66 x67 x68) → (∀ (ys69 : (List Int)), ((ys69 = x66) → (∃ (M70 : (List Int)), (((Go.Sx.kL = Go.Sx.kL) ∧
 ((Go.Sx.Abs M70 (Go.Sx.S8.mk (Go.Sx.S8.a x65) (Go.Sx.S8.b x65) (Go.Sx.S8.c x65) (Go.Sx.S8.d x65) (Go.Sx.S8.e x65) (Go.Sx.S8.f x65) (Go.Sx.S8.g x65) (Go.Sx.S8.h x65)) ys69 x67 x68) ∧
 ((List.length M70) < (549755813888 : Nat)))) ∧
 (∀ (ys71 : (List Int)), (∀ (cap72 : Nat), ((((List.take (32 : Nat) ys71) = (Go.Sx.sha M70)) ∧
 (((List.length ys71) = cap72) ∧
 ((32 : Nat) ≤ cap72))) → (∀ (ys73 : (List Int)), ((ys73 = ys71) → ((((0 : Int) ≤ n) ∧
 (((n * (1 : Int)) ≤ (140737488355328 : Int)) ∧
 (n ≤ (140737488355328 : Int)))) ∧
 ((((0 : Int) ≤ (32 : Int)) ∧
 ((32 : Int) ≤ (((Int.toNat n) : Nat) : Int))) ∧
 ((((32 : Nat) ≤ (List.length ys73)) ∧
 ((32 : Nat) ≤ (List.length (List.replicate ((Int.toNat n) * (1 : Nat)) (0 : Int))))) ∧
 ((∃ (i074 : Go.Sx.ExI), ((((1 : Nat) ≤ (Go.Sx.ExI.j i074)) ∧
 ((((32 : Int) * (((Go.Sx.ExI.j i074) : Nat) : Int)) < (n + (32 : Int))) ∧
 ((Go.Sx.Rw (Go.Sx.ExI.b i074) (Go.Sx.bI (Go.Sx.firstL [] dst n) (Go.Sx.domL dst) (Go.Sx.ExI.j i074)) (32 : Nat) (Go.Sx.ExI.bc i074)) ∧
 (((((List.length (Go.Sx.ExI.res i074)) : Nat) : Int) = n) ∧
 (((List.take ((32 : Nat) * (Go.Sx.ExI.j i074)) (Go.Sx.ExI.res i074)) = (List.take (Int.toNat n) (Go.Sx.outN (Go.Sx.firstL [] dst n) (Go.Sx.domL dst) (Go.Sx.ExI.j i074)))) ∧
 ((List.length (Go.Sx.ExI.x i074)) = (64 : Nat))))))) ∧
 ((((l2 = l2) ∧
 (c2 = c2)) ∧
 ((n = n) ∧
 ((x3 = x3) ∧
 ((x6 = x6) ∧
 ((cap43 = cap43) ∧
 ((((Int.toNat n) = (Int.toNat n)) ∧
 ((Int.toNat n) = (Int.toNat n))) ∧
 ((cap72 = (Go.Sx.ExI.bc i074)) ∧
 ((2 : Int) = ((((Go.Sx.ExI.j i074) : Nat) : Int) + (1 : Int)))))))))) ∧
 ((Go.Sx.kL = Go.Sx.kL) ∧
 ((dst = dst) ∧
 ((ys44 = ys44) ∧
 (((((Go.Sx.S8.a x65) = (Go.Sx.S8.a (Go.Sx.ExI.H i074))) ∧
 (((Go.Sx.S8.b x65) = (Go.Sx.S8.b (Go.Sx.ExI.H i074))) ∧
 (((Go.Sx.S8.c x65) = (Go.Sx.S8.c (Go.Sx.ExI.H i074))) ∧
 (((Go.Sx.S8.d x65) = (Go.Sx.S8.d (Go.Sx.ExI.H i074))) ∧
 (((Go.Sx.S8.e x65) = (Go.Sx.S8.e (Go.Sx.ExI.H i074))) ∧
 (((Go.Sx.S8.f x65) = (Go.Sx.S8.f (Go.Sx.ExI.H i074))) ∧
 (((Go.Sx.S8.g x65) = (Go.Sx.S8.g (Go.Sx.ExI.H i074))) ∧
 ((Go.Sx.S8.h x65) = (Go.Sx.S8.h (Go.Sx.ExI.H i074)))))))))) ∧
 ((ys69 = (Go.Sx.ExI.x i074)) ∧
 ((x67 = (Go.Sx.ExI.nx i074)) ∧
 (x68 = (Go.Sx.ExI.len i074))))) ∧
 ((ys73 = (Go.Sx.ExI.b i074)) ∧
 ((Go.Sx.splice (List.replicate ((Int.toNat n) * (1 : Nat)) (0 : Int)) (0 : Nat) (List.take (32 : Nat) (List.drop (0 : Nat) ys73))) = (Go.Sx.ExI.res i074)))))))))) ∧
 (∀ (i75 : Go.Sx.ExI), ((((1 : Nat) ≤ (Go.Sx.ExI.j i75)) ∧
 ((((32 : Int) * (((Go.Sx.ExI.j i75) : Nat) : Int)) < (n + (32 : Int))) ∧
 ((Go.Sx.Rw (Go.Sx.ExI.b i75) (Go.Sx.bI (Go.Sx.firstL [] dst n) (Go.Sx.domL dst) (Go.Sx.ExI.j i75)) (32 : Nat) (Go.Sx.ExI.bc i75)) ∧
 (((((List.length (Go.Sx.ExI.res i75)) : Nat) : Int) = n) ∧
 (((List.take ((32 : Nat) * (Go.Sx.ExI.j i75)) (Go.Sx.ExI.res i75)) = (List.take (Int.toNat n) (Go.Sx.outN (Go.Sx.firstL [] dst n) (Go.Sx.domL dst) (Go.Sx.ExI.j i75)))) ∧
 ((List.length (Go.Sx.ExI.x i75)) = (64 : Nat))))))) → ((((decide (((((Go.Sx.ExI.j i75) : Nat) : Int) + (1 : Int)) ≤ x3)) = Bool.true) → (∀ (ys76 : (List Int)), ((ys76 = (Go.Sx.ExI.x i75)) → ((((0 : Int) ≤ (32 : Int)) ∧
 (((32 : Int) ≤ (140737488355328 : Int)) ∧
 ((32 : Int) ≤ (140737488355328 : Int)))) ∧
 ((∃ (i077 : (Prod Nat (List Int))), ((((List.length (Prod.snd i077)) = (32 : Nat)) ∧
 (((List.take (Prod.fst i077) (Prod.snd i077)) = (List.take (Prod.fst i077) (Go.Sx.xorL ys44 (Go.Sx.ExI.b i75)))) ∧
 ((Prod.fst i077) ≤ (32 : Nat)))) ∧
 ((((l2 = l2) ∧
 (c2 = c2)) ∧
 ((n = n) ∧
 ((x3 = x3) ∧
 ((x6 = x6) ∧
 ((cap43 = cap43) ∧
 (((Go.Sx.ExI.bc i75) = (Go.Sx.ExI.bc i75)) ∧
 ((((Int.toNat n) = (Int.toNat n)) ∧
 ((Int.toNat n) = (Int.toNat n))) ∧
 ((((((Go.Sx.ExI.j i75) : Nat) : Int) + (1 : Int)) = ((((Go.Sx.ExI.j i75) : Nat) : Int) + (1 : Int))) ∧
 ((0 : Int) = (((Prod.fst i077) : Nat) : Int)))))))))) ∧
 ((Go.Sx.kL = Go.Sx.kL) ∧
 ((dst = dst) ∧
 (((((1779033703 : Int) = (1779033703 : Int)) ∧
 (((3144134277 : Int) = (3144134277 : Int)) ∧
 (((1013904242 : Int) = (1013904242 : Int)) ∧
 (((2773480762 : Int) = (2773480762 : Int)) ∧
 (((1359893119 : Int) = (1359893119 : Int)) ∧
 (((2600822924 : Int) = (2600822924 : Int)) ∧
 (((528734635 : Int) = (528734635 : Int)) ∧
 ((1541459225 : Int) = (1541459225 : Int))))))))) ∧
 ((ys76 = ys76) ∧
 (((0 : Int) = (0 : Int)) ∧
 ((0 : Int) = (0 : Int))))) ∧
 ((ys44 = ys44) ∧
 (((Go.Sx.ExI.res i75) = (Go.Sx.ExI.res i75)) ∧
 (((Go.Sx.ExI.b i75) = (Go.Sx.ExI.b i75)) ∧
 ((List.replicate (32 : Nat) (0 : Int)) = (Prod.snd i077))))))))))) ∧
 (∀ (i78 : (Prod Nat (List Int))), ((((List.length (Prod.snd i78)) = (32 : Nat)) ∧
 (((List.take (Prod.fst i78) (Prod.snd i78)) = (List.take (Prod.fst i78) (Go.Sx.xorL ys44 (Go.Sx.ExI.b i75)))) ∧
 ((Prod.fst i78) ≤ (32 : Nat)))) → ((((decide ((((Prod.fst i78) : Nat) : Int) < (32 : Int))) = Bool.true) → ((((0 : Int) ≤ (((Prod.fst i78) : Nat) : Int)) ∧
 ((((Prod.fst i78) : Nat) : Int) < (32 : Int))) ∧
 (((((Int.toNat (((Prod.fst i78) : Nat) : Int)) * (1 : Nat)) + (1 : Nat)) ≤ (List.length ys44)) ∧
 (∀ (x79 : Int), ((x79 = (List.getD ys44 ((Int.toNat (((Prod.fst i78) : Nat) : Int)) * (1 : Nat)) (0 : Int))) → ((((0 : Int) ≤ (((Prod.fst i78) : Nat) : Int)) ∧
 ((((Prod.fst i78) : Nat) : Int) < (32 : Int))) ∧
 (((((Int.toNat (((Prod.fst i78) : Nat) : Int)) * (1 : Nat)) + (1 : Nat)) ≤ (List.length (Go.Sx.ExI.b i75))) ∧
 (∀ (x80 : Int), ((x80 = (List.getD (Go.Sx.ExI.b i75) ((Int.toNat (((Prod.fst i78) : Nat) : Int)) * (1 : Nat)) (0 : Int))) → (∀ (x81 : Int), ((x81 = (Go.Sx.bxor Go.IntKind.u8 x79 x80)) → ((((0 : Int) ≤ (((Prod.fst i78) : Nat) : Int)) ∧
 ((((Prod.fst i78) : Nat) : Int) < (32 : Int))) ∧
 ((((Int.toNat (((Prod.fst i78) : Nat) : Int)) * (1 : Nat)) < (List.length (Prod.snd i78))) ∧
 (∀ (x82 : Int), ((x82 = (Go.IntKind.wrap Go.IntKind.i64 ((((Prod.fst i78) : Nat) : Int) + (1 : Int)))) → (∃ (x83 : (Prod Nat (List Int))), ((((List.length (Prod.snd x83)) = (32 : Nat)) ∧
 (((List.take (Prod.fst x83) (Prod.snd x83)) = (List.take (Prod.fst x83) (Go.Sx.xorL ys44 (Go.Sx.ExI.b i75)))) ∧
 ((Prod.fst x83) ≤ (32 : Nat)))) ∧
 (((((l2 = l2) ∧
 (c2 = c2)) ∧
 ((n = n) ∧
 ((x3 = x3) ∧
 ((x6 = x6) ∧
 ((cap43 = cap43) ∧
 (((Go.Sx.ExI.bc i75) = (Go.Sx.ExI.bc i75)) ∧
 ((((Int.toNat n) = (Int.toNat n)) ∧
 ((Int.toNat n) = (Int.toNat n))) ∧
 ((((((Go.Sx.ExI.j i75) : Nat) : Int) + (1 : Int)) = ((((Go.Sx.ExI.j i75) : Nat) : Int) + (1 : Int))) ∧
 (x82 = (((Prod.fst x83) : Nat) : Int)))))))))) ∧
 ((Go.Sx.kL = Go.Sx.kL) ∧
 ((dst = dst) ∧
 (((((1779033703 : Int) = (1779033703 : Int)) ∧
 (((3144134277 : Int) = (3144134277 : Int)) ∧
 (((1013904242 : Int) = (1013904242 : Int)) ∧
 (((2773480762 : Int) = (2773480762 : Int)) ∧
 (((1359893119 : Int) = (1359893119 : Int)) ∧
 (((2600822924 : Int) = (2600822924 : Int)) ∧
 (((528734635 : Int) = (528734635 : Int)) ∧
 ((1541459225 : Int) = (1541459225 : Int))))))))) ∧
 ((ys76 = ys76) ∧
 (((0 : Int) = (0 : Int)) ∧
 ((0 : Int) = (0 : Int))))) ∧
 ((ys44 = ys44) ∧
 (((Go.Sx.ExI.res i75) = (Go.Sx.ExI.res i75)) ∧
 (((Go.Sx.ExI.b i75) = (Go.Sx.ExI.b i75)) ∧
 ((List.set (Prod.snd i78) ((Int.toNat (((Prod.fst i78) : Nat) : Int)) * (1 : Nat)) x81) = (Prod.snd x83))))))))) ∧
 (((32 : Nat) - (Prod.fst x83)) < ((32 : Nat) - (Prod.fst i78))))))))))))))))))))) ∧
 (((decide ((((Prod.fst i78) : Nat) : Int) < (32 : Int))) = Bool.false) → (((32 : Nat) ≤ (List.length (Prod.snd i78))) ∧
 (∃ (M84 : (List Int)), (((Go.Sx.kL = Go.Sx.kL) ∧
 ((Go.Sx.Abs M84 (Go.Sx.S8.mk (1779033703 : Int) (3144134277 : Int) (1013904242 : Int) (2773480762 : Int) (1359893119 : Int) (2600822924 : Int) (528734635 : Int) (1541459225 : Int)) ys76 (0 : Int) (0 : Int)) ∧
 ((Go.Sx.Bytes (List.take (32 : Nat) (List.drop (0 : Nat) (Prod.snd i78)))) ∧
 (((List.length (List.take (32 : Nat) (List.drop (0 : Nat) (Prod.snd i78)))) = (32 : Nat)) ∧
 (((32 : Nat) ≤ (32 : Nat)) ∧
 (((32 : Nat) ≤ (65536 : Nat)) ∧
 ((List.length M84) < (1099511627776 : Nat)))))))) ∧
 (∀ (x85 : Go.Sx.S8), (∀ (x86 : (List Int)), (∀ (x87 : Int), (∀ (x88 : Int), ((Go.Sx.Abs (M84 ++ (List.take (32 : Nat) (List.drop (0 : Nat) (Prod.snd i78)))) x85 x86 x87 x88) → (∀ (ys89 : (List Int)), ((ys89 = x86) → (∀ (x90 : Int), ((x90 = (Go.IntKind.wrap Go.IntKind.u8 ((((Go.Sx.ExI.j i75) : Nat) : Int) + (1 : Int)))) → (((1 : Nat) ≤ (List.length [x90])) ∧
 (∃ (M91 : (List Int)), (((Go.Sx.kL = Go.Sx.kL) ∧
 ((Go.Sx.Abs M91 (Go.Sx.S8.mk (Go.Sx.S8.a x85) (Go.Sx.S8.b x85) (Go.Sx.S8.c x85) (Go.Sx.S8.d x85) (Go.Sx.S8.e x85) (Go.Sx.S8.f x85) (Go.Sx.S8.g x85) (Go.Sx.S8.h x85)) ys89 x87 x88) ∧
 ((Go.Sx.Bytes (List.take (1 : Nat) (List.drop (0 : Nat) [x90]))) ∧
 (((List.length (List.take (1 : Nat) (List.drop (0 : Nat) [x90]))) = (1 : Nat)) ∧
 (((1 : Nat) ≤ (1 : Nat)) ∧
 (((1 : Nat) ≤ (65536 : Nat)) ∧
 ((List.length M91) < (1099511627776 : Nat)))))))) ∧
 (∀ (x92 : Go.Sx.S8), (∀ (x93 : (List Int)), (∀ (x94 : Int), (∀ (x95 : Int), ((Go.Sx.Abs (M91 ++ (List.take (1 : Nat) (List.drop (0 : Nat) [x90]))) x92 x93 x94 x95) → (∀ (ys96 : (List Int)), ((ys96 = x93) → ((((0 : Nat) + (l2 * (1 : Nat))) ≤ (List.length dst)) ∧
 (∃ (M97 : (List Int)), (((Go.Sx.kL = Go.Sx.kL) ∧
 ((Go.Sx.Abs M97 (Go.Sx.S8.mk (Go.Sx.S8.a x92) (Go.Sx.S8.b x92) (Go.Sx.S8.c x92) (Go.Sx.S8.d x92) (Go.Sx.S8.e x92) (Go.Sx.S8.f x92) (Go.Sx.S8.g x92) (Go.Sx.S8.h x92)) ys96 x94 x95) ∧
 ((Go.Sx.Bytes (List.take (l2 * (1 : Nat)) (List.drop (0 : Nat) dst))) ∧
 (((List.length (List.take (l2 * (1 : Nat)) (List.drop (0 : Nat) dst))) = l2) ∧
 ((l2 ≤ c2) ∧
 ((l2 ≤ (65536 : Nat)) ∧
 ((List.length M97) < (1099511627776 : Nat)))))))) ∧
 (∀ (x98 : Go.Sx.S8), (∀ (x99 : (List Int)), (∀ (x100 : Int), (∀ (x101 : Int), ((Go.Sx.Abs (M97 ++ (List.take (l2 * (1 : Nat)) (List.drop (0 : Nat) dst))) x98 x99 x100 x101) → (∀ (ys102 : (List Int)), ((ys102 = x99) → (((1 : Nat) ≤ (List.length [x6])) ∧
 (∃ (M103 : (List Int)), (((Go.Sx.kL = Go.Sx.kL) ∧
 ((Go.Sx.Abs M103 (Go.Sx.S8.mk (Go.Sx.S8.a x98) (Go.Sx.S8.b x98) (Go.Sx.S8.c x98) (Go.Sx.S8.d x98) (Go.Sx.S8.e x98) (Go.Sx.S8.f x98) (Go.Sx.S8.g x98) (Go.Sx.S8.h x98)) ys102 x100 x101) ∧
 ((Go.Sx.Bytes (List.take (1 : Nat) (List.drop (0 : Nat) [x6]))) ∧
 (((List.length (List.take (1 : Nat) (List.drop (0 : Nat) [x6]))) = (1 : Nat)) ∧
 (((1 : Nat) ≤ (1 : Nat)) ∧
 (((1 : Nat) ≤ (65536 : Nat)) ∧
 ((List.length M103) < (1099511627776 : Nat)))))))) ∧
 (∀ (x104 : Go.Sx.S8), (∀ (x105 : (List Int)), (∀ (x106 : Int), (∀ (x107 : Int), ((Go.Sx.Abs (M103 ++ (List.take (1 : Nat) (List.drop (0 : Nat) [x6]))) x104 x105 x106 x107) → (∀ (ys108 : (List Int)), ((ys108 = x105) → (∃ (M109 : (List Int)), (((Go.Sx.kL = Go.Sx.kL) ∧
 ((Go.Sx.Abs M109 (Go.Sx.S8.mk (Go.Sx.S8.a x104) (Go.Sx.S8.b x104) (Go.Sx.S8.c x104) (Go.Sx.S8.d x104) (Go.Sx.S8.e x104) (Go.Sx.S8.f x104) (Go.Sx.S8.g x104) (Go.Sx.S8.h x104)) ys108 x106 x107) ∧
 ((List.length M109) < (549755813888 : Nat)))) ∧
 (∀ (ys110 : (List Int)), (∀ (cap111 : Nat), ((((List.take (32 : Nat) ys110) = (Go.Sx.sha M109)) ∧
 (((List.length ys110) = cap111) ∧
 ((32 : Nat) ≤ cap111))) → (∀ (ys112 : (List Int)), ((ys112 = ys110) → (∀ (x113 : Int), ((x113 = (Go.IntKind.wrap Go.IntKind.i64 (((((Go.Sx.ExI.j i75) : Nat) : Int) + (1 : Int)) - (1 : Int)))) → (∀ (x114 : Int), ((x114 = (Go.IntKind.wrap Go.IntKind.i64 ((32 : Int) * x113))) → (∀ (x115 : Int), ((x115 = (Go.IntKind.wrap Go.IntKind.i64 ((32 : Int) * ((((Go.Sx.ExI.j i75) : Nat) : Int) + (1 : Int))))) → (∀ (x116 : Int), ((x116 = (((Int.toNat n) : Nat) : Int)) → (∀ (x117 : Int), ((x117 = (if (x116 < x115) then x116 else x115)) → (((((0 : Int) ≤ x117) ∧
 (x117 ≤ (((Int.toNat n) : Nat) : Int))) ∧
 (((0 : Int) ≤ x114) ∧
 (x114 ≤ (((Int.toNat x117) : Nat) : Int)))) ∧
 (((((0 : Nat) + (Min.min (32 : Nat) ((Int.toNat x117) - (Int.toNat x114)))) ≤ (List.length ys112)) ∧
 (((if ((Int.toNat n) = (Int.toNat x114)) then (0 : Nat) else ((Int.toNat x114) * (1 : Nat))) + (Min.min (32 : Nat) ((Int.toNat x117) - (Int.toNat x114)))) ≤ (List.length (Go.Sx.ExI.res i75)))) ∧
 (∀ (x118 : Int), ((x118 = (Go.IntKind.wrap Go.IntKind.i64 (((((Go.Sx.ExI.j i75) : Nat) : Int) + (1 : Int)) + (1 : Int)))) → (∃ (x119 : Go.Sx.ExI), ((((1 : Nat) ≤ (Go.Sx.ExI.j x119)) ∧
 ((((32 : Int) * (((Go.Sx.ExI.j x119) : Nat) : Int)) < (n + (32 : Int))) ∧
 ((Go.Sx.Rw (Go.Sx.ExI.b x119) (Go.Sx.bI (Go.Sx.firstL [] dst n) (Go.Sx.domL dst) (Go.Sx.ExI.j x119)) (32 : Nat) (Go.Sx.ExI.bc x119)) ∧
 (((((List.length (Go.Sx.ExI.res x119)) : Nat) : Int) = n) ∧
 (((List.take ((32 : Nat) * (Go.Sx.ExI.j x119)) (Go.Sx.ExI.res x119)) = (List.take (Int.toNat n) (Go.Sx.outN (Go.Sx.firstL [] dst n) (Go.Sx.domL dst) (Go.Sx.ExI.j x119)))) ∧
 ((List.length (Go.Sx.ExI.x x119)) = (64 : Nat))))))) ∧
 (((((l2 = l2) ∧
 (c2 = c2)) ∧
 ((n = n) ∧
 ((x3 = x3) ∧
 ((x6 = x6) ∧
 ((cap43 = cap43) ∧
 ((((Int.toNat n) = (Int.toNat n)) ∧
 ((Int.toNat n) = (Int.toNat n))) ∧
 ((cap111 = (Go.Sx.ExI.bc x119)) ∧
 (x118 = ((((Go.Sx.ExI.j x119) : Nat) : Int) + (1 : Int)))))))))) ∧
 ((Go.Sx.kL = Go.Sx.kL) ∧
 ((dst = dst) ∧
 ((ys44 = ys44) ∧
 (((((Go.Sx.S8.a x104) = (Go.Sx.S8.a (Go.Sx.ExI.H x119))) ∧
 (((Go.Sx.S8.b x104) = (Go.Sx.S8.b (Go.Sx.ExI.H x119))) ∧
 (((Go.Sx.S8.c x104) = (Go.Sx.S8.c (Go.Sx.ExI.H x119))) ∧
 (((Go.Sx.S8.d x104) = (Go.Sx.S8.d (Go.Sx.ExI.H x119))) ∧
 (((Go.Sx.S8.e x104) = (Go.Sx.S8.e (Go.Sx.ExI.H x119))) ∧
 (((Go.Sx.S8.f x104) = (Go.Sx.S8.f (Go.Sx.ExI.H x119))) ∧
 (((Go.Sx.S8.g x104) = (Go.Sx.S8.g (Go.Sx.ExI.H x119))) ∧
 ((Go.Sx.S8.h x104) = (Go.Sx.S8.h (Go.Sx.ExI.H x119)))))))))) ∧
 ((ys108 = (Go.Sx.ExI.x x119)) ∧
 ((x106 = (Go.Sx.ExI.nx x119)) ∧
 (x107 = (Go.Sx.ExI.len x119))))) ∧
 ((ys112 = (Go.Sx.ExI.b x119)) ∧
 ((Go.Sx.splice (Go.Sx.ExI.res i75) (if ((Int.toNat n) = (Int.toNat x114)) then (0 : Nat) else ((Int.toNat x114) * (1 : Nat))) (List.take (Min.min (32 : Nat) ((Int.toNat x117) - (Int.toNat x114))) (List.drop (0 : Nat) ys112))) = (Go.Sx.ExI.res x119)))))))) ∧
 ((((Int.toNat n) + (32 : Nat)) - ((32 : Nat) * (Go.Sx.ExI.j x119))) < (((Int.toNat n) + (32 : Nat)) - ((32 : Nat) * (Go.Sx.ExI.j i75))))))))))))))))))))))))))))))))))))))))))))))))))))))))))))))))))))))))))))))) ∧
 (((decide (((((Go.Sx.ExI.j i75) : Nat) : Int) + (1 : Int)) ≤ x3)) = Bool.false) → (K (Go.Sx.SV.tup [(Go.Sx.SV.slice (1569 : Nat) (Go.Sx.N.lit (0 : Nat)) (Go.Sx.N.sym (Int.toNat n)) (Go.Sx.N.sym (Int.toNat n))), (Go.Sx.SV.val Go.Value.nilIface)]) (Go.Sx.memL [((2 : Nat), (Go.Sx.Reg.mk Bool.true (Go.Sx.Ct.ints Go.IntKind.u32 Go.Sx.kL))), ((9 : Nat), (Go.Sx.Reg.mk Bool.true (Go.Sx.Ct.ints Go.IntKind.u8 dst))), ((529 : Nat), (Go.Sx.Reg.mk Bool.false (Go.Sx.Ct.segs [(Go.Sx.Sg.cells [(Go.Sx.SV.int Go.IntKind.u32 (Go.Sx.A.sym (Go.Sx.S8.a (Go.Sx.ExI.H i75)))), (Go.Sx.SV.int Go.IntKind.u32 (Go.Sx.A.sym (Go.Sx.S8.b (Go.Sx.ExI.H i75)))), (Go.Sx.SV.int Go.IntKind.u32 (Go.Sx.A.sym (Go.Sx.S8.c (Go.Sx.ExI.H i75)))), (Go.Sx.SV.int Go.IntKind.u32 (Go.Sx.A.sym (Go.Sx.S8.d (Go.Sx.ExI.H i75)))), (Go.Sx.SV.int Go.IntKind.u32 (Go.Sx.A.sym (Go.Sx.S8.e (Go.Sx.ExI.H i75)))), (Go.Sx.SV.int Go.IntKind.u32 (Go.Sx.A.sym (Go.Sx.S8.f (Go.Sx.ExI.H i75)))), (Go.Sx.SV.int Go.IntKind.u32 (Go.Sx.A.sym (Go.Sx.S8.g (Go.Sx.ExI.H i75)))), (Go.Sx.SV.int Go.IntKind.u32 (Go.Sx.A.sym (Go.Sx.S8.h (Go.Sx.ExI.H i75))))]), (Go.Sx.Sg.ints Go.IntKind.u8 (64 : Nat) (Go.Sx.ExI.x i75)), (Go.Sx.Sg.cells [(Go.Sx.SV.int Go.IntKind.i64 (Go.Sx.A.sym (Go.Sx.ExI.nx i75))), (Go.Sx.SV.int Go.IntKind.u64 (Go.Sx.A.sym (Go.Sx.ExI.len i75))), (Go.Sx.SV.bool (Go.Sx.B.lit Bool.false))])]))), ((1177 : Nat), (Go.Sx.Reg.mk Bool.false (Go.Sx.Ct.ints Go.IntKind.u8 ys44))), ((1569 : Nat), (Go.Sx.Reg.mk Bool.false (Go.Sx.Ct.ints Go.IntKind.u8 (Go.Sx.ExI.res i75)))), ((1641 : Nat), (Go.Sx.Reg.mk Bool.false (Go.Sx.Ct.ints Go.IntKind.u8 (Go.Sx.ExI.b i75))))]))))))))))))))))))))))))))))))))))))))))))))))))))))))))))))))))))))))))))))))))))))))))))))))))))))))))))))))))))))))))))))))))))))))))))))))) := by kernel_rfl
end Go.Sx
