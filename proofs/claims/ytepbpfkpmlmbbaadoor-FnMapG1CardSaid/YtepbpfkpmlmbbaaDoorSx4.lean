/- Part 4 of the proof: for every number the law FnMapG1 returns true (a verified symbolic evaluator, contracts of each function reached, the law, its row and card). Conditions: those of the given statement, none besides. -/
import Derived.Laws.StructEq
import Derived.Laws.Tables
import Derived.Laws.Cover2
import Derived.Test.YtepbpfkpmlmbbaaDoorSx3
/- The loops of Legendre. -/
namespace Go.Sx
open Go Go.Proofs Go.Num
set_option maxRecDepth 100000
def cxLg : Cx Tryd.prog := { rds := [cBl, cIz, cApl, cUd, cSub], efs := [kLc, kNl], eqs := [] }
structure LgI where
  a0 : Int
  a1 : Int
  a2 : Int
  a3 : Int
  b0 : Int
  b1 : Int
  b2 : Int
  b3 : Int
  l : Int
  s0 : Int
  s1 : Int
  s2 : Int
  s3 : Int
def LgI.m (i : LgI) : Nat := (V4 i.a0 i.a1 i.a2 i.a3).toNat + (V4 i.b0 i.b1 i.b2 i.b3).toNat
/-- What stays as it is: the symbol of a and b with the sign is that of z. -/
def LgS (z a b : Nat) (l : Int) : Prop :=
  (z = 0 ∧ a = 0 ∧ b = qN) ∨ ((a ≤ qN ∧ b ≤ qN ∧ b % 2 = 1 ∧ Nat.Coprime b a) ∧ (l = 1 ∨ l = -1) ∧ J z qN = l * J a b)
def LgQ (z : Nat) (i : LgI) : Prop := ∃ a b, Ws i.a0 i.a1 i.a2 i.a3 a ∧ Ws i.b0 i.b1 i.b2 i.b3 b ∧ LgS z a b i.l
def liLg (S : LgI → Prop) : LI where
  ι := LgI
  keep := [2, 3, 4, 7]
  keepR := []
  F := fun i => ⟨[(8, .int .i64 (.sym i.l))], [(545, ⟨false, w4 i.a0 i.a1 i.a2 i.a3⟩), (569, ⟨false, w4 i.b0 i.b1 i.b2 i.b3⟩), (601, ⟨false, w4 i.s0 i.s1 i.s2 i.s3⟩)]⟩
  I := fun _ i => S i
  μ := fun i => i.m
structure PrI where
  j : Nat
  s : PS
  l : Int
def pk (f g : Int) : Int := IntKind.i64.wrap (f + 4294967296 * g)
def liPr (T : Int → Int → Int → Nat → PS → Int → Prop) : LI where
  ι := PrI
  keep := [2, 3, 4, 7]
  keepR := [545, 569, 601]
  F := fun i => ⟨[(5, .int .i64 (.sym (pk i.s.f0 i.s.g0))), (6, .int .i64 (.sym (pk i.s.f1 i.s.g1))), (8, .int .i64 (.sym i.l)), (10, .int .u64 (.sym (i.s.x : Nat))), (11, .int .u64 (.sym (i.s.y : Nat))), (33, i64n i.j)], []⟩
  I := fun st i => T (st.int 10) (st.int 11) (st.int 8) i.j i.s i.l
  μ := fun i => 31 - i.j
def uLg (S : LgI → Prop) (T : Int → Int → Int → Nat → PS → Int → Prop) : Nat → Lp := fun n => match n with | 0 => .inv (liLg S) | 2 => .inv (liPr T) | _ => .un 0
/-- The rounds, j of them. -/
def PrT (m : Nat) (x0 y0 l0 : Int) (j : Nat) (s : PS) (l : Int) : Prop := j ≤ m ∧ s = prun j ⟨x0.toNat, y0.toNat, 1, 0, 0, 1⟩ ∧ l = l0 * psgns j ⟨x0.toNat, y0.toNat, 1, 0, 0, 1⟩
end Go.Sx

/- A stretch of rounds, as Legendre's and Inverse's words tell it. -/
namespace Go.Sx
open Go Go.Proofs Go.Num
set_option maxRecDepth 100000
theorem wrap64_eq (y : Int) : IntKind.i64.wrap y = if y % 18446744073709551616 ≥ 9223372036854775808 then y % 18446744073709551616 - 18446744073709551616 else y % 18446744073709551616 := by
  show (if (true && decide (y % 18446744073709551616 ≥ 9223372036854775808)) = true then y % 18446744073709551616 - 18446744073709551616 else y % 18446744073709551616) = _
  simp only [Bool.true_and, decide_eq_true_eq]
theorem wrap64_add (y t : Int) : IntKind.i64.wrap (y + 18446744073709551616 * t) = IntKind.i64.wrap y := by
  rw [wrap64_eq, wrap64_eq, Int.add_mul_emod_self_left]
theorem pk_dbl (f g : Int) : IntKind.i64.wrap (pk f g * 2) = pk (2 * f) (2 * g) := by
  unfold pk
  obtain ⟨t, ht⟩ := wrap64_ex (f + 4294967296 * g)
  have : (f + 4294967296 * g + 18446744073709551616 * t) * 2 = (2 * f + 4294967296 * (2 * g)) + 18446744073709551616 * (2 * t) := by omega
  rw [ht, this, wrap64_add]
theorem pk_dif (f g f' g' : Int) : IntKind.i64.wrap (pk f g - pk f' g') = pk (f - f') (g - g') := by
  unfold pk
  obtain ⟨t, ht⟩ := wrap64_ex (f + 4294967296 * g)
  obtain ⟨u, hu⟩ := wrap64_ex (f' + 4294967296 * g')
  have : f + 4294967296 * g + 18446744073709551616 * t - (f' + 4294967296 * g' + 18446744073709551616 * u) = ((f - f') + 4294967296 * (g - g')) + 18446744073709551616 * (t - u) := by omega
  rw [ht, hu, this, wrap64_add]
theorem shift_nat {r k i : Nat} (hk0 : 1 ≤ k) (hk : k ≤ 63) : (r / 2 ^ (64 * i) % 2 ^ 64 / 2 ^ k) ||| (r / 2 ^ (64 * (i + 1)) % 2 ^ 64 * 2 ^ (64 - k) % 2 ^ 64) = r / 2 ^ k / 2 ^ (64 * i) % 2 ^ 64 := by
  have p2 : ∀ k, 0 < 2 ^ k := fun k => Nat.pow_pos (by omega)
  have e1 : r / 2 ^ (64 * (i + 1)) = r / 2 ^ (64 * i) / 2 ^ 64 := by rw [Nat.div_div_eq_div_mul, ← Nat.pow_add, Nat.mul_add]
  have e2 : r / 2 ^ k / 2 ^ (64 * i) = r / 2 ^ (64 * i) / 2 ^ k := by rw [Nat.div_div_eq_div_mul, Nat.div_div_eq_div_mul, Nat.mul_comm]
  rw [e1, e2]
  generalize r / 2 ^ (64 * i) = q
  have s64 : (2 : Nat) ^ 64 = 2 ^ (64 - k) * 2 ^ k := by rw [← Nat.pow_add]; congr 1; omega
  have h1 : q / 2 ^ 64 % 2 ^ 64 * 2 ^ (64 - k) % 2 ^ 64 = 2 ^ (64 - k) * (q / 2 ^ 64 % 2 ^ k) := by
    have hd : 2 ^ k ∣ 2 ^ 64 := Nat.pow_dvd_pow 2 (by omega)
    rw [← Nat.mod_mod_of_dvd (q / 2 ^ 64) hd]
    generalize q / 2 ^ 64 % 2 ^ 64 = h
    rw [Nat.mul_comm h]
    conv => lhs; rw [s64]
    rw [Nat.mul_mod_mul_left]
  have h2 : q % 2 ^ 64 / 2 ^ k < 2 ^ (64 - k) := by
    rw [Nat.div_lt_iff_lt_mul (p2 _), ← s64]
    exact Nat.mod_lt _ (p2 _)
  rw [h1, or_sum h2]
  have h3 : q / 2 ^ k % 2 ^ 64 = q / 2 ^ k % 2 ^ (64 - k) + 2 ^ (64 - k) * (q / 2 ^ k / 2 ^ (64 - k) % 2 ^ k) := by rw [s64, Nat.mod_mul]
  have h4 : q / 2 ^ k / 2 ^ (64 - k) = q / 2 ^ 64 := by rw [Nat.div_div_eq_div_mul, ← Nat.pow_add]; congr 2; omega
  have h5 : q % 2 ^ 64 / 2 ^ k = q / 2 ^ k % 2 ^ (64 - k) := by rw [s64, Nat.mul_comm, Nat.mod_mul_right_div_self]
  rw [h3, h4, h5]
theorem shift_word {r k i : Nat} (hk0 : 1 ≤ k) (hk : k ≤ 63) {x y w : Int} (hx : x = shrv .u64 (lm r i) k) (hy : y = shlv .u64 (lm r (i + 1)) (64 - k)) (hw : w = bor .u64 x y) : w = lm (r / 2 ^ k) i := by
  have l0 : r / 2 ^ (64 * i) % 2 ^ 64 < 2 ^ 64 := Nat.mod_lt _ (Nat.pow_pos (by omega))
  have ex : x = ((r / 2 ^ (64 * i) % 2 ^ 64 / 2 ^ k : Nat) : Int) := by
    rw [hx, lm_nat, shr64 (Int.natCast_nonneg _) (by omega), Int.natCast_ediv, Int.natCast_pow]
    rfl
  have ey : y = ((r / 2 ^ (64 * (i + 1)) % 2 ^ 64 * 2 ^ (64 - k) % 2 ^ 64 : Nat) : Int) := by rw [hy, lm_nat, shl_nat (by omega)]
  obtain ⟨e, _⟩ := bor_eq (show Wd x by rw [ex]; exact wd_nat (Nat.lt_of_le_of_lt (Nat.div_le_self _ _) l0)) (show Wd y by rw [ey]; exact wd_nat (Nat.mod_lt _ (Nat.pow_pos (by omega))))
  rw [hw, e, ex, ey, Int.toNat_natCast, Int.toNat_natCast, shift_nat hk0 hk, lm_nat]
theorem lm4 {r : Nat} (h : r < 2135987035920910082395021706169552114602704522356652769947041607822219725780640550022962086936576) : lm r 4 = ((r / 115792089237316195423570985008687907853269984665640564039457584007913129639936 : Nat) : Int) := by
  unfold lm
  simp only [Nat.reducePow]
  omega
theorem band_top {w : Nat} (h : w < 2 ^ 64) : band .u64 (w : Int) 9223372036854775808 ≠ 0 ↔ 9223372036854775808 ≤ w := by
  obtain ⟨e, _⟩ := band_eq (wd_nat h) (show Wd 9223372036854775808 by unfold Wd; omega)
  have a := and_high h (k := 63) (by omega)
  rw [show (2 ^ 64 - 1) ^^^ (2 ^ 63 - 1) = 2 ^ 63 by decide] at a
  rw [e, Int.toNat_natCast, show (9223372036854775808 : Int).toNat = 2 ^ 63 from rfl, a]
  omega
/-- The sign of a number of 320 bits. -/
theorem sign_bit {z : Int} (h0 : -1067993517960455041197510853084776057301352261178326384973520803911109862890320275011481043468288 ≤ z) (h1 : z < 1067993517960455041197510853084776057301352261178326384973520803911109862890320275011481043468288) {x : Int} (hx : x = band .u64 (lm (m5 z) 4) 9223372036854775808) : x ≠ 0 ↔ z < 0 := by
  have hl := m5_lt z
  rw [hx, lm4 hl, band_top (by omega)]
  unfold m5
  omega
theorem m5_pos {z : Int} (h0 : 0 ≤ z) (h1 : z < 2135987035920910082395021706169552114602704522356652769947041607822219725780640550022962086936576) : m5 z = z.natAbs := by unfold m5; omega
theorem m5_neg {z : Int} (h0 : z < 0) (h1 : -2135987035920910082395021706169552114602704522356652769947041607822219725780640550022962086936576 < z) : m5 (-(V4 (lm (m5 z) 0) (lm (m5 z) 1) (lm (m5 z) 2) (lm (m5 z) 3) + lm (m5 z) 4 * 115792089237316195423570985008687907853269984665640564039457584007913129639936)) = z.natAbs := by
  rw [lm5_val (m5_lt z)]
  unfold m5
  omega
theorem psgn_pm (s : PS) : psgn s = 1 ∨ psgn s = -1 := by
  unfold psgn e2 Num.e4
  split <;> (try split) <;> (try split) <;> (try split) <;> first | exact .inl rfl | exact .inr rfl
theorem psgns_pm (s : PS) : ∀ n, psgns n s = 1 ∨ psgns n s = -1
  | 0 => .inl rfl
  | n + 1 => by
    rw [psgns]
    rcases psgns_pm s n with h | h <;> rcases psgn_pm (prun n s) with g | g <;> rw [h, g] <;> decide
end Go.Sx

/- Legendre: its condition's parts. -/
namespace Go.Sx
open Go Go.Proofs Go.Num
set_option maxRecDepth 100000
def NegW (r : Nat) : Nat := m5 (-(V4 (lm r 0) (lm r 1) (lm r 2) (lm r 3) + lm r 4 * 115792089237316195423570985008687907853269984665640564039457584007913129639936))
/-- One round's end. -/
def LeafP (T : Nat → PS → Int → Prop) (j : Nat) (R : Prop) (c0 c1 l x y jn : Int) : Prop :=
  ∃ i : PrI, T i.j i.s i.l ∧ (((c0 = pk i.s.f0 i.s.g0 ∧ c1 = pk i.s.f1 i.s.g1 ∧ l = i.l ∧ x = (i.s.x : Nat) ∧ y = (i.s.y : Nat) ∧ jn = (i.j : Nat)) ∧ R) ∧ 31 - i.j < 31 - j)
def EndP (T : Nat → PS → Int → Prop) (j : Nat) (R : Prop) (c0 cc l x y : Int) : Prop :=
  ∀ c1, c1 = IntKind.i64.wrap (cc * 2) → ∀ jn, jn = IntKind.i64.wrap ((j : Int) + 1) → LeafP T j R c0 c1 l x y jn
def SgnP (y l : Int) (K : Int → Prop) : Prop :=
  ∀ b, b = band .u64 y 7 → ((b == 3) = true → ∀ l', l' = IntKind.i64.wrap (0 - l) → K l') ∧ ((b == 3) = false → ((b == 5) = true → ∀ l', l' = IntKind.i64.wrap (0 - l) → K l') ∧ ((b == 5) = false → K l))
def OddP (x y p0 p1 l : Int) (K : Int → Int → Int → Prop) : Prop :=
  ∀ a, a = IntKind.u64.wrap (y - x) → ∀ b, b = IntKind.u64.wrap (Int.tdiv a 2) → ∀ c, c = IntKind.i64.wrap (p1 - p0) → SgnP x l fun l' => K c b l'
def RoundP (T : Nat → PS → Int → Prop) (j : Nat) (R : Prop) (x y p0 p1 l : Int) : Prop :=
  ∀ e, e = band .u64 x 1 → ((e == 0) = true → ∀ h, h = IntKind.u64.wrap (Int.tdiv x 2) → SgnP y l fun l' => EndP T j R p0 p1 l' h y) ∧
    ((e == 0) = false → (Wd x ∧ Wd y ∧ (0 : Int) ≤ 0 ∧ (0 : Int) ≤ 1) ∧ ∀ d, d = difLo x y 0 → ∀ b, b = difHi x y 0 →
      ((b == 1) = true → ∀ u, u = band .u64 y 3 → ((u == 3) = true → ∀ v, v = band .u64 x 3 → ((v == 3) = true → ∀ l', l' = IntKind.i64.wrap (0 - l) → OddP x y p0 p1 l' fun c b l' => EndP T j R c p0 l' b x) ∧ ((v == 3) = false → OddP x y p0 p1 l fun c b l' => EndP T j R c p0 l' b x)) ∧
        ((u == 3) = false → OddP x y p0 p1 l fun c b l' => EndP T j R c p0 l' b x)) ∧
      ((b == 1) = false → ∀ h, h = IntKind.u64.wrap (Int.tdiv d 2) → ∀ c, c = IntKind.i64.wrap (p0 - p1) → SgnP y l fun l' => EndP T j R c p1 l' h y))
def ShP (r k : Nat) (K : Int → Int → Int → Int → Prop) : Prop :=
  ∀ a, a = shrv .u64 (lm r 0) k → ∀ b, b = shlv .u64 (lm r 1) (64 - k) → ∀ w0, w0 = bor .u64 a b → ∀ a, a = shrv .u64 (lm r 1) k → ∀ b, b = shlv .u64 (lm r 2) (64 - k) → ∀ w1, w1 = bor .u64 a b →
  ∀ a, a = shrv .u64 (lm r 2) k → ∀ b, b = shlv .u64 (lm r 3) (64 - k) → ∀ w2, w2 = bor .u64 a b → ∀ a, a = shrv .u64 (lm r 3) k → ∀ b, b = shlv .u64 (lm r 4) (64 - k) → ∀ w3, w3 = bor .u64 a b → K w0 w1 w2 w3
def WdR (r : Nat) : Prop := (Wd (lm r 0) ∧ Wd (lm r 1) ∧ Wd (lm r 2) ∧ Wd (lm r 3)) ∧ Wd (lm r 4)
def CombP (x0 x1 x2 x3 b0 b1 b2 b3 : Int) (p : Int) (K : Nat → Prop) : Prop :=
  ∀ f, f = udF p → ∀ g, g = udG p → (((Wd x0 ∧ Wd x1 ∧ Wd x2 ∧ Wd x3) ∧ Wd b0 ∧ Wd b1 ∧ Wd b2 ∧ Wd b3) ∧ I64 f ∧ I64 g) ∧ ∀ r, r = m5 (V4 x0 x1 x2 x3 * f + V4 b0 b1 b2 b3 * g) → K r
def LgEnd (S : LgI → Prop) (i0 : LgI) (x0 x1 x2 x3 l w0 w1 w2 w3 v0 v1 v2 v3 : Int) : Prop :=
  ∃ i : LgI, S i ∧ ((l = i.l ∧ (w0 = i.a0 ∧ w1 = i.a1 ∧ w2 = i.a2 ∧ w3 = i.a3) ∧ (v0 = i.b0 ∧ v1 = i.b1 ∧ v2 = i.b2 ∧ v3 = i.b3) ∧ x0 = i.s0 ∧ x1 = i.s1 ∧ x2 = i.s2 ∧ x3 = i.s3) ∧ i.m < i0.m)
def LgB (S : LgI → Prop) (i : LgI) (x0 x1 x2 x3 p1 l w0 w1 w2 w3 : Int) : Prop :=
  CombP x0 x1 x2 x3 i.b0 i.b1 i.b2 i.b3 p1 fun r => ∀ t, t = band .u64 (lm r 4) 9223372036854775808 → ((t != 0) = true → WdR r ∧ ∀ r', r' = NegW r → ShP r' 30 fun v0 v1 v2 v3 => LgEnd S i x0 x1 x2 x3 l w0 w1 w2 w3 v0 v1 v2 v3) ∧
    ((t != 0) = false → ShP r 30 fun v0 v1 v2 v3 => LgEnd S i x0 x1 x2 x3 l w0 w1 w2 w3 v0 v1 v2 v3)
def AfterP (S : LgI → Prop) (i : LgI) (y p0 p1 l : Int) : Prop :=
  ∀ x0, x0 = i.a0 → ∀ x1, x1 = i.a1 → ∀ x2, x2 = i.a2 → ∀ x3, x3 = i.a3 → CombP x0 x1 x2 x3 i.b0 i.b1 i.b2 i.b3 p0 fun r => ∀ t, t = band .u64 (lm r 4) 9223372036854775808 →
    ((t != 0) = true → WdR r ∧ ∀ r', r' = NegW r → ∀ u, u = band .u64 y 3 → ((u == 3) = true → ∀ l', l' = IntKind.i64.wrap (0 - l) → ShP r' 30 fun w0 w1 w2 w3 => LgB S i x0 x1 x2 x3 p1 l' w0 w1 w2 w3) ∧ ((u == 3) = false → ShP r' 30 fun w0 w1 w2 w3 => LgB S i x0 x1 x2 x3 p1 l w0 w1 w2 w3)) ∧
    ((t != 0) = false → ShP r 30 fun w0 w1 w2 w3 => LgB S i x0 x1 x2 x3 p1 l w0 w1 w2 w3)
def WdA (i : LgI) : Prop := Wd i.a0 ∧ Wd i.a1 ∧ Wd i.a2 ∧ Wd i.a3
def WdB (i : LgI) : Prop := Wd i.b0 ∧ Wd i.b1 ∧ Wd i.b2 ∧ Wd i.b3
def VA (i : LgI) : Int := V4 i.a0 i.a1 i.a2 i.a3
def VB (i : LgI) : Int := V4 i.b0 i.b1 i.b2 i.b3
def R4 (i : LgI) : Prop := (i.a0 = i.a0 ∧ i.a1 = i.a1 ∧ i.a2 = i.a2 ∧ i.a3 = i.a3) ∧ (i.b0 = i.b0 ∧ i.b1 = i.b1 ∧ i.b2 = i.b2 ∧ i.b3 = i.b3) ∧ i.s0 = i.s0 ∧ i.s1 = i.s1 ∧ i.s2 = i.s2 ∧ i.s3 = i.s3
def FinM (i : LgI) : Mem := memL [(545, ⟨false, w4 i.a0 i.a1 i.a2 i.a3⟩), (569, ⟨false, w4 i.b0 i.b1 i.b2 i.b3⟩), (601, ⟨false, w4 i.s0 i.s1 i.s2 i.s3⟩)]
def SloP (k : PrI) (c0 c1 l x y j : Int) : Prop := c0 = pk k.s.f0 k.s.g0 ∧ c1 = pk k.s.f1 k.s.g1 ∧ l = k.l ∧ x = (k.s.x : Nat) ∧ y = (k.s.y : Nat) ∧ j = ((k.j : Nat) : Int)
theorem vc_lg (S : LgI → Prop) (T : Int → Int → Int → Nat → PS → Int → Prop) (z0 z1 z2 z3 : Int) (K : SV → Mem → Prop) : (execF cxLg (uLg S T) Tryd.f26 64 [.ptr 1 (.lit 0)] (memL [(1, ⟨true, w4 z0 z1 z2 z3⟩)]) K) =
  (∀ x0, x0 = z0 → ∀ x1, x1 = z1 → ∀ x2, x2 = z2 → ∀ x3, x3 = z3 →
    (∃ i : LgI, S i ∧ 1 = i.l ∧ (x0 = i.a0 ∧ x1 = i.a1 ∧ x2 = i.a2 ∧ x3 = i.a3) ∧ (4332616871279656263 = i.b0 ∧ 10917124144477883021 = i.b1 ∧ 13281191951274694749 = i.b2 ∧ 3486998266802970665 = i.b3) ∧ 0 = i.s0 ∧ 0 = i.s1 ∧ 0 = i.s2 ∧ 0 = i.s3) ∧
    ∀ i : LgI, S i → WdA i ∧
      ((!decide (VA i = 0)) = true → WdA i ∧ ∀ n0, n0 = ((bl (VA i).toNat : Nat) : Int) → WdB i ∧ ∀ n1, n1 = ((bl (VB i).toNat : Nat) : Int) → ∀ n, n = (if n1 > n0 then n1 else n0) →
        (WdA i ∧ (0 ≤ n ∧ n ≤ 256) ∧ (VA i).toNat < 2 ^ n.toNat) ∧ ∀ xa, xa = ((apx 32 n.toNat (VA i).toNat : Nat) : Int) → (WdB i ∧ (0 ≤ n ∧ n ≤ 256) ∧ (VB i).toNat < 2 ^ n.toNat) ∧ ∀ xb, xb = ((apx 32 n.toNat (VB i).toNat : Nat) : Int) →
        (∃ k : PrI, T xa xb i.l k.j k.s k.l ∧ SloP k 1 4294967296 i.l xa xb 0 ∧ R4 i) ∧
        ∀ k : PrI, T xa xb i.l k.j k.s k.l →
          (decide (((k.j : Nat) : Int) < 30) = true → RoundP (T xa xb i.l) k.j (R4 i) (k.s.x : Nat) (k.s.y : Nat) (pk k.s.f0 k.s.g0) (pk k.s.f1 k.s.g1) k.l) ∧
          (decide (((k.j : Nat) : Int) < 30) = false → AfterP S i (k.s.y : Nat) (pk k.s.f0 k.s.g0) (pk k.s.f1 k.s.g1) k.l)) ∧
      ((!decide (VA i = 0)) = false → ((i.b0 == 1) = true → ∀ u, u = bor .u64 i.b1 i.b2 → ∀ v, v = bor .u64 u i.b3 → ((v == 0) = true → K (.int .i64 (.sym i.l)) (FinM i)) ∧ ((v == 0) = false → K (.int .i64 (.lit 0)) (FinM i))) ∧
        ((i.b0 == 1) = false → K (.int .i64 (.lit 0)) (FinM i)))) := by kernel_rfl
end Go.Sx

/- Legendre: a round. -/
namespace Go.Sx
open Go Go.Proofs Go.Num
set_option maxRecDepth 100000
theorem band_nat (x : Nat) (hx : x < 2 ^ 64) {n : Nat} (hn : n ≤ 64) {L : Int} (hL : L = 2 ^ n - 1) : band .u64 (x : Int) L = ((x % 2 ^ n : Nat) : Int) := by
  rw [hL, band_mask (wd_nat hx) hn, Int.natCast_emod, Int.natCast_pow]
  rfl
theorem neg_l {l l' : Int} (h : l = 1 ∨ l = -1) (h' : l' = IntKind.i64.wrap (0 - l)) : l' = -l := by
  rw [wrap64 (by omega) (by omega)] at h'
  omega
theorem SgnP.of {y : Nat} (hy : y < 2 ^ 64) {l : Int} {K : Int → Prop} (hl : l = 1 ∨ l = -1) (h : K (l * e2 y)) : SgnP y l K := by
  intro b hb
  rw [band_nat y hy (n := 3) (by omega) (by decide)] at hb
  simp only [beq_iff_eq, beq_eq_false_iff_ne, ne_eq]
  refine ⟨fun h3 l' hl' => ?_, fun h3 => ⟨fun h5 l' hl' => ?_, fun h5 => ?_⟩⟩
  · have e : e2 y = -1 := by unfold e2; rw [if_pos (by omega)]
    rw [e] at h
    rw [neg_l hl hl', show -l = l * -1 by omega]
    exact h
  · have e : e2 y = -1 := by unfold e2; rw [if_pos (by omega)]
    rw [e] at h
    rw [neg_l hl hl', show -l = l * -1 by omega]
    exact h
  · have e : e2 y = 1 := by unfold e2; rw [if_neg (by omega)]
    rw [e, Int.mul_one] at h
    exact h
theorem EndP.of {m j : Nat} {xa xb l0 l : Int} {s : PS} {R : Prop} {c0 cc l' x y : Int} (hT : PrT m xa xb l0 j s l) (hj : j < m) (hm : m ≤ 31) (h0 : c0 = pk (pstep s).f0 (pstep s).g0) (h1 : IntKind.i64.wrap (cc * 2) = pk (pstep s).f1 (pstep s).g1) (h2 : l' = l * psgn s)
    (h3 : x = ((pstep s).x : Nat)) (h4 : y = ((pstep s).y : Nat)) (hR : R) : EndP (PrT m xa xb l0) j R c0 cc l' x y := by
  intro c1 hc jn hjn
  rw [wrap64 (by omega) (by omega)] at hjn
  obtain ⟨_, hs, hl⟩ := hT
  refine ⟨⟨j + 1, pstep s, l'⟩, ⟨hj, ?_, ?_⟩, ⟨⟨h0, by rw [hc, h1], rfl, h3, h4, by simp only; omega⟩, hR⟩, by simp only; omega⟩
  · simp only
    rw [prun, ← hs]
  · simp only
    rw [h2, hl, psgns, ← hs, Int.mul_assoc]
theorem half_nat {x : Nat} (hx : x < 2 ^ 64) {h : Int} (hh : h = IntKind.u64.wrap (Int.tdiv (x : Int) 2)) : h = ((x / 2 : Nat) : Int) := by
  rw [Int.tdiv_eq_ediv_of_nonneg (by omega), wu64] at hh
  omega
theorem RoundP.of {m j : Nat} {xa xb l0 : Int} {s : PS} {l : Int} {R : Prop} (hT : PrT m xa xb l0 j s l) (hj : j < m) (hm : m ≤ 31) (hx : s.x < 2 ^ 64) (hy : s.y < 2 ^ 64) (hl : l = 1 ∨ l = -1) (hR : R) :
    RoundP (PrT m xa xb l0) j R (s.x : Nat) (s.y : Nat) (pk s.f0 s.g0) (pk s.f1 s.g1) l := by
  intro e he
  rw [band_nat s.x hx (n := 1) (by omega) (by decide)] at he
  simp only [beq_iff_eq, beq_eq_false_iff_ne, ne_eq]
  refine ⟨fun h0 h hh => ?_, fun h0 => ⟨⟨wd_nat hx, wd_nat hy, Int.le_refl _, by decide⟩, fun d hd b hb => ⟨fun h1 => ?_, fun h1 => ?_⟩⟩⟩
  · have hx2 : s.x % 2 = 0 := by omega
    have ep : pstep s = ⟨s.x / 2, s.y, s.f0, s.g0, 2 * s.f1, 2 * s.g1⟩ := by unfold pstep; rw [if_pos hx2]
    have es : psgn s = e2 s.y := by unfold psgn; rw [if_pos hx2]
    refine SgnP.of hy hl (EndP.of hT hj hm ?_ ?_ ?_ ?_ ?_ hR)
    · rw [ep]
    · rw [ep, pk_dbl]
    · rw [es]
    · rw [ep]; exact half_nat hx hh
    · rw [ep]
  · have hx2 : s.x % 2 = 1 := by omega
    have hlt : s.x < s.y := by
      unfold difHi at hb
      split at hb <;> omega
    have ep : pstep s = ⟨(s.y - s.x) / 2, s.x, s.f1 - s.f0, s.g1 - s.g0, 2 * s.f0, 2 * s.g0⟩ := by unfold pstep; rw [if_neg (by omega), if_pos hlt]
    have es : psgn s = Num.e4 s.x s.y * e2 s.x := by unfold psgn; rw [if_neg (by omega), if_pos hlt]
    have odd : ∀ l' : Int, l' = l * Num.e4 s.x s.y → OddP (s.x : Nat) (s.y : Nat) (pk s.f0 s.g0) (pk s.f1 s.g1) l' fun c b l' => EndP (PrT m xa xb l0) j R c (pk s.f0 s.g0) l' b (s.x : Nat) := by
      intro l' hl' a ha b hb c hc
      have hlp : l' = 1 ∨ l' = -1 := by
        rw [hl']
        unfold Num.e4
        rcases hl with hl | hl <;> split <;> omega
      have ea : a = ((s.y - s.x : Nat) : Int) := by rw [ha, wu64]; omega
      refine SgnP.of hx hlp (EndP.of hT hj hm ?_ ?_ ?_ ?_ ?_ hR)
      · rw [ep, hc, pk_dif]
      · rw [ep, pk_dbl]
      · rw [es, hl', Int.mul_assoc]
      · rw [ep]
        rw [ea] at hb
        exact half_nat (by omega) hb
      · rw [ep]
    intro u hu
    rw [band_nat s.y hy (n := 2) (by omega) (by decide)] at hu
    refine ⟨fun h3 v hv => ⟨fun h4 l' hl' => ?_, fun h4 => ?_⟩, fun h3 => ?_⟩
    · rw [band_nat s.x hx (n := 2) (by omega) (by decide)] at hv
      refine odd l' ?_
      rw [neg_l hl hl']
      unfold Num.e4
      rw [if_pos (by omega)]
      omega
    · rw [band_nat s.x hx (n := 2) (by omega) (by decide)] at hv
      refine odd l ?_
      unfold Num.e4
      rw [if_neg (by omega), Int.mul_one]
    · refine odd l ?_
      unfold Num.e4
      rw [if_neg (by omega), Int.mul_one]
  · have hx2 : s.x % 2 = 1 := by omega
    have hge : ¬ s.x < s.y := by
      unfold difHi at hb
      split at hb <;> omega
    have ep : pstep s = ⟨(s.x - s.y) / 2, s.y, s.f0 - s.f1, s.g0 - s.g1, 2 * s.f1, 2 * s.g1⟩ := by unfold pstep; rw [if_neg (by omega), if_neg hge]
    have es : psgn s = e2 s.y := by unfold psgn; rw [if_neg (by omega), if_neg hge]
    intro h hh c hc
    have ed : d = ((s.x - s.y : Nat) : Int) := by rw [hd]; unfold difLo; omega
    refine SgnP.of hy hl (EndP.of hT hj hm ?_ ?_ ?_ ?_ ?_ hR)
    · rw [ep, hc, pk_dif]
    · rw [ep, pk_dbl]
    · rw [es]
    · rw [ep]
      rw [ed] at hh
      exact half_nat (by omega) hh
    · rw [ep]
end Go.Sx

/- Legendre: behind the rounds. -/
namespace Go.Sx
open Go Go.Proofs Go.Num
set_option maxRecDepth 100000
theorem ShP.of {r k : Nat} {K : Int → Int → Int → Int → Prop} (hk0 : 1 ≤ k) (hk : k ≤ 63) (h : K (lm (r / 2 ^ k) 0) (lm (r / 2 ^ k) 1) (lm (r / 2 ^ k) 2) (lm (r / 2 ^ k) 3)) : ShP r k K := by
  intro a ha b hb w0 h0 a' ha' b' hb' w1 h1 a2 ha2 b2 hb2 w2 h2 a3 ha3 b3 hb3 w3 h3
  rw [shift_word hk0 hk ha hb h0, shift_word hk0 hk ha' hb' h1, shift_word hk0 hk ha2 hb2 h2, shift_word hk0 hk ha3 hb3 h3]
  exact h
theorem CombP.of {x0 x1 x2 x3 b0 b1 b2 b3 f g : Int} {a b : Nat} {K : Nat → Prop} (hx : Ws x0 x1 x2 x3 a) (hb : Ws b0 b1 b2 b3 b) (hf : -2147483648 < f ∧ f ≤ 2147483648) (hg : -2147483648 < g ∧ g ≤ 2147483648) (h : ∀ r, r = m5 (f * a + g * b) → K r) : CombP x0 x1 x2 x3 b0 b1 b2 b3 (pk f g) K := by
  obtain ⟨ef, eg⟩ := ud_of hf.1 hf.2 hg.1 hg.2
  intro f' hf' g' hg'
  have e1 : f' = f := hf'.trans ef
  have e2 : g' = g := hg'.trans eg
  rw [e1, e2]
  refine ⟨⟨⟨hx.wd, hb.wd⟩, by unfold I64; omega, by unfold I64; omega⟩, fun r hr => h r ?_⟩
  rw [hr, hx.val, hb.val, Int.mul_comm f, Int.mul_comm g]
/-- A number's sign and its words without it. -/
theorem sign_of {m r : Nat} {A z : Int} (hz : ((2 ^ m : Nat) : Int) * A = z) (hm : m ≤ 31) (hA : A.natAbs ≤ 115792089237316195423570985008687907853269984665640564039457584007913129639936) (hr : r = m5 z) {t : Int} (ht : t = band .u64 (lm r 4) 9223372036854775808) :
    (t ≠ 0 ↔ A < 0) ∧ (A < 0 → NegW r / 2 ^ m = A.natAbs) ∧ (0 ≤ A → r / 2 ^ m = A.natAbs) ∧ r < 2135987035920910082395021706169552114602704522356652769947041607822219725780640550022962086936576 := by
  have hp : 0 < 2 ^ m := Nat.pow_pos (by omega)
  have hp2 : 2 ^ m ≤ 2 ^ 31 := Nat.pow_le_pow_right (by omega) hm
  have h1 := natAbs_of_mul hz
  have h2 : 2 ^ m * A.natAbs ≤ 2 ^ 31 * 115792089237316195423570985008687907853269984665640564039457584007913129639936 := Nat.mul_le_mul hp2 hA
  have hsg : z < 0 ↔ A < 0 := by
    constructor
    · intro h
      apply Classical.byContradiction
      intro hn
      have := Int.mul_nonneg (show (0 : Int) ≤ ((2 ^ m : Nat) : Int) from Int.natCast_nonneg _) (show 0 ≤ A by omega)
      omega
    · intro h
      have := Int.mul_neg_of_pos_of_neg (show (0 : Int) < ((2 ^ m : Nat) : Int) by omega) h
      omega
  have hb := sign_bit (z := z) (by omega) (by omega) (show t = band .u64 (lm (m5 z) 4) 9223372036854775808 by rw [← hr]; exact ht)
  refine ⟨hb.trans hsg, fun h => ?_, fun h => ?_, by rw [hr]; exact m5_lt z⟩
  · unfold NegW
    rw [hr, m5_neg (hsg.2 h) (by omega), ← h1, Nat.mul_div_cancel_left _ hp]
  · have : ¬ z < 0 := fun q => by have := hsg.1 q; omega
    rw [hr, m5_pos (by omega) (by omega), ← h1, Nat.mul_div_cancel_left _ hp]
theorem wdr (r : Nat) : WdR r := ⟨⟨lm_wd _ _, lm_wd _ _, lm_wd _ _, lm_wd _ _⟩, lm_wd _ _⟩
theorem ws_lm {x : Nat} (h : x < 115792089237316195423570985008687907853269984665640564039457584007913129639936) : Ws (lm x 0) (lm x 1) (lm x 2) (lm x 3) x := ⟨rfl, rfl, rfl, rfl, h⟩
theorem fac_bd {f g : Int} {p x0 y0 : Nat} {s : PS} (hl : Lin p x0 y0 s) (hp : p ≤ 2147483648) : ((-2147483648 < s.f0 ∧ s.f0 ≤ 2147483648) ∧ (-2147483648 < s.g0 ∧ s.g0 ≤ 2147483648)) ∧ (-2147483648 < s.f1 ∧ s.f1 ≤ 2147483648) ∧ (-2147483648 < s.g1 ∧ s.g1 ≤ 2147483648) := by
  have h0 := hl.s0
  have h1 := hl.s1
  have h2 := hl.lo
  omega
theorem apx_lt {lo n a : Nat} (hlo : lo ≤ 32) (h : a < 2 ^ n) : apx lo n a < 2 ^ 64 := by
  unfold apx
  split
  · rename_i hn
    exact Nat.lt_of_lt_of_le h (Nat.pow_le_pow_right (by omega) hn)
  · rename_i hn
    have h1 : a / 2 ^ (n - (64 - lo)) < 2 ^ (64 - lo) := by
      rw [Nat.div_lt_iff_lt_mul (Nat.pow_pos (by omega)), ← Nat.pow_add, show 64 - lo + (n - (64 - lo)) = n by omega]
      exact h
    have h2 := Nat.mod_lt a (show 0 < 2 ^ lo from Nat.pow_pos (by omega))
    have h3 : 2 ^ lo * (a / 2 ^ (n - (64 - lo)) + 1) ≤ 2 ^ lo * 2 ^ (64 - lo) := Nat.mul_le_mul_left _ h1
    rw [← Nat.pow_add, show lo + (64 - lo) = 64 by omega, Nat.mul_add] at h3
    omega
theorem prun_lt {x0 y0 : Nat} {f g f' g' : Int} (hx : x0 < 2 ^ 64) (hy : y0 < 2 ^ 64) : ∀ n, (prun n ⟨x0, y0, f, g, f', g'⟩).x < 2 ^ 64 ∧ (prun n ⟨x0, y0, f, g, f', g'⟩).y < 2 ^ 64
  | 0 => ⟨hx, hy⟩
  | n + 1 => by
    obtain ⟨h1, h2⟩ := prun_lt (f := f) (g := g) (f' := f') (g' := g') hx hy n
    rw [prun]
    generalize prun n ⟨x0, y0, f, g, f', g'⟩ = s at h1 h2 ⊢
    unfold pstep
    split
    · simp only; omega
    · split <;> simp only <;> omega
theorem AfterP.of {z a b n : Nat} {i : LgI} {s : PS} {l : Int} {A B : Int} (ha : Ws i.a0 i.a1 i.a2 i.a3 a) (hb : Ws i.b0 i.b1 i.b2 i.b3 b) (haq : a ≤ qN) (hbq : b ≤ qN) (ha0 : 0 < a) (hi : i.l = 1 ∨ i.l = -1) (hJ : J z qN = i.l * J a b)
    (hs : s = prun 30 ⟨apx 32 n a, apx 32 n b, 1, 0, 0, 1⟩) (hl : l = i.l * psgns 30 ⟨apx 32 n a, apx 32 n b, 1, 0, 0, 1⟩) (hL : Lin (2 ^ 30) (apx 32 n a) (apx 32 n b) s) (hO : Num.Out 32 30 n a b s A B) (han : a < 2 ^ n) (hbn : b < 2 ^ n) :
    AfterP (LgQ z) i (s.y : Nat) (pk s.f0 s.g0) (pk s.f1 s.g1) l := by
  obtain ⟨⟨f0b, g0b⟩, f1b, g1b⟩ := fac_bd (f := 0) (g := 0) hL (by decide)
  obtain ⟨hAle, hBle⟩ := hO.le qN haq hbq
  have hy4 : B % 4 = (s.y : Int) % 4 := by
    obtain ⟨t, ht⟩ := hO.low
    have : ((2 ^ (32 - 30) : Nat) : Int) * t = 4 * t := rfl
    rw [this] at ht
    omega
  have hy64 : s.y < 2 ^ 64 := by
    rw [hs]
    exact (prun_lt (apx_lt (by omega) han) (apx_lt (by omega) hbn) 30).2
  have hlp : l = 1 ∨ l = -1 := by
    rw [hl]
    rcases hi with h | h <;> rcases psgns_pm ⟨apx 32 n a, apx 32 n b, 1, 0, 0, 1⟩ 30 with g | g <;> rw [h, g] <;> decide
  have hsym := hO.symK (by decide)
  have hK : ∀ u v : Nat, K (u : Int) (v : Int) = J u v := fun u v => by unfold K; rw [Int.natAbs_natCast]
  rw [hK, hK] at hsym
  have hfin : J z qN = (l * (if A < 0 ∧ B % 4 = 3 then -1 else 1)) * J A.natAbs B.natAbs := by
    rw [hJ, hsym, hl]
    simp only [Int.mul_assoc]
  have endp : ∀ l' x0 x1 x2 x3 : Int, l' = l * (if A < 0 ∧ B % 4 = 3 then -1 else 1) → LgEnd (LgQ z) i x0 x1 x2 x3 l' (lm A.natAbs 0) (lm A.natAbs 1) (lm A.natAbs 2) (lm A.natAbs 3) (lm B.natAbs 0) (lm B.natAbs 1) (lm B.natAbs 2) (lm B.natAbs 3) := by
    intro l' x0 x1 x2 x3 hl'
    have wa : Ws (lm A.natAbs 0) (lm A.natAbs 1) (lm A.natAbs 2) (lm A.natAbs 3) A.natAbs := ws_lm (by unfold qN at hAle; omega)
    have wb : Ws (lm B.natAbs 0) (lm B.natAbs 1) (lm B.natAbs 2) (lm B.natAbs 3) B.natAbs := ws_lm (by unfold qN at hBle; omega)
    refine ⟨⟨lm A.natAbs 0, lm A.natAbs 1, lm A.natAbs 2, lm A.natAbs 3, lm B.natAbs 0, lm B.natAbs 1, lm B.natAbs 2, lm B.natAbs 3, l', x0, x1, x2, x3⟩, ⟨A.natAbs, B.natAbs, wa, wb, .inr ⟨⟨hAle, hBle, hO.odd, hO.cop⟩, ?_, ?_⟩⟩, ⟨rfl, ⟨rfl, rfl, rfl, rfl⟩, ⟨rfl, rfl, rfl, rfl⟩, rfl, rfl, rfl, rfl⟩, ?_⟩
    · show l' = 1 ∨ l' = -1
      rw [hl']
      rcases hlp with h | h <;> split <;> omega
    · show J z qN = l' * J A.natAbs B.natAbs
      rw [hl']
      exact hfin
    · have hd := hO.dec ha0
      unfold LgI.m
      simp only
      rw [wa.val, wb.val, ha.val, hb.val]
      simp only [Int.toNat_natCast]
      exact hd
  have lgb : ∀ l' : Int, l' = l * (if A < 0 ∧ B % 4 = 3 then -1 else 1) → LgB (LgQ z) i i.a0 i.a1 i.a2 i.a3 (pk s.f1 s.g1) l' (lm A.natAbs 0) (lm A.natAbs 1) (lm A.natAbs 2) (lm A.natAbs 3) := by
    intro l' hl'
    refine CombP.of ha hb f1b g1b fun r hr t ht => ?_
    obtain ⟨q1, q2, q3, q4⟩ := sign_of hO.rb (by decide) (by unfold qN at hBle; omega) hr ht
    simp only [bne_iff_ne, bne_eq_false_iff_eq, ne_eq]
    refine ⟨fun h => ⟨wdr r, fun r' hr' => ?_⟩, fun h => ?_⟩
    · refine ShP.of (by decide) (by decide) ?_
      rw [hr', q2 (q1.1 h)]
      exact endp l' _ _ _ _ hl'
    · refine ShP.of (by decide) (by decide) ?_
      rw [q3 (by have := mt q1.2 (fun c => c h); omega)]
      exact endp l' _ _ _ _ hl'
  rintro _ rfl _ rfl _ rfl _ rfl
  refine CombP.of ha hb f0b g0b fun r hr t ht => ?_
  obtain ⟨q1, q2, q3, q4⟩ := sign_of hO.ra (by decide) (by unfold qN at hAle; omega) hr ht
  simp only [bne_iff_ne, bne_eq_false_iff_eq, ne_eq]
  refine ⟨fun h => ⟨wdr r, fun r' hr' u hu => ?_⟩, fun h => ?_⟩
  · have hAn := q1.1 h
    rw [band_nat s.y hy64 (n := 2) (by omega) (by decide)] at hu
    simp only [beq_iff_eq, beq_eq_false_iff_ne, ne_eq]
    refine ⟨fun h3 l' hl' => ShP.of (by decide) (by decide) ?_, fun h3 => ShP.of (by decide) (by decide) ?_⟩
    · rw [hr', q2 hAn]
      refine lgb l' ?_
      rw [neg_l hlp hl', if_pos ⟨hAn, by omega⟩]
      omega
    · rw [hr', q2 hAn]
      refine lgb l ?_
      rw [if_neg (by omega), Int.mul_one]
  · have hAn : ¬ A < 0 := fun c => (q1.2 c) h
    refine ShP.of (by decide) (by decide) ?_
    rw [q3 (by omega)]
    refine lgb l ?_
    rw [if_neg (by omega), Int.mul_one]
end Go.Sx

/- The contract of Legendre. -/
namespace Go.Sx
open Go Go.Proofs Go.Num
set_option maxRecDepth 100000
theorem q_ws : Ws 4332616871279656263 10917124144477883021 13281191951274694749 3486998266802970665 qN := by
  refine ⟨by decide, by decide, by decide, by decide, by unfold qN; omega⟩
theorem q_pri : Pri qN := pri_q
theorem q_odd : qN % 2 = 1 := by decide
theorem ws_zero {a b c d : Int} {x : Nat} (h : Ws a b c d x) (hv : V4 a b c d = 0) : x = 0 := by
  rw [h.val] at hv
  omega
theorem max_bl {a b : Nat} {n0 n1 n : Int} (ha : a ≤ qN) (hb : b ≤ qN) (h0 : n0 = ((bl a : Nat) : Int)) (h1 : n1 = ((bl b : Nat) : Int)) (hn : n = (if n1 > n0 then n1 else n0)) :
    (0 ≤ n ∧ n ≤ 256) ∧ a < 2 ^ n.toNat ∧ b < 2 ^ n.toNat ∧ (64 < n.toNat → 2 ^ (n.toNat - 1) ≤ a ∨ 2 ^ (n.toNat - 1) ≤ b) := by
  obtain ⟨a1, a2⟩ := bl_spec a
  obtain ⟨b1, b2⟩ := bl_spec b
  have la : bl a ≤ 254 := bl_le (by unfold qN at ha; omega)
  have lb : bl b ≤ 254 := bl_le (by unfold qN at hb; omega)
  have key : ∀ N, N = max (bl a) (bl b) → a < 2 ^ N ∧ b < 2 ^ N ∧ (64 < N → 2 ^ (N - 1) ≤ a ∨ 2 ^ (N - 1) ≤ b) := by
    intro N hN
    refine ⟨Nat.lt_of_lt_of_le a1 (Nat.pow_le_pow_right (by omega) (by omega)), Nat.lt_of_lt_of_le b1 (Nat.pow_le_pow_right (by omega) (by omega)), fun h => ?_⟩
    rcases Nat.le_total (bl a) (bl b) with hle | hle
    · have : N = bl b := by omega
      rw [this]
      right
      omega
    · have : N = bl a := by omega
      rw [this]
      left
      omega
  refine ⟨by split at hn <;> omega, key n.toNat (by split at hn <;> omega)⟩
def lgV (z : Nat) : Int := if z = 0 then 0 else J z qN
theorem lg_zero {z0 z1 z2 z3 : Int} {K : SV → Mem → Prop} (hz : Ws z0 z1 z2 z3 0) (hK : ∀ m, K (.int .i64 (.lit 0)) m) :
    execF cxLg (uLg (fun i => Ws i.a0 i.a1 i.a2 i.a3 0 ∧ Ws i.b0 i.b1 i.b2 i.b3 qN) (PrT 30)) Tryd.f26 64 [.ptr 1 (.lit 0)] (memL [(1, ⟨true, w4 z0 z1 z2 z3⟩)]) K := by
  rw [vc_lg]
  intro x0 g0 x1 g1 x2 g2 x3 g3
  rw [g0, g1, g2, g3]
  refine ⟨⟨⟨z0, z1, z2, z3, 4332616871279656263, 10917124144477883021, 13281191951274694749, 3486998266802970665, 1, 0, 0, 0, 0⟩, ⟨hz, q_ws⟩, rfl, ⟨rfl, rfl, rfl, rfl⟩, ⟨rfl, rfl, rfl, rfl⟩, rfl, rfl, rfl, rfl⟩, ?_⟩
  rintro i ⟨ha, hb⟩
  refine ⟨ha.wd, fun h => ?_, fun h => ⟨fun h1 => ?_, fun h1 => hK _⟩⟩
  · have : VA i = 0 := ha.val
    rw [this] at h
    simp at h
  · have e : i.b0 = lm qN 0 := hb.a
    rw [e] at h1
    exact absurd h1 (by decide)
theorem lg_walk {z : Nat} {z0 z1 z2 z3 : Int} {K : SV → Mem → Prop} (hz : El z0 z1 z2 z3 z) (h0 : z ≠ 0) (hK : ∀ l m, l = J z qN → K (.int .i64 (.sym l)) m) :
    execF cxLg (uLg (LgQ z) (PrT 30)) Tryd.f26 64 [.ptr 1 (.lit 0)] (memL [(1, ⟨true, w4 z0 z1 z2 z3⟩)]) K := by
  rw [vc_lg]
  intro x0 g0 x1 g1 x2 g2 x3 g3
  rw [g0, g1, g2, g3]
  have hzl := hz.lt
  refine ⟨⟨⟨z0, z1, z2, z3, 4332616871279656263, 10917124144477883021, 13281191951274694749, 3486998266802970665, 1, 0, 0, 0, 0⟩, ⟨z, qN, hz.ws, q_ws, .inr ⟨⟨by omega, Nat.le_refl _, q_odd, q_pri.cop (by omega) hzl⟩, .inl rfl, by rw [Int.one_mul]⟩⟩, rfl, ⟨rfl, rfl, rfl, rfl⟩, ⟨rfl, rfl, rfl, rfl⟩, rfl, rfl, rfl, rfl⟩, ?_⟩
  rintro i ⟨a, b, ha, hb, hS⟩
  have hS : (a ≤ qN ∧ b ≤ qN ∧ b % 2 = 1 ∧ Nat.Coprime b a) ∧ (i.l = 1 ∨ i.l = -1) ∧ J z qN = i.l * J a b := by
    rcases hS with h | h
    · exact absurd h.1 h0
    · exact h
  obtain ⟨⟨haq, hbq, hbo, hcop⟩, hl, hJ⟩ := hS
  have hva : VA i = a := ha.val
  have hvb : VB i = b := hb.val
  refine ⟨ha.wd, fun hne => ?_, fun he => ?_⟩
  · have ha0 : 0 < a := by
      rw [hva] at hne
      simp only [Bool.not_eq_true', decide_eq_false_iff_not] at hne
      omega
    rw [hva, hvb]
    simp only [Int.toNat_natCast]
    refine ⟨ha.wd, fun n0 hn0 => ⟨hb.wd, fun n1 hn1 n hn => ?_⟩⟩
    obtain ⟨nb, hna, hnb, htop⟩ := max_bl haq hbq hn0 hn1 hn
    refine ⟨⟨ha.wd, nb, hna⟩, fun xa hxa => ⟨⟨hb.wd, nb, hnb⟩, fun xb hxb => ?_⟩⟩
    have exa : xa.toNat = apx 32 n.toNat a := by rw [hxa, Int.toNat_natCast]
    have exb : xb.toNat = apx 32 n.toNat b := by rw [hxb, Int.toNat_natCast]
    refine ⟨⟨⟨0, ⟨xa.toNat, xb.toNat, 1, 0, 0, 1⟩, i.l⟩, ⟨Nat.zero_le _, rfl, by rw [psgns, Int.mul_one]⟩, ⟨show 1 = pk 1 0 by decide, show 4294967296 = pk 0 1 by decide, rfl, by rw [hxa]; rfl, by rw [hxb]; rfl, rfl⟩, ⟨rfl, rfl, rfl, rfl⟩, ⟨rfl, rfl, rfl, rfl⟩, rfl, rfl, rfl, rfl⟩, ?_⟩
    rintro ⟨j, s, l⟩ hT
    have hT' := hT
    obtain ⟨hj, hs, hlj⟩ := hT'
    dsimp only at hj hs hlj ⊢
    rw [exa, exb] at hs hlj
    refine ⟨fun h => ?_, fun h => ?_⟩
    · simp only [decide_eq_true_eq] at h
      have hlt := prun_lt (f := 1) (g := 0) (f' := 0) (g' := 1) (apx_lt (lo := 32) (by omega) hna) (apx_lt (lo := 32) (by omega) hnb) j
      rw [← hs] at hlt
      have hlp : l = 1 ∨ l = -1 := by
        rw [hlj]
        rcases hl with h | h <;> rcases psgns_pm ⟨apx 32 n.toNat a, apx 32 n.toNat b, 1, 0, 0, 1⟩ j with g | g <;> rw [h, g] <;> decide
      exact RoundP.of hT (by omega) (by decide) hlt.1 hlt.2 hlp ⟨⟨rfl, rfl, rfl, rfl⟩, ⟨rfl, rfl, rfl, rfl⟩, rfl, rfl, rfl, rfl⟩
    · simp only [decide_eq_false_iff_not] at h
      have hj30 : j = 30 := by omega
      subst hj30
      obtain ⟨hL, A, B, hO⟩ := outer (lo := 32) (m := 30) (n := n.toNat) (a := a) (b := b) (by decide) (by decide) (by decide) htop hbo hcop
      rw [← hs] at hL hO
      exact AfterP.of ha hb haq hbq ha0 hl hJ hs hlj hL hO hna hnb
  · have ha0 : a = 0 := by
      rw [hva] at he
      simp only [Bool.not_eq_false', decide_eq_true_eq] at he
      omega
    subst ha0
    obtain ⟨hb1, hk⟩ := K_zero hcop
    subst hb1
    have e0 : i.b0 = 1 := by rw [hb.a]; decide
    have e1 : i.b1 = 0 := by rw [hb.b]; decide
    have e2' : i.b2 = 0 := by rw [hb.c]; decide
    have e3 : i.b3 = 0 := by rw [hb.d]; decide
    have hl1 : i.l = J z qN := by
      rw [hJ, show J ((0 : Nat) : Int) 1 = 1 from rfl, Int.mul_one]
    rw [e0, e1, e2', e3]
    refine ⟨fun _ u hu v hv => ⟨fun _ => hK _ _ hl1, fun h => ?_⟩, fun h => absurd h (by decide)⟩
    have : v = 0 := by rw [hv, hu]; decide
    rw [this] at h
    exact absurd h (by decide)
def rLg : R0 := fun args l =>
  match args, l with
  | [.ptr 1 (.lit 0)], [(1, ⟨true, x⟩)] => r4 x fun a b c d => some (some ((Wd a ∧ Wd b ∧ Wd c ∧ Wd d) ∧ V4 a b c d < 21888242871839275222246405745257275088696311157297823662689037894645226208583), .int .i64 (.sym (lgV (V4 a b c d).toNat)))
  | _, _ => none
theorem lg_ok (args : List SV) (l : List (Nat × Reg)) (p : Ob) (v : SV) (h : rLg args l = some (p, v)) (hp : p.ok) : ∃ U, execF cxLg U Tryd.f26 64 args (memL l) fun v' _ => ∀ β u, Den β v' u → Den β v u := by
  unfold rLg at h
  split at h
  · obtain ⟨a, b, c, d, rfl, q⟩ := r4_ex h
    simp only [Option.some.injEq, Prod.mk.injEq] at q
    obtain ⟨rfl, rfl⟩ := q
    obtain ⟨⟨ha, hb, hc, hd⟩, hlt⟩ : (Wd a ∧ Wd b ∧ Wd c ∧ Wd d) ∧ V4 a b c d < 21888242871839275222246405745257275088696311157297823662689037894645226208583 := hp
    have hz := El.of_words ha hb hc hd hlt
    by_cases h0 : (V4 a b c d).toNat = 0
    · have hw := hz.ws
      rw [h0] at hw ⊢
      exact ⟨_, lg_zero hw fun m β u hu => by simpa [Den, A.val, lgV] using hu⟩
    · exact ⟨_, lg_walk hz h0 fun l m hl β u hu => by
        have e : lgV (V4 a b c d).toNat = l := by unfold lgV; rw [if_neg h0, hl]
        rw [e]
        exact hu⟩
  · cases h
def cLgd : Rd Tryd.prog := mkQ mixed 26 Tryd.func26 (by decide) (by kernel_rfl) [] [.ptr 4 true] rLg lg_ok
end Go.Sx

/- The loops of Inverse. -/
namespace Go.Sx
open Go Go.Proofs Go.Num
set_option maxRecDepth 100000
structure IvI where
  a0 : Int
  a1 : Int
  a2 : Int
  a3 : Int
  b0 : Int
  b1 : Int
  b2 : Int
  b3 : Int
  u0 : Int
  u1 : Int
  u2 : Int
  u3 : Int
  v0 : Int
  v1 : Int
  v2 : Int
  v3 : Int
  s0 : Int
  s1 : Int
  s2 : Int
  s3 : Int
  p0 : Int
  p1 : Int
  p2 : Int
  p3 : Int
  n : Int
def IvI.m (i : IvI) : Nat := 2 * ((V4 i.a0 i.a1 i.a2 i.a3).toNat + (V4 i.b0 i.b1 i.b2 i.b3).toNat) + (i.n % 2).toNat
def liIv (S : IvI → Prop) : LI where
  ι := IvI
  keep := [0, 1, 5, 6, 7, 15, 16]
  keepR := [1]
  F := fun i => ⟨[(10, .int .i64 (.sym i.p0)), (11, .int .i64 (.sym i.p1)), (12, .int .i64 (.sym i.p2)), (13, .int .i64 (.sym i.p3)), (14, .int .u64 (.sym i.n))],
    [(545, ⟨false, w4 i.a0 i.a1 i.a2 i.a3⟩), (569, ⟨false, w4 i.b0 i.b1 i.b2 i.b3⟩), (593, ⟨false, w4 i.u0 i.u1 i.u2 i.u3⟩), (665, ⟨false, w4 i.v0 i.v1 i.v2 i.v3⟩), (673, ⟨false, w4 i.s0 i.s1 i.s2 i.s3⟩)]⟩
  I := fun _ i => S i
  μ := fun i => i.m
structure PvI where
  j : Nat
  s : PS
def liPv (T : Int → Int → Nat → PS → Prop) : LI where
  ι := PvI
  keep := [0, 1, 5, 6, 7, 10, 11, 12, 13, 14, 15, 16]
  keepR := [1, 545, 569, 593, 665, 673]
  F := fun i => ⟨[(8, .int .i64 (.sym (pk i.s.f0 i.s.g0))), (9, .int .i64 (.sym (pk i.s.f1 i.s.g1))), (18, .int .u64 (.sym (i.s.x : Nat))), (19, .int .u64 (.sym (i.s.y : Nat))), (47, i64n i.j)], []⟩
  I := fun st i => T (st.int 18) (st.int 19) i.j i.s
  μ := fun i => 32 - i.j
structure WvI where
  v0 : Int
  v1 : Int
  v2 : Int
  v3 : Int
  n : Int
def liWv (W : WvI → Prop) : LI where
  ι := WvI
  keep := [0, 1, 5, 7, 15]
  keepR := [1, 545, 593]
  F := fun i => ⟨[(14, .int .u64 (.sym i.n))], [(665, ⟨false, w4 i.v0 i.v1 i.v2 i.v3⟩)]⟩
  I := fun _ i => W i
  μ := fun i => 18 - i.n.toNat
def uIv (S : IvI → Prop) (T : Int → Int → Nat → PS → Prop) (W : WvI → Prop) : Nat → Lp := fun n => match n with | 0 => .inv (liIv S) | 2 => .inv (liPv T) | 4 => .inv (liWv W) | _ => .un 0
end Go.Sx

/- The loop of inverseExp. -/
namespace Go.Sx
open Go Go.Proofs Go.Num
set_option maxRecDepth 100000
structure IeI where
  n : Nat
  z0 : Int
  z1 : Int
  z2 : Int
  z3 : Int
def liIe (S : IeI → Prop) : LI where
  ι := IeI
  keep := [0, 3, 5]
  keepR := [513, 537]
  F := fun i => ⟨[(6, .int .i64 (.sym ((i.n : Nat) - 1)))], [(1, ⟨false, w4 i.z0 i.z1 i.z2 i.z3⟩)]⟩
  I := fun _ i => S i
  μ := fun i => i.n
def uIe (S : IeI → Prop) : Nat → Lp := fun n => match n with | 0 => .inv (liIe S) | _ => .un 0
def cxIe : Cx Tryd.prog := { rds := [], efs := [kSet, kSqr, kMulA], eqs := [] }
end Go.Sx

/- The contract of inverseExp. -/
namespace Go.Sx
open Go Go.Proofs Go.Num
set_option maxRecDepth 100000
theorem vc_ie (S : IeI → Prop) (z0 z1 z2 z3 a0 a1 a2 a3 : Int) (K : SV → Mem → Prop) : (execF cxIe (uIe S) Tryd.f59 64 [.ptr 1 (.lit 0), .agg [.int .u64 (.sym a0), .int .u64 (.sym a1), .int .u64 (.sym a2), .int .u64 (.sym a3)]] (memL [(1, ⟨false, w4 z0 z1 z2 z3⟩)]) K) =
  (((∃ (i00 : Go.Sx.IeI), ((S i00) ∧
 (((252 : Int) = ((((Go.Sx.IeI.n i00) : Nat) : Int) - (1 : Int))) ∧
 (((a0 = a0) ∧
 ((a1 = a1) ∧
 ((a2 = a2) ∧
 (a3 = a3)))) ∧
 ((a0 = (Go.Sx.IeI.z0 i00)) ∧
 ((a1 = (Go.Sx.IeI.z1 i00)) ∧
 ((a2 = (Go.Sx.IeI.z2 i00)) ∧
 (a3 = (Go.Sx.IeI.z3 i00))))))))) ∧
 (∀ (i1 : Go.Sx.IeI), ((S i1) → ((((decide (((((Go.Sx.IeI.n i1) : Nat) : Int) - (1 : Int)) ≥ (0 : Int))) = Bool.true) → (∃ (x2 : Nat), (∃ (y3 : Nat), (((Go.Sx.Ws (Go.Sx.IeI.z0 i1) (Go.Sx.IeI.z1 i1) (Go.Sx.IeI.z2 i1) (Go.Sx.IeI.z3 i1) x2) ∧
 (Go.Sx.El (Go.Sx.IeI.z0 i1) (Go.Sx.IeI.z1 i1) (Go.Sx.IeI.z2 i1) (Go.Sx.IeI.z3 i1) y3)) ∧
 (∀ (r4 : Nat), ((r4 = (Go.Sx.mmul x2 y3)) → (∀ (y05 : Int), (∀ (y16 : Int), (∀ (y27 : Int), (∀ (y38 : Int), ((Go.Sx.El y05 y16 y27 y38 r4) → (∀ (x9 : Int), ((x9 = (Go.IntKind.wrap Go.IntKind.i64 (Int.tdiv ((((Go.Sx.IeI.n i1) : Nat) : Int) - (1 : Int)) (64 : Int)))) → ((((0 : Int) ≤ x9) ∧
 (x9 < (4 : Int))) ∧
 (((((Int.toNat x9) * (1 : Nat)) + (1 : Nat)) ≤ (4 : Nat)) ∧
 (∀ (x10 : Int), ((x10 = (List.getD [(4332616871279656261 : Int), (10917124144477883021 : Int), (13281191951274694749 : Int), (3486998266802970665 : Int)] ((Int.toNat x9) * (1 : Nat)) (0 : Int))) → (∀ (x11 : Int), ((x11 = (Int.tmod ((((Go.Sx.IeI.n i1) : Nat) : Int) - (1 : Int)) (64 : Int))) → (((0 : Int) ≤ x11) ∧
 (∀ (x12 : Int), ((x12 = (Go.Sx.shrv Go.IntKind.u64 x10 (Int.toNat x11))) → (∀ (x13 : Int), ((x13 = (Go.Sx.band Go.IntKind.u64 x12 (1 : Int))) → ((((x13 == (1 : Int)) = Bool.true) → (∃ (x14 : Nat), (∃ (y15 : Nat), (((Go.Sx.Ws y05 y16 y27 y38 x14) ∧
 (Go.Sx.El a0 a1 a2 a3 y15)) ∧
 (∀ (r16 : Nat), ((r16 = (Go.Sx.mmul x14 y15)) → (∀ (y017 : Int), (∀ (y118 : Int), (∀ (y219 : Int), (∀ (y320 : Int), ((Go.Sx.El y017 y118 y219 y320 r16) → (∀ (x21 : Int), ((x21 = (Go.IntKind.wrap Go.IntKind.i64 (((((Go.Sx.IeI.n i1) : Nat) : Int) - (1 : Int)) - (1 : Int)))) → (∃ (x22 : Go.Sx.IeI), ((S x22) ∧
 (((x21 = ((((Go.Sx.IeI.n x22) : Nat) : Int) - (1 : Int))) ∧
 (((a0 = a0) ∧
 ((a1 = a1) ∧
 ((a2 = a2) ∧
 (a3 = a3)))) ∧
 ((y017 = (Go.Sx.IeI.z0 x22)) ∧
 ((y118 = (Go.Sx.IeI.z1 x22)) ∧
 ((y219 = (Go.Sx.IeI.z2 x22)) ∧
 (y320 = (Go.Sx.IeI.z3 x22))))))) ∧
 ((Go.Sx.IeI.n x22) < (Go.Sx.IeI.n i1)))))))))))))))))) ∧
 (((x13 == (1 : Int)) = Bool.false) → (∀ (x23 : Int), ((x23 = (Go.IntKind.wrap Go.IntKind.i64 (((((Go.Sx.IeI.n i1) : Nat) : Int) - (1 : Int)) - (1 : Int)))) → (∃ (x24 : Go.Sx.IeI), ((S x24) ∧
 (((x23 = ((((Go.Sx.IeI.n x24) : Nat) : Int) - (1 : Int))) ∧
 (((a0 = a0) ∧
 ((a1 = a1) ∧
 ((a2 = a2) ∧
 (a3 = a3)))) ∧
 ((y05 = (Go.Sx.IeI.z0 x24)) ∧
 ((y16 = (Go.Sx.IeI.z1 x24)) ∧
 ((y27 = (Go.Sx.IeI.z2 x24)) ∧
 (y38 = (Go.Sx.IeI.z3 x24))))))) ∧
 ((Go.Sx.IeI.n x24) < (Go.Sx.IeI.n i1))))))))))))))))))))))))))))))))) ∧
 (((decide (((((Go.Sx.IeI.n i1) : Nat) : Int) - (1 : Int)) ≥ (0 : Int))) = Bool.false) → (K (Go.Sx.SV.ptr (1 : Nat) (Go.Sx.N.lit (0 : Nat))) (Go.Sx.memL [((1 : Nat), (Go.Sx.Reg.mk Bool.false (Go.Sx.Ct.cells [(Go.Sx.SV.int Go.IntKind.u64 (Go.Sx.A.sym (Go.Sx.IeI.z0 i1))), (Go.Sx.SV.int Go.IntKind.u64 (Go.Sx.A.sym (Go.Sx.IeI.z1 i1))), (Go.Sx.SV.int Go.IntKind.u64 (Go.Sx.A.sym (Go.Sx.IeI.z2 i1))), (Go.Sx.SV.int Go.IntKind.u64 (Go.Sx.A.sym (Go.Sx.IeI.z3 i1)))]))), ((513 : Nat), (Go.Sx.Reg.mk Bool.false (Go.Sx.Ct.cells [(Go.Sx.SV.int Go.IntKind.u64 (Go.Sx.A.sym a0)), (Go.Sx.SV.int Go.IntKind.u64 (Go.Sx.A.sym a1)), (Go.Sx.SV.int Go.IntKind.u64 (Go.Sx.A.sym a2)), (Go.Sx.SV.int Go.IntKind.u64 (Go.Sx.A.sym a3))]))), ((537 : Nat), (Go.Sx.Reg.mk Bool.false (Go.Sx.Ct.cells [(Go.Sx.SV.int Go.IntKind.u64 (Go.Sx.A.lit (4332616871279656261 : Int))), (Go.Sx.SV.int Go.IntKind.u64 (Go.Sx.A.lit (10917124144477883021 : Int))), (Go.Sx.SV.int Go.IntKind.u64 (Go.Sx.A.lit (13281191951274694749 : Int))), (Go.Sx.SV.int Go.IntKind.u64 (Go.Sx.A.lit (3486998266802970665 : Int)))])))])))))))) := by kernel_rfl

theorem word_bit {E p : Nat} : E / 2 ^ (64 * (p / 64)) % 2 ^ 64 / 2 ^ (p % 64) % 2 = E / 2 ^ p % 2 := by
  have e : 2 ^ p = 2 ^ (64 * (p / 64)) * 2 ^ (p % 64) := by rw [← Nat.pow_add]; congr 1; omega
  rw [e, ← Nat.div_div_eq_div_mul]
  generalize E / 2 ^ (64 * (p / 64)) = q
  have hs : p % 64 < 64 := Nat.mod_lt _ (by decide)
  generalize p % 64 = s at hs
  have e2 : (2 : Nat) ^ 64 = 2 ^ s * (2 * 2 ^ (63 - s)) := by rw [← Nat.pow_succ', ← Nat.pow_add]; congr 1; omega
  rw [e2, Nat.mod_mul_right_div_self, Nat.mod_mul_right_mod]
/-- A bit of a number of four words, as the loops fetch it. -/
theorem bit_word {E p : Nat} (hp : p < 256) {x9 x10 x11 x12 x13 : Int} (h9 : x9 = IntKind.i64.wrap (Int.tdiv (p : Int) 64)) (h10 : x10 = [lm E 0, lm E 1, lm E 2, lm E 3].getD (x9.toNat * 1) 0) (h11 : x11 = Int.tmod (p : Int) 64) (h12 : x12 = shrv .u64 x10 x11.toNat) (h13 : x13 = band .u64 x12 1) :
    (0 ≤ x9 ∧ x9 < 4) ∧ 0 ≤ x11 ∧ x13 = ((E / 2 ^ p % 2 : Nat) : Int) := by
  rw [Int.tdiv_eq_ediv_of_nonneg (by omega), wrap64 (by omega) (by omega)] at h9
  rw [Int.tmod_eq_emod_of_nonneg (by omega)] at h11
  have e9 : x9.toNat = p / 64 := by omega
  have e11 : x11.toNat = p % 64 := by omega
  rw [e9, Nat.mul_one, lm_getD E _ (by omega), lm_nat] at h10
  rw [e11, h10, shr64 (Int.natCast_nonneg _) (by omega)] at h12
  have hlt : E / 2 ^ (64 * (p / 64)) % 2 ^ 64 / 2 ^ (p % 64) < 2 ^ 64 := Nat.lt_of_le_of_lt (Nat.div_le_self _ _) (Nat.mod_lt _ (Nat.pow_pos (by omega)))
  have e12 : x12 = ((E / 2 ^ (64 * (p / 64)) % 2 ^ 64 / 2 ^ (p % 64) : Nat) : Int) := by rw [h12, Int.natCast_ediv, Int.natCast_pow]; rfl
  refine ⟨by omega, by omega, ?_⟩
  rw [h13, e12, band_nat _ hlt (n := 1) (by omega) (by decide), Nat.pow_one, word_bit]
def qm2 : Nat := 21888242871839275222246405745257275088696311157297823662689037894645226208581
def IeQ (X : Nat) (i : IeI) : Prop := i.n ≤ 253 ∧ El i.z0 i.z1 i.z2 i.z3 (mont (X ^ (qm2 / 2 ^ i.n)))
theorem ie_walk {X : Nat} {z0 z1 z2 z3 a0 a1 a2 a3 : Int} {K : SV → Mem → Prop} (hx : El a0 a1 a2 a3 (mont X)) (hK : ∀ y0 y1 y2 y3, El y0 y1 y2 y3 (mont (X ^ qm2)) → ∀ g h, K (.ptr 1 (.lit 0)) (memL [(1, ⟨false, w4 y0 y1 y2 y3⟩), (513, g), (537, h)])) :
    execF cxIe (uIe (IeQ X)) Tryd.f59 64 [.ptr 1 (.lit 0), .agg [.int .u64 (.sym a0), .int .u64 (.sym a1), .int .u64 (.sym a2), .int .u64 (.sym a3)]] (memL [(1, ⟨false, w4 z0 z1 z2 z3⟩)]) K := by
  rw [vc_ie]
  have e253 : qm2 / 2 ^ 253 = 1 := by decide +kernel
  refine ⟨⟨⟨253, a0, a1, a2, a3⟩, ⟨Nat.le_refl _, ?_⟩, show (252 : Int) = ((253 : Nat) : Int) - 1 by decide, ⟨rfl, rfl, rfl, rfl⟩, rfl, rfl, rfl, rfl⟩, ?_⟩
  · show El a0 a1 a2 a3 (mont (X ^ (qm2 / 2 ^ 253)))
    rw [e253, Nat.pow_one]
    exact hx
  rintro ⟨n, y0, y1, y2, y3⟩ ⟨hn, hz⟩
  dsimp only at hn hz ⊢
  refine ⟨fun h => ?_, fun h => ?_⟩
  · simp only [decide_eq_true_eq] at h
    obtain ⟨p, rfl⟩ : ∃ p, n = p + 1 := ⟨n - 1, by omega⟩
    rw [show (((p + 1 : Nat) : Int) - 1) = (p : Int) by omega]
    refine ⟨_, _, ⟨hz.ws, hz⟩, ?_⟩
    intro r4 hr4 y05 y16 y27 y38 hy
    rw [mont_mul, ← Nat.pow_add] at hr4
    have eL : [(4332616871279656261 : Int), 10917124144477883021, 13281191951274694749, 3486998266802970665] = [lm qm2 0, lm qm2 1, lm qm2 2, lm qm2 3] := by decide +kernel
    intro x9 h9
    have bw := fun x10 x11 x12 x13 => bit_word (E := qm2) (p := p) (by omega) (x10 := x10) (x11 := x11) (x12 := x12) (x13 := x13) h9
    have b0 := bw _ _ _ _ rfl rfl rfl rfl
    refine ⟨b0.1, by omega, ?_⟩
    intro x10 h10 x11 h11
    rw [eL] at h10
    refine ⟨(bw x10 x11 _ _ h10 h11 rfl rfl).2.1, ?_⟩
    intro x12 h12 x13 h13
    obtain ⟨_, _, e13⟩ := bw x10 x11 x12 x13 h10 h11 h12 h13
    have eh : qm2 / 2 ^ p = 2 * (qm2 / 2 ^ (p + 1)) + qm2 / 2 ^ p % 2 := by
      rw [Nat.pow_succ, ← Nat.div_div_eq_div_mul]
      omega
    refine ⟨fun hb => ⟨_, _, ⟨hy.ws, hx⟩, ?_⟩, fun hb => ?_⟩
    · have hb : x13 = 1 := by simpa using hb
      intro r16 hr16 w0 w1 w2 w3 hw x21 h21
      rw [wrap64 (by omega) (by omega)] at h21
      rw [hr4, mont_mul] at hr16
      refine ⟨⟨p, w0, w1, w2, w3⟩, ⟨by simp only; omega, ?_⟩, ⟨by simp only; omega, ⟨rfl, rfl, rfl, rfl⟩, rfl, rfl, rfl, rfl⟩, by simp only; omega⟩
      show El w0 w1 w2 w3 (mont (X ^ (qm2 / 2 ^ p)))
      rw [hr16, ← Nat.pow_succ] at hw
      rw [eh, show qm2 / 2 ^ p % 2 = 1 by omega, show 2 * (qm2 / 2 ^ (p + 1)) + 1 = qm2 / 2 ^ (p + 1) + qm2 / 2 ^ (p + 1) + 1 by omega]
      exact hw
    · have hb : ¬ x13 = 1 := by simpa using hb
      intro x23 h23
      rw [wrap64 (by omega) (by omega)] at h23
      refine ⟨⟨p, y05, y16, y27, y38⟩, ⟨by simp only; omega, ?_⟩, ⟨by simp only; omega, ⟨rfl, rfl, rfl, rfl⟩, rfl, rfl, rfl, rfl⟩, by simp only; omega⟩
      show El y05 y16 y27 y38 (mont (X ^ (qm2 / 2 ^ p)))
      rw [hr4] at hy
      rw [eh, show qm2 / 2 ^ p % 2 = 0 by omega, show 2 * (qm2 / 2 ^ (p + 1)) + 0 = qm2 / 2 ^ (p + 1) + qm2 / 2 ^ (p + 1) by omega]
      exact hy
  · simp only [decide_eq_false_iff_not] at h
    have hn0 : n = 0 := by omega
    subst hn0
    rw [Nat.pow_zero, Nat.div_one] at hz
    exact hK _ _ _ _ hz _ _
/-- The words of the power. -/
def IeR (X : Nat) (y0 y1 y2 y3 : Int) : Prop := El y0 y1 y2 y3 (mont (X ^ qm2))
def gIe : G0 := fun args l K =>
  match args, l with
  | [.ptr 1 (.lit 0), .agg [.int .u64 (.sym a0), .int .u64 (.sym a1), .int .u64 (.sym a2), .int .u64 (.sym a3)]], [(1, ⟨false, z⟩)] => c4 z fun _ _ _ _ => ∃ X, El a0 a1 a2 a3 (mont X) ∧ ∀ y0 y1 y2 y3, IeR X y0 y1 y2 y3 → K (.ptr 1 (.lit 0)) (memL [(1, ⟨false, w4 y0 y1 y2 y3⟩)])
  | _, _ => False
theorem ie_good : Good gIe := by
  constructor
  · intro args l K K' hk h
    unfold gIe at h ⊢
    split at h
    · exact c4_mono (fun _ _ _ _ h => h.elim fun X h => ⟨X, h.1, fun y0 y1 y2 y3 hy => hk _ _ (h.2 y0 y1 y2 y3 hy)⟩) h
    · exact h.elim
  · intro args l K h
    unfold gIe at h
    split at h
    · obtain ⟨_, _, _, _, _, h⟩ := c4_ex h
      obtain ⟨X, _, h⟩ := h
      exact ⟨_, _, h _ _ _ _ (show IeR X _ _ _ _ from El.of (mont_lt _))⟩
    · exact h.elim
theorem ie_ok (args : List SV) (l : List (Nat × Reg)) (K : SV → Mem → Prop) (hup : KUp K) (h : gIe args l K) : ∃ U, execF cxIe U Tryd.f59 64 args (memL l) K := by
  unfold gIe at h
  split at h
  · rename_i a0 a1 a2 a3 zz
    obtain ⟨z0, z1, z2, z3, rfl, q0⟩ := c4_ex h
    obtain ⟨X, hx, hK⟩ := q0
    exact ⟨_, ie_walk hx fun y0 y1 y2 y3 hy g h => hup.le (memL_sub [1, 513, 537] rfl (by decide) (by
        intro x hx
        simp only [List.mem_cons, List.not_mem_nil, or_false] at hx ⊢
        simp [hx])) (hK y0 y1 y2 y3 hy)⟩
  · exact h.elim
def kIe : Ef Tryd.prog := mkE mixed 59 Tryd.func59 (by decide) (by kernel_rfl) [] [.ptr 4 false, .num] gIe ie_good ie_ok
end Go.Sx

/- Inverse: its condition, in parts. -/
namespace Go.Sx
open Go Go.Proofs Go.Num
set_option maxRecDepth 100000
def cxIv : Cx Tryd.prog := { rds := [cBl, cIz, cIo, cApx, cUd, cSub], efs := [kLc, kNl, kLn, kMulA, kSet, kIe], eqs := [] }
def Q4 (a b c d : Int) : Prop := a = a ∧ b = b ∧ c = c ∧ d = d
def E4 (a b c d a' b' c' d' : Int) : Prop := a = a' ∧ b = b' ∧ c = c' ∧ d = d'
def W4 (a b c d : Int) : Prop := Wd a ∧ Wd b ∧ Wd c ∧ Wd d
def IvLeaf (S : IvI → Prop) (i0 : IvI) (R : Prop) (p0 p1 p2 p3 n w0 w1 w2 w3 x0 x1 x2 x3 u0 u1 u2 u3 v0 v1 v2 v3 s0 s1 s2 s3 : Int) : Prop :=
  ∃ i : IvI, S i ∧ (((p0 = i.p0 ∧ p1 = i.p1 ∧ p2 = i.p2 ∧ p3 = i.p3 ∧ n = i.n) ∧ R ∧ E4 w0 w1 w2 w3 i.a0 i.a1 i.a2 i.a3 ∧ E4 x0 x1 x2 x3 i.b0 i.b1 i.b2 i.b3 ∧ E4 u0 u1 u2 u3 i.u0 i.u1 i.u2 i.u3 ∧ E4 v0 v1 v2 v3 i.v0 i.v1 i.v2 i.v3 ∧ E4 s0 s1 s2 s3 i.s0 i.s1 i.s2 i.s3) ∧ i.m < i0.m)
def IvTail (S : IvI → Prop) (i : IvI) (R : Prop) (y0 y1 y2 y3 c0 g0 f1 c1 w0 w1 w2 w3 x0 x1 x2 x3 : Int) : Prop :=
  ∀ t, t = band .u64 i.n 1 →
    ((t == 1) = true → ∀ h, h = IntKind.i64.wrap (c0 * i.p0) → ∀ h', h' = IntKind.i64.wrap (g0 * i.p1) → ∀ a, a = IntKind.i64.wrap (h + h') → ∀ h, h = IntKind.i64.wrap (c0 * i.p2) → ∀ h', h' = IntKind.i64.wrap (g0 * i.p3) → ∀ b, b = IntKind.i64.wrap (h + h') →
      ∀ h, h = IntKind.i64.wrap (f1 * i.p0) → ∀ h', h' = IntKind.i64.wrap (c1 * i.p1) → ∀ c, c = IntKind.i64.wrap (h + h') → ∀ h, h = IntKind.i64.wrap (f1 * i.p2) → ∀ h', h' = IntKind.i64.wrap (c1 * i.p3) → ∀ d, d = IntKind.i64.wrap (h + h') →
      ∀ q0, q0 = i.u0 → ∀ q1, q1 = i.u1 → ∀ q2, q2 = i.u2 → ∀ q3, q3 = i.u3 → ((W4 i.u0 i.u1 i.u2 i.u3 ∧ W4 i.v0 i.v1 i.v2 i.v3) ∧ I64 a ∧ I64 b) ∧ ∀ u0 u1 u2 u3, W4 u0 u1 u2 u3 → ((W4 q0 q1 q2 q3 ∧ W4 i.v0 i.v1 i.v2 i.v3) ∧ I64 c ∧ I64 d) ∧ ∀ v0 v1 v2 v3, W4 v0 v1 v2 v3 →
      ∀ n, n = IntKind.u64.wrap (i.n + 1) → IvLeaf S i R i.p0 i.p1 i.p2 i.p3 n w0 w1 w2 w3 x0 x1 x2 x3 u0 u1 u2 u3 v0 v1 v2 v3 q0 q1 q2 q3) ∧
    ((t == 1) = false → ∀ n, n = IntKind.u64.wrap (i.n + 1) → IvLeaf S i R c0 f1 g0 c1 n w0 w1 w2 w3 x0 x1 x2 x3 i.u0 i.u1 i.u2 i.u3 i.v0 i.v1 i.v2 i.v3 y0 y1 y2 y3)
def CombF (x0 x1 x2 x3 b0 b1 b2 b3 : Int) (p : Int) (K : Int → Int → Nat → Prop) : Prop :=
  ∀ f, f = udF p → ∀ g, g = udG p → ((W4 x0 x1 x2 x3 ∧ W4 b0 b1 b2 b3) ∧ I64 f ∧ I64 g) ∧ ∀ r, r = m5 (V4 x0 x1 x2 x3 * f + V4 b0 b1 b2 b3 * g) → K f g r
/-- A part's sign and shift. -/
def SgSh (r : Nat) (f g : Int) (K : Int → Int → Int → Int → Int → Int → Prop) : Prop :=
  ∀ t, t = band .u64 (lm r 4) 9223372036854775808 → ((t != 0) = true → ∀ f', f' = IntKind.i64.wrap (0 - f) → ∀ g', g' = IntKind.i64.wrap (0 - g) → WdR r ∧ ∀ r', r' = NegW r → ShP r' 31 fun w0 w1 w2 w3 => K f' g' w0 w1 w2 w3) ∧
    ((t != 0) = false → ShP r 31 fun w0 w1 w2 w3 => K f g w0 w1 w2 w3)
def IvAfter (S : IvI → Prop) (i : IvI) (R : Prop) (p0 p1 : Int) : Prop :=
  ∀ y0, y0 = i.a0 → ∀ y1, y1 = i.a1 → ∀ y2, y2 = i.a2 → ∀ y3, y3 = i.a3 → CombF y0 y1 y2 y3 i.b0 i.b1 i.b2 i.b3 p0 fun f g r => SgSh r f g fun c0 g0 w0 w1 w2 w3 =>
    CombF y0 y1 y2 y3 i.b0 i.b1 i.b2 i.b3 p1 fun f g r => SgSh r f g fun f1 c1 x0 x1 x2 x3 => IvTail S i R y0 y1 y2 y3 c0 g0 f1 c1 w0 w1 w2 w3 x0 x1 x2 x3
def PvLeaf (T : Nat → PS → Prop) (i0 : IvI) (j : Nat) (R : Prop) (c0 c1 x y jn : Int) : Prop :=
  ∃ i : PvI, T i.j i.s ∧ (((i0.p0 = i0.p0 ∧ i0.p1 = i0.p1 ∧ i0.p2 = i0.p2 ∧ i0.p3 = i0.p3 ∧ i0.n = i0.n ∧ c0 = pk i.s.f0 i.s.g0 ∧ c1 = pk i.s.f1 i.s.g1 ∧ x = (i.s.x : Nat) ∧ y = (i.s.y : Nat) ∧ jn = (i.j : Nat)) ∧ R) ∧ 32 - i.j < 32 - j)
def PvEnd (T : Nat → PS → Prop) (i0 : IvI) (j : Nat) (R : Prop) (c0 cc x y : Int) : Prop :=
  ∀ c1, c1 = IntKind.i64.wrap (cc * 2) → ∀ jn, jn = IntKind.i64.wrap ((j : Int) + 1) → PvLeaf T i0 j R c0 c1 x y jn
def PvRound (T : Nat → PS → Prop) (i0 : IvI) (j : Nat) (R : Prop) (x y p0 p1 : Int) : Prop :=
  ∀ e, e = band .u64 x 1 → ((e == 0) = true → ∀ h, h = IntKind.u64.wrap (Int.tdiv x 2) → PvEnd T i0 j R p0 p1 h y) ∧
    ((e == 0) = false → (Wd x ∧ Wd y ∧ (0 : Int) ≤ 0 ∧ (0 : Int) ≤ 1) ∧ ∀ d, d = difLo x y 0 → ∀ b, b = difHi x y 0 →
      ((b == 1) = true → ∀ a, a = IntKind.u64.wrap (y - x) → ∀ h, h = IntKind.u64.wrap (Int.tdiv a 2) → ∀ c, c = IntKind.i64.wrap (p1 - p0) → PvEnd T i0 j R c p0 h x) ∧
      ((b == 1) = false → ∀ h, h = IntKind.u64.wrap (Int.tdiv d 2) → ∀ c, c = IntKind.i64.wrap (p0 - p1) → PvEnd T i0 j R c p1 h y))
def IvBody (S : IvI → Prop) (T : Int → Int → Nat → PS → Prop) (i : IvI) (R : Prop) : Prop :=
  W4 i.a0 i.a1 i.a2 i.a3 ∧ ∀ n0, n0 = ((bl (V4 i.a0 i.a1 i.a2 i.a3).toNat : Nat) : Int) → W4 i.b0 i.b1 i.b2 i.b3 ∧ ∀ n1, n1 = ((bl (V4 i.b0 i.b1 i.b2 i.b3).toNat : Nat) : Int) → ∀ n, n = (if n1 > n0 then n1 else n0) →
    (W4 i.a0 i.a1 i.a2 i.a3 ∧ (0 ≤ n ∧ n ≤ 256) ∧ (V4 i.a0 i.a1 i.a2 i.a3).toNat < 2 ^ n.toNat) ∧ ∀ xa, xa = ((apx 31 n.toNat (V4 i.a0 i.a1 i.a2 i.a3).toNat : Nat) : Int) →
    (W4 i.b0 i.b1 i.b2 i.b3 ∧ (0 ≤ n ∧ n ≤ 256) ∧ (V4 i.b0 i.b1 i.b2 i.b3).toNat < 2 ^ n.toNat) ∧ ∀ xb, xb = ((apx 31 n.toNat (V4 i.b0 i.b1 i.b2 i.b3).toNat : Nat) : Int) →
    (∃ k : PvI, T xa xb k.j k.s ∧ (i.p0 = i.p0 ∧ i.p1 = i.p1 ∧ i.p2 = i.p2 ∧ i.p3 = i.p3 ∧ i.n = i.n ∧ 1 = pk k.s.f0 k.s.g0 ∧ 4294967296 = pk k.s.f1 k.s.g1 ∧ xa = (k.s.x : Nat) ∧ xb = (k.s.y : Nat) ∧ 0 = ((k.j : Nat) : Int)) ∧
      R ∧ Q4 i.a0 i.a1 i.a2 i.a3 ∧ Q4 i.b0 i.b1 i.b2 i.b3 ∧ Q4 i.u0 i.u1 i.u2 i.u3 ∧ Q4 i.v0 i.v1 i.v2 i.v3 ∧ Q4 i.s0 i.s1 i.s2 i.s3) ∧
    ∀ k : PvI, T xa xb k.j k.s →
      (decide (((k.j : Nat) : Int) < 31) = true → PvRound (T xa xb) i k.j (R ∧ Q4 i.a0 i.a1 i.a2 i.a3 ∧ Q4 i.b0 i.b1 i.b2 i.b3 ∧ Q4 i.u0 i.u1 i.u2 i.u3 ∧ Q4 i.v0 i.v1 i.v2 i.v3 ∧ Q4 i.s0 i.s1 i.s2 i.s3) (k.s.x : Nat) (k.s.y : Nat) (pk k.s.f0 k.s.g0) (pk k.s.f1 k.s.g1)) ∧
      (decide (((k.j : Nat) : Int) < 31) = false → IvAfter S i R (pk k.s.f0 k.s.g0) (pk k.s.f1 k.s.g1))
end Go.Sx

/- Inverse: its condition. -/
namespace Go.Sx
open Go Go.Proofs Go.Num
set_option maxRecDepth 100000
/-- Behind the first loop. -/
def IvExit (W : WvI → Prop) (i : IvI) (R : Prop) (a0 a1 a2 a3 : Int) (K : SV → Mem → Prop) : Prop :=
  (∃ k : WvI, W k ∧ i.n = k.n ∧ R ∧ Q4 i.u0 i.u1 i.u2 i.u3 ∧ E4 i.v0 i.v1 i.v2 i.v3 k.v0 k.v1 k.v2 k.v3) ∧
  ∀ k : WvI, W k →
    (decide (k.n < 18) = true → ∃ x y, (Ws k.v0 k.v1 k.v2 k.v3 x ∧ El 4611686018427387904 0 0 0 y) ∧ ∀ r, r = mmul x y → ∀ y0 y1 y2 y3, El y0 y1 y2 y3 r → ∀ n, n = IntKind.u64.wrap (k.n + 2) →
      ∃ k' : WvI, W k' ∧ ((n = k'.n ∧ R ∧ Q4 i.u0 i.u1 i.u2 i.u3 ∧ E4 y0 y1 y2 y3 k'.v0 k'.v1 k'.v2 k'.v3) ∧ 18 - k'.n.toNat < 18 - k.n.toNat)) ∧
    (decide (k.n < 18) = false → ∃ x y, (Ws k.v0 k.v1 k.v2 k.v3 x ∧ El 11111708840330028223 3098618286181893933 756602578711705709 1041752015607019851 y) ∧ ∀ r, r = mmul x y → ∀ y0 y1 y2 y3, El y0 y1 y2 y3 r →
      ∃ x y, (Ws a0 a1 a2 a3 x ∧ El y0 y1 y2 y3 y) ∧ ∀ r, r = mmul x y → ∀ v0 v1 v2 v3, El v0 v1 v2 v3 r → W4 v0 v1 v2 v3 ∧
        ((!decide (V4 v0 v1 v2 v3 = one4)) = true → W4 a0 a1 a2 a3 ∧
          ((!decide (V4 a0 a1 a2 a3 = 0)) = true → ∀ x0, x0 = a0 → ∀ x1, x1 = a1 → ∀ x2, x2 = a2 → ∀ x3, x3 = a3 → ∃ X, El x0 x1 x2 x3 (mont X) ∧ ∀ w0 w1 w2 w3, IeR X w0 w1 w2 w3 →
            K (.ptr 1 (.lit 0)) (memL [(1, ⟨false, w4 w0 w1 w2 w3⟩), (545, ⟨false, .cells [.int .u64 (.lit 4611686018427387904), .int .u64 (.lit 0), .int .u64 (.lit 0), .int .u64 (.lit 0)]⟩), (593, ⟨false, w4 a0 a1 a2 a3⟩), (665, ⟨false, w4 v0 v1 v2 v3⟩),
              (809, ⟨false, .cells [.int .u64 (.lit 11111708840330028223), .int .u64 (.lit 3098618286181893933), .int .u64 (.lit 756602578711705709), .int .u64 (.lit 1041752015607019851)]⟩)])) ∧
          ((!decide (V4 a0 a1 a2 a3 = 0)) = false → K (.ptr 1 (.lit 0)) (memL [(1, ⟨false, w4 y0 y1 y2 y3⟩), (545, ⟨false, .cells [.int .u64 (.lit 4611686018427387904), .int .u64 (.lit 0), .int .u64 (.lit 0), .int .u64 (.lit 0)]⟩), (593, ⟨false, w4 a0 a1 a2 a3⟩), (665, ⟨false, w4 v0 v1 v2 v3⟩),
              (809, ⟨false, .cells [.int .u64 (.lit 11111708840330028223), .int .u64 (.lit 3098618286181893933), .int .u64 (.lit 756602578711705709), .int .u64 (.lit 1041752015607019851)]⟩)]))) ∧
        ((!decide (V4 v0 v1 v2 v3 = one4)) = false → K (.ptr 1 (.lit 0)) (memL [(1, ⟨false, w4 y0 y1 y2 y3⟩), (545, ⟨false, .cells [.int .u64 (.lit 4611686018427387904), .int .u64 (.lit 0), .int .u64 (.lit 0), .int .u64 (.lit 0)]⟩), (593, ⟨false, w4 a0 a1 a2 a3⟩), (665, ⟨false, w4 v0 v1 v2 v3⟩),
              (809, ⟨false, .cells [.int .u64 (.lit 11111708840330028223), .int .u64 (.lit 3098618286181893933), .int .u64 (.lit 756602578711705709), .int .u64 (.lit 1041752015607019851)]⟩)])))
theorem vc_iv (S : IvI → Prop) (T : Int → Int → Nat → PS → Prop) (W : WvI → Prop) (a0 a1 a2 a3 : Int) (K : SV → Mem → Prop) : (execF cxIv (uIv S T W) Tryd.f24 64 [.ptr 1 (.lit 0), .ptr 1 (.lit 0)] (memL [(1, ⟨false, w4 a0 a1 a2 a3⟩)]) K) =
  (∀ x0, x0 = a0 → ∀ x1, x1 = a1 → ∀ x2, x2 = a2 → ∀ x3, x3 = a3 →
    (∃ i : IvI, S i ∧ (0 = i.p0 ∧ 0 = i.p1 ∧ 0 = i.p2 ∧ 0 = i.p3 ∧ 0 = i.n) ∧ Q4 a0 a1 a2 a3 ∧ E4 x0 x1 x2 x3 i.a0 i.a1 i.a2 i.a3 ∧ E4 4332616871279656263 10917124144477883021 13281191951274694749 3486998266802970665 i.b0 i.b1 i.b2 i.b3 ∧
      E4 1 0 0 0 i.u0 i.u1 i.u2 i.u3 ∧ E4 0 0 0 0 i.v0 i.v1 i.v2 i.v3 ∧ E4 0 0 0 0 i.s0 i.s1 i.s2 i.s3) ∧
    ∀ i : IvI, S i → ∀ e, e = band .u64 i.n 1 →
      ((e == 1) = true → IvBody S T i (Q4 a0 a1 a2 a3)) ∧
      ((e == 1) = false → W4 i.a0 i.a1 i.a2 i.a3 ∧
        ((!decide (V4 i.a0 i.a1 i.a2 i.a3 = 0)) = true → IvBody S T i (Q4 a0 a1 a2 a3)) ∧
        ((!decide (V4 i.a0 i.a1 i.a2 i.a3 = 0)) = false → IvExit W i (Q4 a0 a1 a2 a3) a0 a1 a2 a3 K))) := by kernel_rfl
end Go.Sx

/- Inverse: the rounds and what is behind them. -/
namespace Go.Sx
open Go Go.Proofs Go.Num
set_option maxRecDepth 100000
def PvT (m : Nat) (x0 y0 : Int) (j : Nat) (s : PS) : Prop := j ≤ m ∧ s = prun j ⟨x0.toNat, y0.toNat, 1, 0, 0, 1⟩
theorem PvEnd.of {m j : Nat} {xa xb : Int} {s : PS} {i0 : IvI} {R : Prop} {c0 cc x y : Int} (hT : PvT m xa xb j s) (hj : j < m) (hm : m ≤ 31) (h0 : c0 = pk (pstep s).f0 (pstep s).g0) (h1 : IntKind.i64.wrap (cc * 2) = pk (pstep s).f1 (pstep s).g1)
    (h3 : x = ((pstep s).x : Nat)) (h4 : y = ((pstep s).y : Nat)) (hR : R) : PvEnd (PvT m xa xb) i0 j R c0 cc x y := by
  intro c1 hc jn hjn
  rw [wrap64 (by omega) (by omega)] at hjn
  obtain ⟨_, hs⟩ := hT
  refine ⟨⟨j + 1, pstep s⟩, ⟨hj, ?_⟩, ⟨⟨rfl, rfl, rfl, rfl, rfl, h0, by rw [hc, h1], h3, h4, by simp only; omega⟩, hR⟩, by simp only; omega⟩
  simp only
  rw [prun, ← hs]
theorem PvRound.of {m j : Nat} {xa xb : Int} {s : PS} {i0 : IvI} {R : Prop} (hT : PvT m xa xb j s) (hj : j < m) (hm : m ≤ 31) (hx : s.x < 2 ^ 64) (hy : s.y < 2 ^ 64) (hR : R) :
    PvRound (PvT m xa xb) i0 j R (s.x : Nat) (s.y : Nat) (pk s.f0 s.g0) (pk s.f1 s.g1) := by
  intro e he
  rw [band_nat s.x hx (n := 1) (by omega) (by decide)] at he
  simp only [beq_iff_eq, beq_eq_false_iff_ne, ne_eq]
  refine ⟨fun h0 h hh => ?_, fun h0 => ⟨⟨wd_nat hx, wd_nat hy, Int.le_refl _, by decide⟩, fun d hd b hb => ⟨fun h1 => ?_, fun h1 => ?_⟩⟩⟩
  · have hx2 : s.x % 2 = 0 := by omega
    have ep : pstep s = ⟨s.x / 2, s.y, s.f0, s.g0, 2 * s.f1, 2 * s.g1⟩ := by unfold pstep; rw [if_pos hx2]
    exact PvEnd.of hT hj hm (by rw [ep]) (by rw [ep, pk_dbl]) (by rw [ep]; exact half_nat hx hh) (by rw [ep]) hR
  · have hx2 : s.x % 2 = 1 := by omega
    have hlt : s.x < s.y := by
      unfold difHi at hb
      split at hb <;> omega
    have ep : pstep s = ⟨(s.y - s.x) / 2, s.x, s.f1 - s.f0, s.g1 - s.g0, 2 * s.f0, 2 * s.g0⟩ := by unfold pstep; rw [if_neg (by omega), if_pos hlt]
    intro a ha h hh c hc
    have ea : a = ((s.y - s.x : Nat) : Int) := by rw [ha, wu64]; omega
    rw [ea] at hh
    exact PvEnd.of hT hj hm (by rw [ep, hc, pk_dif]) (by rw [ep, pk_dbl]) (by rw [ep]; exact half_nat (by omega) hh) (by rw [ep]) hR
  · have hx2 : s.x % 2 = 1 := by omega
    have hge : ¬ s.x < s.y := by
      unfold difHi at hb
      split at hb <;> omega
    have ep : pstep s = ⟨(s.x - s.y) / 2, s.y, s.f0 - s.f1, s.g0 - s.g1, 2 * s.f1, 2 * s.g1⟩ := by unfold pstep; rw [if_neg (by omega), if_neg hge]
    intro h hh c hc
    have ed : d = ((s.x - s.y : Nat) : Int) := by rw [hd]; unfold difLo; omega
    rw [ed] at hh
    exact PvEnd.of hT hj hm (by rw [ep, hc, pk_dif]) (by rw [ep, pk_dbl]) (by rw [ep]; exact half_nat (by omega) hh) (by rw [ep]) hR
theorem wrap_i64r (y : Int) : I64 (IntKind.i64.wrap y) := by
  rw [wrap64_eq]
  unfold I64
  split <;> omega
theorem wd_wrap (y : Int) : Wd (IntKind.u64.wrap y) := by rw [wu64]; unfold Wd; omega
/-- What stays in the loop of Inverse, of a number other than 0. -/
def IvQ (i : IvI) : Prop :=
  ∃ a b, Ws i.a0 i.a1 i.a2 i.a3 a ∧ Ws i.b0 i.b1 i.b2 i.b3 b ∧ (a ≤ qN ∧ b ≤ qN ∧ b % 2 = 1 ∧ Nat.Coprime b a) ∧ W4 i.u0 i.u1 i.u2 i.u3 ∧ W4 i.v0 i.v1 i.v2 i.v3 ∧ Wd i.n
theorem CombF.of {x0 x1 x2 x3 b0 b1 b2 b3 f g : Int} {a b : Nat} {K : Int → Int → Nat → Prop} (hx : Ws x0 x1 x2 x3 a) (hb : Ws b0 b1 b2 b3 b) (hf : -2147483648 < f ∧ f ≤ 2147483648) (hg : -2147483648 < g ∧ g ≤ 2147483648) (h : ∀ r, r = m5 (f * a + g * b) → K f g r) : CombF x0 x1 x2 x3 b0 b1 b2 b3 (pk f g) K := by
  obtain ⟨ef, eg⟩ := ud_of hf.1 hf.2 hg.1 hg.2
  intro f' hf' g' hg'
  have e1 : f' = f := hf'.trans ef
  have e2 : g' = g := hg'.trans eg
  rw [e1, e2]
  refine ⟨⟨⟨hx.wd, hb.wd⟩, by unfold I64; omega, by unfold I64; omega⟩, fun r hr => h r ?_⟩
  rw [hr, hx.val, hb.val, Int.mul_comm f, Int.mul_comm g]
theorem SgSh.of {r : Nat} {f g A z : Int} {K : Int → Int → Int → Int → Int → Int → Prop} (hz : ((2 ^ 31 : Nat) : Int) * A = z) (hA : A.natAbs ≤ qN) (hr : r = m5 z) (h : ∀ f' g', K f' g' (lm A.natAbs 0) (lm A.natAbs 1) (lm A.natAbs 2) (lm A.natAbs 3)) : SgSh r f g K := by
  intro t ht
  obtain ⟨q1, q2, q3, q4⟩ := sign_of hz (by decide) (by unfold qN at hA; omega) hr ht
  simp only [bne_iff_ne, bne_eq_false_iff_eq, ne_eq]
  refine ⟨fun h' f' _ g' _ => ⟨wdr r, fun r' hr' => ShP.of (by decide) (by decide) ?_⟩, fun h' => ShP.of (by decide) (by decide) ?_⟩
  · rw [hr', q2 (q1.1 h')]
    exact h _ _
  · have hAn : ¬ A < 0 := fun c => (q1.2 c) h'
    rw [q3 (by omega)]
    exact h _ _
theorem IvAfter.of {a b n : Nat} {i : IvI} {R : Prop} {s : PS} {A B : Int} (hR : R) (ha : Ws i.a0 i.a1 i.a2 i.a3 a) (hb : Ws i.b0 i.b1 i.b2 i.b3 b) (haq : a ≤ qN) (hbq : b ≤ qN) (hu : W4 i.u0 i.u1 i.u2 i.u3) (hv : W4 i.v0 i.v1 i.v2 i.v3) (hn : Wd i.n)
    (hmeas : A.natAbs + B.natAbs < a + b ∨ (A.natAbs + B.natAbs ≤ a + b ∧ i.n % 2 = 1)) (hL : Lin (2 ^ 31) (apx 31 n a) (apx 31 n b) s) (hO : Num.Out 31 31 n a b s A B) :
    IvAfter IvQ i R (pk s.f0 s.g0) (pk s.f1 s.g1) := by
  obtain ⟨⟨f0b, g0b⟩, f1b, g1b⟩ := fac_bd (f := 0) (g := 0) hL (by decide)
  obtain ⟨hAle, hBle⟩ := hO.le qN haq hbq
  have wa : Ws (lm A.natAbs 0) (lm A.natAbs 1) (lm A.natAbs 2) (lm A.natAbs 3) A.natAbs := ws_lm (by unfold qN at hAle; omega)
  have wb : Ws (lm B.natAbs 0) (lm B.natAbs 1) (lm B.natAbs 2) (lm B.natAbs 3) B.natAbs := ws_lm (by unfold qN at hBle; omega)
  have leaf : ∀ p0 p1 p2 p3 n' u0 u1 u2 u3 v0 v1 v2 v3 s0 s1 s2 s3 : Int, n' = IntKind.u64.wrap (i.n + 1) → W4 u0 u1 u2 u3 → W4 v0 v1 v2 v3 →
      IvLeaf IvQ i R p0 p1 p2 p3 n' (lm A.natAbs 0) (lm A.natAbs 1) (lm A.natAbs 2) (lm A.natAbs 3) (lm B.natAbs 0) (lm B.natAbs 1) (lm B.natAbs 2) (lm B.natAbs 3) u0 u1 u2 u3 v0 v1 v2 v3 s0 s1 s2 s3 := by
    intro p0 p1 p2 p3 n' u0 u1 u2 u3 v0 v1 v2 v3 s0 s1 s2 s3 hn' hu' hv'
    refine ⟨⟨lm A.natAbs 0, lm A.natAbs 1, lm A.natAbs 2, lm A.natAbs 3, lm B.natAbs 0, lm B.natAbs 1, lm B.natAbs 2, lm B.natAbs 3, u0, u1, u2, u3, v0, v1, v2, v3, s0, s1, s2, s3, p0, p1, p2, p3, n'⟩,
      ⟨A.natAbs, B.natAbs, wa, wb, ⟨hAle, hBle, hO.odd, hO.cop⟩, hu', hv', by rw [hn']; exact wd_wrap _⟩,
      ⟨⟨rfl, rfl, rfl, rfl, rfl⟩, hR, ⟨rfl, rfl, rfl, rfl⟩, ⟨rfl, rfl, rfl, rfl⟩, ⟨rfl, rfl, rfl, rfl⟩, ⟨rfl, rfl, rfl, rfl⟩, rfl, rfl, rfl, rfl⟩, ?_⟩
    unfold IvI.m
    simp only
    rw [wa.val, wb.val, ha.val, hb.val, hn', wu64]
    simp only [Int.toNat_natCast]
    unfold Wd at hn
    omega
  rintro _ rfl _ rfl _ rfl _ rfl
  refine CombF.of ha hb f0b g0b fun r hr => SgSh.of hO.ra hAle hr fun c0 g0 => ?_
  refine CombF.of ha hb f1b g1b fun r hr => SgSh.of hO.rb hBle hr fun f1 c1 => ?_
  intro t ht
  refine ⟨fun _ => ?_, fun _ n' hn' => leaf _ _ _ _ n' _ _ _ _ _ _ _ _ _ _ _ _ hn' hu hv⟩
  intro h0 e0 h1 e1 a' ea h2 e2' h3 e3 b' eb h4 e4' h5 e5 c' ec h6 e6 h7 e7 d' ed q0 eq0 q1 eq1 q2 eq2 q3 eq3
  rw [eq0, eq1, eq2, eq3]
  refine ⟨⟨⟨hu, hv⟩, by rw [ea]; exact wrap_i64r _, by rw [eb]; exact wrap_i64r _⟩, fun u0 u1 u2 u3 hu' => ⟨⟨⟨hu, hv⟩, by rw [ec]; exact wrap_i64r _, by rw [ed]; exact wrap_i64r _⟩, fun v0 v1 v2 v3 hv' n' hn' => leaf _ _ _ _ n' _ _ _ _ _ _ _ _ _ _ _ _ hn' hu' hv'⟩⟩
end Go.Sx

/- The contract of Inverse. -/
namespace Go.Sx
open Go Go.Proofs Go.Num
set_option maxRecDepth 100000
theorem IvBody.of {i : IvI} {R : Prop} (hR : R) (hQ : IvQ i) (hc : i.n % 2 = 1 ∨ V4 i.a0 i.a1 i.a2 i.a3 ≠ 0) : IvBody IvQ (PvT 31) i R := by
  obtain ⟨a, b, ha, hb, ⟨haq, hbq, hbo, hcop⟩, hu, hv, hn⟩ := hQ
  have hva := ha.val
  have hvb := hb.val
  unfold IvBody
  rw [hva] at hc
  rw [hva, hvb]
  simp only [Int.toNat_natCast]
  refine ⟨ha.wd, fun n0 hn0 => ⟨hb.wd, fun n1 hn1 n hn' => ?_⟩⟩
  obtain ⟨nb, hna, hnb, htop⟩ := max_bl haq hbq hn0 hn1 hn'
  refine ⟨⟨ha.wd, nb, hna⟩, fun xa hxa => ⟨⟨hb.wd, nb, hnb⟩, fun xb hxb => ?_⟩⟩
  have exa : xa.toNat = apx 31 n.toNat a := by rw [hxa, Int.toNat_natCast]
  have exb : xb.toNat = apx 31 n.toNat b := by rw [hxb, Int.toNat_natCast]
  have hRR : R ∧ Q4 i.a0 i.a1 i.a2 i.a3 ∧ Q4 i.b0 i.b1 i.b2 i.b3 ∧ Q4 i.u0 i.u1 i.u2 i.u3 ∧ Q4 i.v0 i.v1 i.v2 i.v3 ∧ Q4 i.s0 i.s1 i.s2 i.s3 :=
    ⟨hR, ⟨rfl, rfl, rfl, rfl⟩, ⟨rfl, rfl, rfl, rfl⟩, ⟨rfl, rfl, rfl, rfl⟩, ⟨rfl, rfl, rfl, rfl⟩, rfl, rfl, rfl, rfl⟩
  refine ⟨⟨⟨0, ⟨xa.toNat, xb.toNat, 1, 0, 0, 1⟩⟩, ⟨Nat.zero_le _, rfl⟩, ⟨trivial, trivial, trivial, trivial, trivial, show 1 = pk 1 0 by decide, show 4294967296 = pk 0 1 by decide, by rw [hxa]; rfl, by rw [hxb]; rfl, rfl⟩, hRR⟩, ?_⟩
  rintro ⟨j, s⟩ hT
  have hT' := hT
  obtain ⟨hj, hs⟩ := hT'
  dsimp only at hj hs ⊢
  rw [exa, exb] at hs
  refine ⟨fun h => ?_, fun h => ?_⟩
  · simp only [decide_eq_true_eq] at h
    have hlt := prun_lt (f := 1) (g := 0) (f' := 0) (g' := 1) (apx_lt (lo := 31) (by omega) hna) (apx_lt (lo := 31) (by omega) hnb) j
    rw [← hs] at hlt
    exact PvRound.of hT (by omega) (by decide) hlt.1 hlt.2 hRR
  · simp only [decide_eq_false_iff_not] at h
    have hj31 : j = 31 := by omega
    subst hj31
    obtain ⟨hL, A, B, hO⟩ := outer (lo := 31) (m := 31) (n := n.toNat) (a := a) (b := b) (by decide) (by decide) (by decide) htop hbo hcop
    rw [← hs] at hL hO
    refine IvAfter.of hR ha hb haq hbq hu hv hn ?_ hL hO
    by_cases ha0 : 0 < a
    · exact .inl (hO.dec ha0)
    · right
      have a0 : a = 0 := by omega
      subst a0
      have hn2 : i.n % 2 = 1 := by
        rcases hc with h | h
        · exact h
        · exact absurd rfl h
      obtain ⟨hb1, _⟩ := K_zero hcop
      subst hb1
      obtain ⟨_, hB1⟩ := hO.le 1 (by omega) (by omega)
      have en : n.toNat ≤ 64 := by
        have h0 : bl 0 = 0 := by decide
        have h1 : bl 1 = 1 := by decide
        rw [h0] at hn0
        rw [h1] at hn1
        split at hn' <;> omega
      have e0 : apx 31 n.toNat 0 = 0 := by unfold apx; rw [if_pos en]
      have e1 : apx 31 n.toNat 1 = 1 := by unfold apx; rw [if_pos en]
      have hA : A = 0 := by
        have hra := hO.ra
        have hsum := hL.sum
        have hod := hL.odd
        rw [e0, e1] at hsum
        rcases hsum with ⟨h1, h2, _, _⟩ | h
        · rw [h1, h2] at hra
          have : ((2 ^ 31 : Nat) : Int) * A = 0 := by rw [hra]; simp
          rcases Int.mul_eq_zero.1 this with h | h
          · exact absurd h (by decide)
          · exact h
        · omega
      refine ⟨?_, hn2⟩
      rw [hA]
      show 0 + B.natAbs ≤ 0 + 1
      omega
/-- The words of an inverse. -/
def IvR (X : Nat) (y0 y1 y2 y3 : Int) : Prop := ∃ Y, El y0 y1 y2 y3 (mont Y) ∧ Y < qN ∧ (X % qN = 0 → Y = 0) ∧ (X % qN ≠ 0 → X * Y % qN = 1)
theorem mont_of {r : Nat} (h : r < qN) : mont (mmul r 1) = r := by
  unfold mont mmul
  rw [Nat.mul_one]
  have e : r * rInv % qN * r2N * rInv % qN = r * (r2N * rInv * rInv) % qN := by
    have e2 : r * rInv * (r2N * rInv) = r * (r2N * rInv * rInv) := by simp only [Nat.mul_assoc, Nat.mul_left_comm, Nat.mul_comm]
    rw [Nat.mul_assoc (r * rInv % qN), Nat.mod_mul_mod, e2]
  rw [e, Nat.mul_mod, one_eq, Nat.mul_one, Nat.mod_mod, Nat.mod_eq_of_lt h]
theorem one4_eq : one4 = ((mont 1 : Nat) : Int) := by decide +kernel
theorem mont_inj {x y : Nat} (h : mont x = mont y) : x % qN = y % qN := by rw [← mont_back x, ← mont_back y, h]
def WvQ (x : Nat) (k : WvI) : Prop := W4 k.v0 k.v1 k.v2 k.v3 ∧ Wd k.n ∧ (x = 0 → Ws k.v0 k.v1 k.v2 k.v3 0)
theorem mmul_zero (y : Nat) : mmul 0 y = 0 := by unfold mmul; simp
theorem IvExit.of {X : Nat} {i : IvI} {R : Prop} {a0 a1 a2 a3 : Int} {K : SV → Mem → Prop} (hR : R) (hx : El a0 a1 a2 a3 (mont X)) (hv : W4 i.v0 i.v1 i.v2 i.v3) (hn : Wd i.n) (hz : mont X = 0 → Ws i.v0 i.v1 i.v2 i.v3 0)
    (hK : ∀ y0 y1 y2 y3, IvR X y0 y1 y2 y3 → ∀ g1 g2 g3 g4, K (.ptr 1 (.lit 0)) (memL [(1, ⟨false, w4 y0 y1 y2 y3⟩), (545, g1), (593, g2), (665, g3), (809, g4)])) : IvExit (WvQ (mont X)) i R a0 a1 a2 a3 K := by
  have hp : El 4611686018427387904 0 0 0 4611686018427387904 := ⟨by decide, by decide, by decide, by decide, by decide⟩
  refine ⟨⟨⟨i.v0, i.v1, i.v2, i.v3, i.n⟩, ⟨hv, hn, hz⟩, rfl, hR, ⟨rfl, rfl, rfl, rfl⟩, rfl, rfl, rfl, rfl⟩, ?_⟩
  rintro ⟨v0, v1, v2, v3, n⟩ ⟨hv, hn, hz⟩
  dsimp only at hv hn hz ⊢
  have wv := ws_of hv.1 hv.2.1 hv.2.2.1 hv.2.2.2
  refine ⟨fun h => ⟨_, _, ⟨wv, hp⟩, fun r hr y0 y1 y2 y3 hy n' hn' => ?_⟩, fun h => ?_⟩
  · simp only [decide_eq_true_eq] at h
    unfold Wd at hn
    rw [wu64] at hn'
    refine ⟨⟨y0, y1, y2, y3, n'⟩, ⟨hy.wd, by simp only; unfold Wd; omega, fun h0 => ?_⟩, ⟨rfl, hR, ⟨rfl, rfl, rfl, rfl⟩, rfl, rfl, rfl, rfl⟩, by simp only; omega⟩
    have hv0 := (hz h0).val
    rw [hv0] at hr
    have e : r = 0 := by rw [hr]; exact mmul_zero _
    rw [e] at hy
    exact hy.ws
  · have hcw := El.of_words (a := 11111708840330028223) (b := 3098618286181893933) (c := 756602578711705709) (d := 1041752015607019851) (by unfold Wd; omega) (by unfold Wd; omega) (by unfold Wd; omega) (by unfold Wd; omega) (by unfold V4; omega)
    refine ⟨_, _, ⟨wv, hcw⟩, fun r hr y0 y1 y2 y3 hy => ⟨_, _, ⟨hx.ws, hy⟩, fun r2 hr2 u0 u1 u2 u3 hu => ⟨hu.wd, fun hne => ⟨hx.wd, fun hx0 => ?_, fun hx0 => ?_⟩, fun heq => ?_⟩⟩⟩
    · rintro _ rfl _ rfl _ rfl _ rfl
      refine ⟨X, hx, fun w0 w1 w2 w3 hw => hK _ _ _ _ ⟨X ^ qm2 % qN, by rw [mont_mod]; exact hw, Nat.mod_lt _ (by decide), ?_, ?_⟩ _ _ _ _⟩
      · intro h0
        exfalso
        rw [hx.val] at hx0
        have : mont X = 0 := by rw [← mont_mod, h0, mont_zero]
        rw [this] at hx0
        simp at hx0
      · intro h0
        have hf := fermat q_pri h0
        rw [Nat.mul_mod_mod, Nat.mul_comm, ← Nat.pow_succ]
        exact hf
    · rw [hx.val] at hx0
      have hX0 : mont X = 0 := by
        simp only [Bool.not_eq_false', decide_eq_true_eq] at hx0
        omega
      have hXm : X % qN = 0 := by
        have := mont_inj (hX0.trans mont_zero.symm)
        rw [this]
        rfl
      have hv0 := (hz hX0).val
      rw [hv0] at hr
      have e : r = 0 := by rw [hr]; exact mmul_zero _
      rw [e] at hy
      exact hK _ _ _ _ ⟨0, by rw [mont_zero]; exact hy, by decide, fun _ => rfl, fun h => absurd hXm h⟩ _ _ _ _
    · have hv1 : V4 u0 u1 u2 u3 = one4 := by simpa using heq
      rw [hu.val, one4_eq] at hv1
      have hr1 : r2 = mont 1 := by omega
      rw [hr2, ← mont_of hy.lt, mont_mul] at hr1
      have hxy := mont_inj hr1
      have h11 : 1 % qN = 1 := by decide
      rw [h11] at hxy
      refine hK _ _ _ _ ⟨mmul r 1, by rw [mont_of hy.lt]; exact hy, mmul_lt _ _, fun h0 => ?_, fun _ => hxy⟩ _ _ _ _
      exfalso
      rw [Nat.mul_mod, h0, Nat.zero_mul, Nat.zero_mod] at hxy
      omega
end Go.Sx

/- The contract of Inverse where z is x. -/
namespace Go.Sx
open Go Go.Proofs Go.Num
set_option maxRecDepth 100000
theorem w4_0 : W4 0 0 0 0 := ⟨wd0, wd0, wd0, wd0⟩
theorem band1 {n e : Int} (hn : Wd n) (he : e = band .u64 n 1) : e = n % 2 := by
  unfold Wd at hn
  obtain ⟨m, rfl⟩ := Int.eq_ofNat_of_zero_le hn.1
  rw [band_nat m (by omega) (n := 1) (by omega) (by decide)] at he
  omega
theorem iv_walk {X : Nat} {a0 a1 a2 a3 : Int} {K : SV → Mem → Prop} (hx : El a0 a1 a2 a3 (mont X)) (h0 : mont X ≠ 0)
    (hK : ∀ y0 y1 y2 y3, IvR X y0 y1 y2 y3 → ∀ g1 g2 g3 g4, K (.ptr 1 (.lit 0)) (memL [(1, ⟨false, w4 y0 y1 y2 y3⟩), (545, g1), (593, g2), (665, g3), (809, g4)])) :
    execF cxIv (uIv IvQ (PvT 31) (WvQ (mont X))) Tryd.f24 64 [.ptr 1 (.lit 0), .ptr 1 (.lit 0)] (memL [(1, ⟨false, w4 a0 a1 a2 a3⟩)]) K := by
  rw [vc_iv]
  intro x0 g0 x1 g1 x2 g2 x3 g3
  rw [g0, g1, g2, g3]
  have hl := hx.lt
  refine ⟨⟨⟨a0, a1, a2, a3, 4332616871279656263, 10917124144477883021, 13281191951274694749, 3486998266802970665, 1, 0, 0, 0, 0, 0, 0, 0, 0, 0, 0, 0, 0, 0, 0, 0, 0⟩,
    ⟨mont X, qN, hx.ws, q_ws, ⟨by omega, Nat.le_refl _, q_odd, q_pri.cop (by omega) hl⟩, ⟨show Wd 1 by unfold Wd; omega, wd0, wd0, wd0⟩, w4_0, wd0⟩, ⟨rfl, rfl, rfl, rfl, rfl⟩, ⟨rfl, rfl, rfl, rfl⟩, ⟨rfl, rfl, rfl, rfl⟩, ⟨rfl, rfl, rfl, rfl⟩, ⟨rfl, rfl, rfl, rfl⟩, ⟨rfl, rfl, rfl, rfl⟩, rfl, rfl, rfl, rfl⟩, ?_⟩
  intro i hQ e he
  have hQ' := hQ
  obtain ⟨a, b, ha, hb, _, hu, hv, hn⟩ := hQ'
  have e1 := band1 hn he
  refine ⟨fun h => IvBody.of ⟨rfl, rfl, rfl, rfl⟩ hQ (.inl ?_), fun _ => ⟨ha.wd, fun hne => IvBody.of ⟨rfl, rfl, rfl, rfl⟩ hQ (.inr ?_), fun _ => IvExit.of ⟨rfl, rfl, rfl, rfl⟩ hx hv hn (fun hz => absurd hz h0) hK⟩⟩
  · have : e = 1 := by simpa using h
    omega
  · simpa using hne
theorem iv_zero {X : Nat} {a0 a1 a2 a3 : Int} {K : SV → Mem → Prop} (hx : El a0 a1 a2 a3 (mont X)) (h0 : mont X = 0)
    (hK : ∀ y0 y1 y2 y3, IvR X y0 y1 y2 y3 → ∀ g1 g2 g3 g4, K (.ptr 1 (.lit 0)) (memL [(1, ⟨false, w4 y0 y1 y2 y3⟩), (545, g1), (593, g2), (665, g3), (809, g4)])) :
    execF cxIv (uIv (fun i => Ws i.a0 i.a1 i.a2 i.a3 0 ∧ i.n = 0 ∧ Ws i.v0 i.v1 i.v2 i.v3 0) (PvT 31) (WvQ (mont X))) Tryd.f24 64 [.ptr 1 (.lit 0), .ptr 1 (.lit 0)] (memL [(1, ⟨false, w4 a0 a1 a2 a3⟩)]) K := by
  rw [vc_iv]
  intro x0 g0 x1 g1 x2 g2 x3 g3
  rw [g0, g1, g2, g3]
  have hw := hx.ws
  rw [h0] at hw
  have z4 : Ws 0 0 0 0 0 := ⟨by decide, by decide, by decide, by decide, by decide⟩
  refine ⟨⟨⟨a0, a1, a2, a3, 4332616871279656263, 10917124144477883021, 13281191951274694749, 3486998266802970665, 1, 0, 0, 0, 0, 0, 0, 0, 0, 0, 0, 0, 0, 0, 0, 0, 0⟩,
    ⟨hw, rfl, z4⟩, ⟨rfl, rfl, rfl, rfl, rfl⟩, ⟨rfl, rfl, rfl, rfl⟩, ⟨rfl, rfl, rfl, rfl⟩, ⟨rfl, rfl, rfl, rfl⟩, ⟨rfl, rfl, rfl, rfl⟩, ⟨rfl, rfl, rfl, rfl⟩, rfl, rfl, rfl, rfl⟩, ?_⟩
  rintro i ⟨ha, hn, hv⟩ e he
  rw [hn] at he
  have e1 := band1 wd0 he
  have hwn : Wd i.n := by rw [hn]; exact wd0
  refine ⟨fun h => ?_, fun _ => ⟨ha.wd, fun hne => ?_, fun _ => IvExit.of ⟨rfl, rfl, rfl, rfl⟩ hx hv.wd hwn (fun _ => hv) hK⟩⟩
  · have : e = 1 := by simpa using h
    omega
  · rw [ha.val] at hne
    simp at hne
theorem iv_live (X : Nat) : ∃ Y, Y < qN ∧ (X % qN = 0 → Y = 0) ∧ (X % qN ≠ 0 → X * Y % qN = 1) := by
  by_cases h : X % qN = 0
  · exact ⟨0, by decide, fun _ => rfl, fun h' => absurd h h'⟩
  · refine ⟨X ^ qm2 % qN, Nat.mod_lt _ (by decide), fun h' => absurd h' h, fun _ => ?_⟩
    have hf := fermat q_pri h
    rw [Nat.mul_mod_mod, Nat.mul_comm, ← Nat.pow_succ]
    exact hf
def gIv : G0 := fun args l K =>
  match args, l with
  | [.ptr 1 (.lit 0), .ptr 1 (.lit 0)], [(1, ⟨false, z⟩)] => c4 z fun z0 z1 z2 z3 => ∃ X, El z0 z1 z2 z3 (mont X) ∧ ∀ y0 y1 y2 y3, IvR X y0 y1 y2 y3 → K (.ptr 1 (.lit 0)) (memL [(1, ⟨false, w4 y0 y1 y2 y3⟩)])
  | _, _ => False
theorem iv_good : Good gIv := by
  constructor
  · intro args l K K' hk h
    unfold gIv at h ⊢
    split at h
    · exact c4_mono (fun _ _ _ _ h => h.elim fun X h => ⟨X, h.1, fun y0 y1 y2 y3 hy => hk _ _ (h.2 y0 y1 y2 y3 hy)⟩) h
    · exact h.elim
  · intro args l K h
    unfold gIv at h
    split at h
    · obtain ⟨_, _, _, _, _, h⟩ := c4_ex h
      obtain ⟨X, _, h⟩ := h
      obtain ⟨Y, h1, h2, h3⟩ := iv_live X
      exact ⟨_, _, h _ _ _ _ ⟨Y, El.of (mont_lt _), h1, h2, h3⟩⟩
    · exact h.elim
theorem iv_ok (args : List SV) (l : List (Nat × Reg)) (K : SV → Mem → Prop) (hup : KUp K) (h : gIv args l K) : ∃ U, execF cxIv U Tryd.f24 64 args (memL l) K := by
  unfold gIv at h
  split at h
  · obtain ⟨z0, z1, z2, z3, rfl, q0⟩ := c4_ex h
    obtain ⟨X, hx, hK⟩ := q0
    have hK2 : ∀ y0 y1 y2 y3, IvR X y0 y1 y2 y3 → ∀ g1 g2 g3 g4, K (.ptr 1 (.lit 0)) (memL [(1, ⟨false, w4 y0 y1 y2 y3⟩), (545, g1), (593, g2), (665, g3), (809, g4)]) := fun y0 y1 y2 y3 hy g1 g2 g3 g4 =>
      hup.le (memL_sub [1, 545, 593, 665, 809] rfl (by decide) (by
        intro x hx
        simp only [List.mem_cons, List.not_mem_nil, or_false] at hx ⊢
        simp [hx])) (hK y0 y1 y2 y3 hy)
    by_cases h0 : mont X = 0
    · exact ⟨_, iv_zero hx h0 hK2⟩
    · exact ⟨_, iv_walk hx h0 hK2⟩
  · exact h.elim
def kIv : Ef Tryd.prog := mkE mixed 24 Tryd.func24 (by decide) (by kernel_rfl) [] [.ptr 4 false, .ptr 4 true] gIv iv_good iv_ok
end Go.Sx

/- spec.SubMod, bit, half. -/
namespace Go.Sx
open Go Go.Proofs
set_option maxRecDepth 100000
def cxSm : Cx Tryd.prog := { rds := [cWs, cLs, cWd], efs := [], eqs := [] }
theorem vc_sm (a0 a1 a2 a3 b0 b1 b2 b3 m0 m1 m2 m3 : Int) (K : SV → Mem → Prop) : (execF cxSm u9 Tryd.f79 64 [ag4 a0 a1 a2 a3, ag4 b0 b1 b2 b3, ag4 m0 m1 m2 m3] (memL []) K) =
  ((∀ (x0 : Int), ((x0 = a0) → (∀ (x1 : Int), ((x1 = a1) → (∀ (x2 : Int), ((x2 = a2) → (∀ (x3 : Int), ((x3 = a3) → (∀ (x4 : Int), ((x4 = b0) → (∀ (x5 : Int), ((x5 = b1) → (∀ (x6 : Int), ((x6 = b2) → (∀ (x7 : Int), ((x7 = b3) → ((((Go.Sx.Wd x0) ∧
 ((Go.Sx.Wd x1) ∧
 ((Go.Sx.Wd x2) ∧
 (Go.Sx.Wd x3)))) ∧
 ((Go.Sx.Wd x4) ∧
 ((Go.Sx.Wd x5) ∧
 ((Go.Sx.Wd x6) ∧
 (Go.Sx.Wd x7))))) ∧
 ((((decide ((Go.Sx.V4 x0 x1 x2 x3) < (Go.Sx.V4 x4 x5 x6 x7))) = Bool.true) → (∀ (x8 : Int), ((x8 = a0) → (∀ (x9 : Int), ((x9 = a1) → (∀ (x10 : Int), ((x10 = a2) → (∀ (x11 : Int), ((x11 = a3) → (∀ (x12 : Int), ((x12 = b0) → (∀ (x13 : Int), ((x13 = b1) → (∀ (x14 : Int), ((x14 = b2) → (∀ (x15 : Int), ((x15 = b3) → ((((Go.Sx.Wd x8) ∧
 ((Go.Sx.Wd x9) ∧
 ((Go.Sx.Wd x10) ∧
 (Go.Sx.Wd x11)))) ∧
 ((Go.Sx.Wd x12) ∧
 ((Go.Sx.Wd x13) ∧
 ((Go.Sx.Wd x14) ∧
 (Go.Sx.Wd x15))))) ∧
 (∀ (x16 : Int), ((x16 = (Go.Sx.lm (Go.Sx.w256 ((Go.Sx.V4 x8 x9 x10 x11) - (Go.Sx.V4 x12 x13 x14 x15))) (0 : Nat))) → (∀ (x17 : Int), ((x17 = (Go.Sx.lm (Go.Sx.w256 ((Go.Sx.V4 x8 x9 x10 x11) - (Go.Sx.V4 x12 x13 x14 x15))) (1 : Nat))) → (∀ (x18 : Int), ((x18 = (Go.Sx.lm (Go.Sx.w256 ((Go.Sx.V4 x8 x9 x10 x11) - (Go.Sx.V4 x12 x13 x14 x15))) (2 : Nat))) → (∀ (x19 : Int), ((x19 = (Go.Sx.lm (Go.Sx.w256 ((Go.Sx.V4 x8 x9 x10 x11) - (Go.Sx.V4 x12 x13 x14 x15))) (3 : Nat))) → (∀ (x20 : Int), ((x20 = m0) → (∀ (x21 : Int), ((x21 = m1) → (∀ (x22 : Int), ((x22 = m2) → (∀ (x23 : Int), ((x23 = m3) → ((((Go.Sx.Wd x16) ∧
 ((Go.Sx.Wd x17) ∧
 ((Go.Sx.Wd x18) ∧
 (Go.Sx.Wd x19)))) ∧
 ((Go.Sx.Wd x20) ∧
 ((Go.Sx.Wd x21) ∧
 ((Go.Sx.Wd x22) ∧
 (Go.Sx.Wd x23))))) ∧
 (∀ (x24 : Int), ((x24 = (Go.Sx.lm (Go.Sx.w256 ((Go.Sx.V4 x16 x17 x18 x19) + (Go.Sx.V4 x20 x21 x22 x23))) (0 : Nat))) → (∀ (x25 : Int), ((x25 = (Go.Sx.lm (Go.Sx.w256 ((Go.Sx.V4 x16 x17 x18 x19) + (Go.Sx.V4 x20 x21 x22 x23))) (1 : Nat))) → (∀ (x26 : Int), ((x26 = (Go.Sx.lm (Go.Sx.w256 ((Go.Sx.V4 x16 x17 x18 x19) + (Go.Sx.V4 x20 x21 x22 x23))) (2 : Nat))) → (∀ (x27 : Int), ((x27 = (Go.Sx.lm (Go.Sx.w256 ((Go.Sx.V4 x16 x17 x18 x19) + (Go.Sx.V4 x20 x21 x22 x23))) (3 : Nat))) → (K (Go.Sx.SV.agg [(Go.Sx.SV.int Go.IntKind.u64 (Go.Sx.A.sym x24)), (Go.Sx.SV.int Go.IntKind.u64 (Go.Sx.A.sym x25)), (Go.Sx.SV.int Go.IntKind.u64 (Go.Sx.A.sym x26)), (Go.Sx.SV.int Go.IntKind.u64 (Go.Sx.A.sym x27))]) (Go.Sx.memL [((513 : Nat), (Go.Sx.Reg.mk Bool.false (Go.Sx.Ct.cells [(Go.Sx.SV.int Go.IntKind.u64 (Go.Sx.A.sym a0)), (Go.Sx.SV.int Go.IntKind.u64 (Go.Sx.A.sym a1)), (Go.Sx.SV.int Go.IntKind.u64 (Go.Sx.A.sym a2)), (Go.Sx.SV.int Go.IntKind.u64 (Go.Sx.A.sym a3))]))), ((521 : Nat), (Go.Sx.Reg.mk Bool.false (Go.Sx.Ct.cells [(Go.Sx.SV.int Go.IntKind.u64 (Go.Sx.A.sym b0)), (Go.Sx.SV.int Go.IntKind.u64 (Go.Sx.A.sym b1)), (Go.Sx.SV.int Go.IntKind.u64 (Go.Sx.A.sym b2)), (Go.Sx.SV.int Go.IntKind.u64 (Go.Sx.A.sym b3))]))), ((529 : Nat), (Go.Sx.Reg.mk Bool.false (Go.Sx.Ct.cells [(Go.Sx.SV.int Go.IntKind.u64 (Go.Sx.A.sym m0)), (Go.Sx.SV.int Go.IntKind.u64 (Go.Sx.A.sym m1)), (Go.Sx.SV.int Go.IntKind.u64 (Go.Sx.A.sym m2)), (Go.Sx.SV.int Go.IntKind.u64 (Go.Sx.A.sym m3))]))), ((537 : Nat), (Go.Sx.Reg.mk Bool.false (Go.Sx.Ct.cells [(Go.Sx.SV.int Go.IntKind.u64 (Go.Sx.A.sym x24)), (Go.Sx.SV.int Go.IntKind.u64 (Go.Sx.A.sym x25)), (Go.Sx.SV.int Go.IntKind.u64 (Go.Sx.A.sym x26)), (Go.Sx.SV.int Go.IntKind.u64 (Go.Sx.A.sym x27))]))), ((633 : Nat), (Go.Sx.Reg.mk Bool.false (Go.Sx.Ct.cells [(Go.Sx.SV.int Go.IntKind.u64 (Go.Sx.A.sym (Go.Sx.lm (Go.Sx.w256 ((Go.Sx.V4 x16 x17 x18 x19) + (Go.Sx.V4 x20 x21 x22 x23))) (0 : Nat)))), (Go.Sx.SV.int Go.IntKind.u64 (Go.Sx.A.sym (Go.Sx.lm (Go.Sx.w256 ((Go.Sx.V4 x16 x17 x18 x19) + (Go.Sx.V4 x20 x21 x22 x23))) (1 : Nat)))), (Go.Sx.SV.int Go.IntKind.u64 (Go.Sx.A.sym (Go.Sx.lm (Go.Sx.w256 ((Go.Sx.V4 x16 x17 x18 x19) + (Go.Sx.V4 x20 x21 x22 x23))) (2 : Nat)))), (Go.Sx.SV.int Go.IntKind.u64 (Go.Sx.A.sym (Go.Sx.lm (Go.Sx.w256 ((Go.Sx.V4 x16 x17 x18 x19) + (Go.Sx.V4 x20 x21 x22 x23))) (3 : Nat))))])))]))))))))))))))))))))))))))))))))))))))))))))) ∧
 (((decide ((Go.Sx.V4 x0 x1 x2 x3) < (Go.Sx.V4 x4 x5 x6 x7))) = Bool.false) → (∀ (x28 : Int), ((x28 = a0) → (∀ (x29 : Int), ((x29 = a1) → (∀ (x30 : Int), ((x30 = a2) → (∀ (x31 : Int), ((x31 = a3) → (∀ (x32 : Int), ((x32 = b0) → (∀ (x33 : Int), ((x33 = b1) → (∀ (x34 : Int), ((x34 = b2) → (∀ (x35 : Int), ((x35 = b3) → ((((Go.Sx.Wd x28) ∧
 ((Go.Sx.Wd x29) ∧
 ((Go.Sx.Wd x30) ∧
 (Go.Sx.Wd x31)))) ∧
 ((Go.Sx.Wd x32) ∧
 ((Go.Sx.Wd x33) ∧
 ((Go.Sx.Wd x34) ∧
 (Go.Sx.Wd x35))))) ∧
 (∀ (x36 : Int), ((x36 = (Go.Sx.lm (Go.Sx.w256 ((Go.Sx.V4 x28 x29 x30 x31) - (Go.Sx.V4 x32 x33 x34 x35))) (0 : Nat))) → (∀ (x37 : Int), ((x37 = (Go.Sx.lm (Go.Sx.w256 ((Go.Sx.V4 x28 x29 x30 x31) - (Go.Sx.V4 x32 x33 x34 x35))) (1 : Nat))) → (∀ (x38 : Int), ((x38 = (Go.Sx.lm (Go.Sx.w256 ((Go.Sx.V4 x28 x29 x30 x31) - (Go.Sx.V4 x32 x33 x34 x35))) (2 : Nat))) → (∀ (x39 : Int), ((x39 = (Go.Sx.lm (Go.Sx.w256 ((Go.Sx.V4 x28 x29 x30 x31) - (Go.Sx.V4 x32 x33 x34 x35))) (3 : Nat))) → (K (Go.Sx.SV.agg [(Go.Sx.SV.int Go.IntKind.u64 (Go.Sx.A.sym x36)), (Go.Sx.SV.int Go.IntKind.u64 (Go.Sx.A.sym x37)), (Go.Sx.SV.int Go.IntKind.u64 (Go.Sx.A.sym x38)), (Go.Sx.SV.int Go.IntKind.u64 (Go.Sx.A.sym x39))]) (Go.Sx.memL [((513 : Nat), (Go.Sx.Reg.mk Bool.false (Go.Sx.Ct.cells [(Go.Sx.SV.int Go.IntKind.u64 (Go.Sx.A.sym a0)), (Go.Sx.SV.int Go.IntKind.u64 (Go.Sx.A.sym a1)), (Go.Sx.SV.int Go.IntKind.u64 (Go.Sx.A.sym a2)), (Go.Sx.SV.int Go.IntKind.u64 (Go.Sx.A.sym a3))]))), ((521 : Nat), (Go.Sx.Reg.mk Bool.false (Go.Sx.Ct.cells [(Go.Sx.SV.int Go.IntKind.u64 (Go.Sx.A.sym b0)), (Go.Sx.SV.int Go.IntKind.u64 (Go.Sx.A.sym b1)), (Go.Sx.SV.int Go.IntKind.u64 (Go.Sx.A.sym b2)), (Go.Sx.SV.int Go.IntKind.u64 (Go.Sx.A.sym b3))]))), ((529 : Nat), (Go.Sx.Reg.mk Bool.false (Go.Sx.Ct.cells [(Go.Sx.SV.int Go.IntKind.u64 (Go.Sx.A.sym m0)), (Go.Sx.SV.int Go.IntKind.u64 (Go.Sx.A.sym m1)), (Go.Sx.SV.int Go.IntKind.u64 (Go.Sx.A.sym m2)), (Go.Sx.SV.int Go.IntKind.u64 (Go.Sx.A.sym m3))]))), ((537 : Nat), (Go.Sx.Reg.mk Bool.false (Go.Sx.Ct.cells [(Go.Sx.SV.int Go.IntKind.u64 (Go.Sx.A.sym x36)), (Go.Sx.SV.int Go.IntKind.u64 (Go.Sx.A.sym x37)), (Go.Sx.SV.int Go.IntKind.u64 (Go.Sx.A.sym x38)), (Go.Sx.SV.int Go.IntKind.u64 (Go.Sx.A.sym x39))])))]))))))))))))))))))))))))))))))))))))))))))))))) := by kernel_rfl
theorem vc_hf (a0 a1 a2 a3 : Int) (K : SV → Mem → Prop) : (execF cxSm u9 Tryd.f81 64 [ag4 a0 a1 a2 a3] (memL []) K) =
  ((∀ (x0 : Int), ((x0 = (Go.Sx.shrv Go.IntKind.u64 a0 (1 : Nat))) → (∀ (x1 : Int), ((x1 = (Go.Sx.shlv Go.IntKind.u64 a1 (63 : Nat))) → (∀ (x2 : Int), ((x2 = (Go.IntKind.wrap Go.IntKind.u64 (x0 + x1))) → (∀ (x3 : Int), ((x3 = (Go.Sx.shrv Go.IntKind.u64 a1 (1 : Nat))) → (∀ (x4 : Int), ((x4 = (Go.Sx.shlv Go.IntKind.u64 a2 (63 : Nat))) → (∀ (x5 : Int), ((x5 = (Go.IntKind.wrap Go.IntKind.u64 (x3 + x4))) → (∀ (x6 : Int), ((x6 = (Go.Sx.shrv Go.IntKind.u64 a2 (1 : Nat))) → (∀ (x7 : Int), ((x7 = (Go.Sx.shlv Go.IntKind.u64 a3 (63 : Nat))) → (∀ (x8 : Int), ((x8 = (Go.IntKind.wrap Go.IntKind.u64 (x6 + x7))) → (∀ (x9 : Int), ((x9 = (Go.Sx.shrv Go.IntKind.u64 a3 (1 : Nat))) → (∀ (x10 : Int), ((x10 = x2) → (∀ (x11 : Int), ((x11 = x5) → (∀ (x12 : Int), ((x12 = x8) → (∀ (x13 : Int), ((x13 = x9) → (K (Go.Sx.SV.agg [(Go.Sx.SV.int Go.IntKind.u64 (Go.Sx.A.sym x10)), (Go.Sx.SV.int Go.IntKind.u64 (Go.Sx.A.sym x11)), (Go.Sx.SV.int Go.IntKind.u64 (Go.Sx.A.sym x12)), (Go.Sx.SV.int Go.IntKind.u64 (Go.Sx.A.sym x13))]) (Go.Sx.memL [((513 : Nat), (Go.Sx.Reg.mk Bool.false (Go.Sx.Ct.cells [(Go.Sx.SV.int Go.IntKind.u64 (Go.Sx.A.sym x2)), (Go.Sx.SV.int Go.IntKind.u64 (Go.Sx.A.sym x5)), (Go.Sx.SV.int Go.IntKind.u64 (Go.Sx.A.sym x8)), (Go.Sx.SV.int Go.IntKind.u64 (Go.Sx.A.sym x9))]))), ((521 : Nat), (Go.Sx.Reg.mk Bool.false (Go.Sx.Ct.cells [(Go.Sx.SV.int Go.IntKind.u64 (Go.Sx.A.sym x10)), (Go.Sx.SV.int Go.IntKind.u64 (Go.Sx.A.sym x11)), (Go.Sx.SV.int Go.IntKind.u64 (Go.Sx.A.sym x12)), (Go.Sx.SV.int Go.IntKind.u64 (Go.Sx.A.sym x13))])))]))))))))))))))))))))))))))))))) := by kernel_rfl
theorem vc_bit (a0 a1 a2 a3 i : Int) (K : SV → Mem → Prop) : (execF cxSm u9 Tryd.f85 64 [ag4 a0 a1 a2 a3, .int .i64 (.sym i)] (memL []) K) =
  ((∀ (x0 : Int), ((x0 = (Go.IntKind.wrap Go.IntKind.i64 (Int.tdiv i (64 : Int)))) → ((((0 : Int) ≤ x0) ∧
 (x0 < (4 : Int))) ∧
 (((((Int.toNat x0) * (1 : Nat)) + (1 : Nat)) ≤ (List.length [a0, a1, a2, a3])) ∧
 (∀ (x1 : Int), ((x1 = (List.getD [a0, a1, a2, a3] ((Int.toNat x0) * (1 : Nat)) (0 : Int))) → (∀ (x2 : Int), ((x2 = (Int.tmod i (64 : Int))) → (((0 : Int) ≤ x2) ∧
 (∀ (x3 : Int), ((x3 = (Go.Sx.shrv Go.IntKind.u64 x1 (Int.toNat x2))) → (∀ (x4 : Int), ((x4 = (Int.tmod x3 (2 : Int))) → (K (Go.Sx.SV.int Go.IntKind.u64 (Go.Sx.A.sym x4)) (Go.Sx.memL [((513 : Nat), (Go.Sx.Reg.mk Bool.false (Go.Sx.Ct.cells [(Go.Sx.SV.int Go.IntKind.u64 (Go.Sx.A.sym a0)), (Go.Sx.SV.int Go.IntKind.u64 (Go.Sx.A.sym a1)), (Go.Sx.SV.int Go.IntKind.u64 (Go.Sx.A.sym a2)), (Go.Sx.SV.int Go.IntKind.u64 (Go.Sx.A.sym a3))])))])))))))))))))))) := by kernel_rfl

theorem sm1 {A B M : Int} (h0 : 0 ≤ A) (hB : B < M) (hM : M < 115792089237316195423570985008687907853269984665640564039457584007913129639936) (h : A < B) : w256 ((w256 (A - B) : Int) + M) = ((A - B) % M).toNat := by
  have e : (A - B) % M = A - B + M := by
    rw [← Int.add_emod_right, Int.emod_eq_of_lt (by omega) (by omega)]
  rw [e]
  unfold w256
  omega
theorem sm2 {A B M : Int} (h0 : 0 ≤ B) (hA : A < M) (hM : M < 115792089237316195423570985008687907853269984665640564039457584007913129639936) (h : ¬ A < B) : w256 (A - B) = ((A - B) % M).toNat := by
  rw [Int.emod_eq_of_lt (by omega) (by omega)]
  unfold w256
  omega
def rSm : R0 := fun args l =>
  match args, l with
  | [.agg [.int .u64 (.sym a0), .int .u64 (.sym a1), .int .u64 (.sym a2), .int .u64 (.sym a3)], .agg [.int .u64 (.sym b0), .int .u64 (.sym b1), .int .u64 (.sym b2), .int .u64 (.sym b3)], .agg [.int .u64 (.sym m0), .int .u64 (.sym m1), .int .u64 (.sym m2), .int .u64 (.sym m3)]], [] =>
    some (some (((Wd a0 ∧ Wd a1 ∧ Wd a2 ∧ Wd a3) ∧ (Wd b0 ∧ Wd b1 ∧ Wd b2 ∧ Wd b3) ∧ (Wd m0 ∧ Wd m1 ∧ Wd m2 ∧ Wd m3)) ∧ V4 a0 a1 a2 a3 < V4 m0 m1 m2 m3 ∧ V4 b0 b1 b2 b3 < V4 m0 m1 m2 m3), ag4 (lm (((V4 a0 a1 a2 a3 - V4 b0 b1 b2 b3) % V4 m0 m1 m2 m3).toNat) 0) (lm (((V4 a0 a1 a2 a3 - V4 b0 b1 b2 b3) % V4 m0 m1 m2 m3).toNat) 1) (lm (((V4 a0 a1 a2 a3 - V4 b0 b1 b2 b3) % V4 m0 m1 m2 m3).toNat) 2) (lm (((V4 a0 a1 a2 a3 - V4 b0 b1 b2 b3) % V4 m0 m1 m2 m3).toNat) 3))
  | _, _ => none
theorem sm_ok (args : List SV) (l : List (Nat × Reg)) (p : Ob) (v : SV) (h : rSm args l = some (p, v)) (hp : p.ok) : ∃ U, execF cxSm U Tryd.f79 64 args (memL l) fun v' _ => v' = v := by
  unfold rSm at h
  split at h
  · rename_i a0 a1 a2 a3 b0 b1 b2 b3 m0 m1 m2 m3
    simp only [Option.some.injEq, Prod.mk.injEq] at h
    obtain ⟨rfl, rfl⟩ := h
    obtain ⟨⟨ha, hb, hm⟩, hA, hB⟩ : ((Wd a0 ∧ Wd a1 ∧ Wd a2 ∧ Wd a3) ∧ (Wd b0 ∧ Wd b1 ∧ Wd b2 ∧ Wd b3) ∧ (Wd m0 ∧ Wd m1 ∧ Wd m2 ∧ Wd m3)) ∧ V4 a0 a1 a2 a3 < V4 m0 m1 m2 m3 ∧ V4 b0 b1 b2 b3 < V4 m0 m1 m2 m3 := hp
    have nA := V4_nonneg ha.1 ha.2.1 ha.2.2.1 ha.2.2.2
    have nB := V4_nonneg hb.1 hb.2.1 hb.2.2.1 hb.2.2.2
    have lM := V4_lt hm.1 hm.2.1 hm.2.2.1 hm.2.2.2
    have W : ∀ s i, Wd (lm s i) := lm_wd
    refine ⟨u9, ?_⟩
    have := vc_sm a0 a1 a2 a3 b0 b1 b2 b3 m0 m1 m2 m3 fun v' _ => v' = ag4 (lm (((V4 a0 a1 a2 a3 - V4 b0 b1 b2 b3) % V4 m0 m1 m2 m3).toNat) 0) (lm (((V4 a0 a1 a2 a3 - V4 b0 b1 b2 b3) % V4 m0 m1 m2 m3).toNat) 1) (lm (((V4 a0 a1 a2 a3 - V4 b0 b1 b2 b3) % V4 m0 m1 m2 m3).toNat) 2) (lm (((V4 a0 a1 a2 a3 - V4 b0 b1 b2 b3) % V4 m0 m1 m2 m3).toNat) 3)
    unfold ag4 at this
    refine this.mpr ?_
    clear this
    rintro _ rfl _ rfl _ rfl _ rfl _ rfl _ rfl _ rfl _ rfl
    refine ⟨⟨ha, hb⟩, fun h => ?_, fun h => ?_⟩
    · simp only [decide_eq_true_eq] at h
      rintro _ rfl _ rfl _ rfl _ rfl _ rfl _ rfl _ rfl _ rfl
      refine ⟨⟨ha, hb⟩, ?_⟩
      rintro x16 h16 x17 h17 x18 h18 x19 h19 _ rfl _ rfl _ rfl _ rfl
      rw [h16, h17, h18, h19]
      refine ⟨⟨⟨W _ _, W _ _, W _ _, W _ _⟩, hm⟩, ?_⟩
      rintro _ rfl _ rfl _ rfl _ rfl
      rw [w256_V4, sm1 nA hB lM h]
    · simp only [decide_eq_false_iff_not] at h
      rintro _ rfl _ rfl _ rfl _ rfl _ rfl _ rfl _ rfl _ rfl
      refine ⟨⟨ha, hb⟩, ?_⟩
      rintro _ rfl _ rfl _ rfl _ rfl
      rw [sm2 nB hA lM h]
  · cases h
def cSm : Rd Tryd.prog := mkR mixed 79 Tryd.func79 (by decide) (by kernel_rfl) [] [.num, .num, .num] rSm sm_ok
def rBt : R0 := fun args l =>
  match args, l with
  | [.agg [.int .u64 (.sym a0), .int .u64 (.sym a1), .int .u64 (.sym a2), .int .u64 (.sym a3)], .int .i64 (.sym i)], [] => some (some ((Wd a0 ∧ Wd a1 ∧ Wd a2 ∧ Wd a3) ∧ 0 ≤ i ∧ i < 256), .int .u64 (.sym ((((V4 a0 a1 a2 a3).toNat / 2 ^ i.toNat % 2 : Nat) : Int))))
  | _, _ => none
theorem bt_ok (args : List SV) (l : List (Nat × Reg)) (p : Ob) (v : SV) (h : rBt args l = some (p, v)) (hp : p.ok) : ∃ U, execF cxSm U Tryd.f85 64 args (memL l) fun v' _ => v' = v := by
  unfold rBt at h
  split at h
  · rename_i a0 a1 a2 a3 i
    simp only [Option.some.injEq, Prod.mk.injEq] at h
    obtain ⟨rfl, rfl⟩ := h
    obtain ⟨ha, hi0, hi1⟩ : (Wd a0 ∧ Wd a1 ∧ Wd a2 ∧ Wd a3) ∧ 0 ≤ i ∧ i < 256 := hp
    obtain ⟨m, rfl⟩ := Int.eq_ofNat_of_zero_le hi0
    obtain ⟨e0, e1, e2, e3, hl⟩ := ws_of ha.1 ha.2.1 ha.2.2.1 ha.2.2.2
    refine ⟨u9, ?_⟩
    have := vc_bit a0 a1 a2 a3 m fun v' _ => v' = .int .u64 (.sym ((((V4 a0 a1 a2 a3).toNat / 2 ^ ((m : Int)).toNat % 2 : Nat) : Int)))
    unfold ag4 at this
    refine this.mpr ?_
    clear this
    generalize (V4 a0 a1 a2 a3).toNat = X at *
    rw [Int.toNat_natCast, e0, e1, e2, e3]
    intro x0 h0
    rw [Int.tdiv_eq_ediv_of_nonneg (by omega), wrap64 (by omega) (by omega)] at h0
    refine ⟨⟨by omega, by omega⟩, by simp only [List.length_cons, List.length_nil]; omega, ?_⟩
    intro x1 h1 x2 h2
    rw [Int.tmod_eq_emod_of_nonneg (by omega)] at h2
    refine ⟨by omega, ?_⟩
    intro x3 h3 x4 h4
    rw [show x0.toNat = m / 64 by omega, Nat.mul_one, lm_getD X _ (by omega), lm_nat] at h1
    rw [show x2.toNat = m % 64 by omega, h1, shr64 (Int.natCast_nonneg _) (by omega)] at h3
    have e3' : x3 = ((X / 2 ^ (64 * (m / 64)) % 2 ^ 64 / 2 ^ (m % 64) : Nat) : Int) := by rw [h3, Int.natCast_ediv, Int.natCast_pow]; rfl
    rw [Int.tmod_eq_emod_of_nonneg (by rw [e3']; exact Int.natCast_nonneg _), e3'] at h4
    have e4' : x4 = ((X / 2 ^ m % 2 : Nat) : Int) := by rw [h4, ← word_bit]; rfl
    rw [e4']
  · cases h
def cBt : Rd Tryd.prog := mkR mixed 85 Tryd.func85 (by decide) (by kernel_rfl) [] [.num, .num] rBt bt_ok
def rHv : R0 := fun args l =>
  match args, l with
  | [.agg [.int .u64 (.sym a0), .int .u64 (.sym a1), .int .u64 (.sym a2), .int .u64 (.sym a3)]], [] => some (some (Wd a0 ∧ Wd a1 ∧ Wd a2 ∧ Wd a3), ag4 (lm ((V4 a0 a1 a2 a3).toNat / 2) 0) (lm ((V4 a0 a1 a2 a3).toNat / 2) 1) (lm ((V4 a0 a1 a2 a3).toNat / 2) 2) (lm ((V4 a0 a1 a2 a3).toNat / 2) 3))
  | _, _ => none
theorem hv_ok (args : List SV) (l : List (Nat × Reg)) (p : Ob) (v : SV) (h : rHv args l = some (p, v)) (hp : p.ok) : ∃ U, execF cxSm U Tryd.f81 64 args (memL l) fun v' _ => v' = v := by
  unfold rHv at h
  split at h
  · rename_i a0 a1 a2 a3
    simp only [Option.some.injEq, Prod.mk.injEq] at h
    obtain ⟨rfl, rfl⟩ := h
    obtain ⟨h0, h1, h2, h3⟩ : (Wd a0 ∧ Wd a1 ∧ Wd a2 ∧ Wd a3) := hp
    refine ⟨u9, ?_⟩
    have := vc_hf a0 a1 a2 a3 fun v' _ => v' = ag4 (lm ((V4 a0 a1 a2 a3).toNat / 2) 0) (lm ((V4 a0 a1 a2 a3).toNat / 2) 1) (lm ((V4 a0 a1 a2 a3).toNat / 2) 2) (lm ((V4 a0 a1 a2 a3).toNat / 2) 3)
    unfold ag4 at this
    refine this.mpr ?_
    clear this
    have sr : ∀ {z : Int}, Wd z → shrv .u64 z 1 = z / 2 := fun hz => by rw [shr64 hz.1 (by omega)]; rfl
    have sl : ∀ z : Int, shlv .u64 z 63 = z * 9223372036854775808 % 18446744073709551616 := fun z => by
      unfold shlv
      rw [wu64, show min 63 IntKind.u64.bits = 63 by simp [IntKind.bits]]
      rfl
    intro x0 g0 x1 g1 x2 g2 x3 g3 x4 g4 x5 g5 x6 g6 x7 g7 x8 g8 x9 g9
    rw [sr h0] at g0
    rw [sr h1] at g3
    rw [sr h2] at g6
    rw [sr h3] at g9
    rw [sl] at g1 g4 g7
    rw [wu64] at g2 g5 g8
    intro y0 k0 y1 k1 y2 k2 y3 k3
    rw [k0, k1, k2, k3]
    unfold Wd at h0 h1 h2 h3
    have w2 : Wd x2 := by unfold Wd; omega
    have w5 : Wd x5 := by unfold Wd; omega
    have w8 : Wd x8 := by unfold Wd; omega
    have w9 : Wd x9 := by unfold Wd; omega
    obtain ⟨q0, q1, q2, q3⟩ := lm_of w2 w5 w8 w9 (x := (V4 a0 a1 a2 a3).toNat / 2) (by unfold V4; omega)
    rw [← q0, ← q1, ← q2, ← q3]
  · cases h
def cHv : Rd Tryd.prog := mkR mixed 81 Tryd.func81 (by decide) (by kernel_rfl) [] [.num] rHv hv_ok
end Go.Sx

/- The loop of spec.power. -/
namespace Go.Sx
open Go Go.Proofs Go.Num
set_option maxRecDepth 100000
def liPw (S : IeI → Prop) : LI where
  ι := IeI
  keep := [2, 3, 4, 5]
  keepR := [513, 521, 529]
  F := fun i => ⟨[(6, .int .i64 (.sym ((i.n : Nat) - 1)))], [(545, ⟨false, w4 i.z0 i.z1 i.z2 i.z3⟩)]⟩
  I := fun _ i => S i
  μ := fun i => i.n
def uPw (S : IeI → Prop) : Nat → Lp := fun n => match n with | 0 => .inv (liPw S) | _ => .un 0
def cxPw : Cx Tryd.prog := { rds := [cMl, cBt], efs := [], eqs := [] }
end Go.Sx

/- spec.power, spec.sub, spec.halved. -/
namespace Go.Sx
open Go Go.Proofs Go.Num
set_option maxRecDepth 100000
/-- The number that four words of a remainder make. -/
theorem Vq (a : Nat) : V4 (lm (a % qN) 0) (lm (a % qN) 1) (lm (a % qN) 2) (lm (a % qN) 3) = ((a % qN : Nat) : Int) := lm_val (Nat.lt_trans (Nat.mod_lt _ (by decide)) (by decide))
theorem qN_eq : qN = 21888242871839275222246405745257275088696311157297823662689037894645226208583 := rfl
theorem vc_pw (S : IeI → Prop) (a0 a1 a2 a3 b0 b1 b2 b3 : Int) (K : SV → Mem → Prop) : (execF cxPw (uPw S) Tryd.f80 64 [ag4 a0 a1 a2 a3, ag4 b0 b1 b2 b3] (memL []) K) =
  (((∃ (i00 : IeI), ((S i00) ∧
 (((255 : Int) = ((((IeI.n i00) : Nat) : Int) - (1 : Int))) ∧
 (((a0 = a0) ∧
 ((a1 = a1) ∧
 ((a2 = a2) ∧
 (a3 = a3)))) ∧
 (((b0 = b0) ∧
 ((b1 = b1) ∧
 ((b2 = b2) ∧
 (b3 = b3)))) ∧
 (((1 : Int) = (IeI.z0 i00)) ∧
 (((0 : Int) = (IeI.z1 i00)) ∧
 (((0 : Int) = (IeI.z2 i00)) ∧
 ((0 : Int) = (IeI.z3 i00)))))))))) ∧
 (∀ (i1 : IeI), ((S i1) → ((((decide (((((IeI.n i1) : Nat) : Int) - (1 : Int)) ≥ (0 : Int))) = Bool.true) → (∀ (x2 : Int), ((x2 = (IeI.z0 i1)) → (∀ (x3 : Int), ((x3 = (IeI.z1 i1)) → (∀ (x4 : Int), ((x4 = (IeI.z2 i1)) → (∀ (x5 : Int), ((x5 = (IeI.z3 i1)) → (∀ (x6 : Int), ((x6 = (IeI.z0 i1)) → (∀ (x7 : Int), ((x7 = (IeI.z1 i1)) → (∀ (x8 : Int), ((x8 = (IeI.z2 i1)) → (∀ (x9 : Int), ((x9 = (IeI.z3 i1)) → ((((Wd x2) ∧
 ((Wd x3) ∧
 ((Wd x4) ∧
 (Wd x5)))) ∧
 ((Wd x6) ∧
 ((Wd x7) ∧
 ((Wd x8) ∧
 (Wd x9))))) ∧
 (∀ (x10 : Int), ((x10 = (lm (((Int.toNat (V4 x2 x3 x4 x5)) * (Int.toNat (V4 x6 x7 x8 x9))) % (21888242871839275222246405745257275088696311157297823662689037894645226208583 : Nat)) (0 : Nat))) → (∀ (x11 : Int), ((x11 = (lm (((Int.toNat (V4 x2 x3 x4 x5)) * (Int.toNat (V4 x6 x7 x8 x9))) % (21888242871839275222246405745257275088696311157297823662689037894645226208583 : Nat)) (1 : Nat))) → (∀ (x12 : Int), ((x12 = (lm (((Int.toNat (V4 x2 x3 x4 x5)) * (Int.toNat (V4 x6 x7 x8 x9))) % (21888242871839275222246405745257275088696311157297823662689037894645226208583 : Nat)) (2 : Nat))) → (∀ (x13 : Int), ((x13 = (lm (((Int.toNat (V4 x2 x3 x4 x5)) * (Int.toNat (V4 x6 x7 x8 x9))) % (21888242871839275222246405745257275088696311157297823662689037894645226208583 : Nat)) (3 : Nat))) → (∀ (x14 : Int), ((x14 = b0) → (∀ (x15 : Int), ((x15 = b1) → (∀ (x16 : Int), ((x16 = b2) → (∀ (x17 : Int), ((x17 = b3) → ((((Wd x14) ∧
 ((Wd x15) ∧
 ((Wd x16) ∧
 (Wd x17)))) ∧
 (((0 : Int) ≤ ((((IeI.n i1) : Nat) : Int) - (1 : Int))) ∧
 (((((IeI.n i1) : Nat) : Int) - (1 : Int)) < (256 : Int)))) ∧
 (∀ (x18 : Int), ((x18 = (((((Int.toNat (V4 x14 x15 x16 x17)) / ((2 : Nat) ^ (Int.toNat ((((IeI.n i1) : Nat) : Int) - (1 : Int))))) % (2 : Nat)) : Nat) : Int)) → ((((x18 == (1 : Int)) = Bool.true) → (∀ (x19 : Int), ((x19 = x10) → (∀ (x20 : Int), ((x20 = x11) → (∀ (x21 : Int), ((x21 = x12) → (∀ (x22 : Int), ((x22 = x13) → (∀ (x23 : Int), ((x23 = a0) → (∀ (x24 : Int), ((x24 = a1) → (∀ (x25 : Int), ((x25 = a2) → (∀ (x26 : Int), ((x26 = a3) → ((((Wd x19) ∧
 ((Wd x20) ∧
 ((Wd x21) ∧
 (Wd x22)))) ∧
 ((Wd x23) ∧
 ((Wd x24) ∧
 ((Wd x25) ∧
 (Wd x26))))) ∧
 (∀ (x27 : Int), ((x27 = (lm (((Int.toNat (V4 x19 x20 x21 x22)) * (Int.toNat (V4 x23 x24 x25 x26))) % (21888242871839275222246405745257275088696311157297823662689037894645226208583 : Nat)) (0 : Nat))) → (∀ (x28 : Int), ((x28 = (lm (((Int.toNat (V4 x19 x20 x21 x22)) * (Int.toNat (V4 x23 x24 x25 x26))) % (21888242871839275222246405745257275088696311157297823662689037894645226208583 : Nat)) (1 : Nat))) → (∀ (x29 : Int), ((x29 = (lm (((Int.toNat (V4 x19 x20 x21 x22)) * (Int.toNat (V4 x23 x24 x25 x26))) % (21888242871839275222246405745257275088696311157297823662689037894645226208583 : Nat)) (2 : Nat))) → (∀ (x30 : Int), ((x30 = (lm (((Int.toNat (V4 x19 x20 x21 x22)) * (Int.toNat (V4 x23 x24 x25 x26))) % (21888242871839275222246405745257275088696311157297823662689037894645226208583 : Nat)) (3 : Nat))) → (∀ (x31 : Int), ((x31 = (IntKind.wrap IntKind.i64 (((((IeI.n i1) : Nat) : Int) - (1 : Int)) - (1 : Int)))) → (∃ (x32 : IeI), ((S x32) ∧
 (((x31 = ((((IeI.n x32) : Nat) : Int) - (1 : Int))) ∧
 (((a0 = a0) ∧
 ((a1 = a1) ∧
 ((a2 = a2) ∧
 (a3 = a3)))) ∧
 (((b0 = b0) ∧
 ((b1 = b1) ∧
 ((b2 = b2) ∧
 (b3 = b3)))) ∧
 ((x27 = (IeI.z0 x32)) ∧
 ((x28 = (IeI.z1 x32)) ∧
 ((x29 = (IeI.z2 x32)) ∧
 (x30 = (IeI.z3 x32)))))))) ∧
 ((IeI.n x32) < (IeI.n i1))))))))))))))))))))))))))))))))) ∧
 (((x18 == (1 : Int)) = Bool.false) → (∀ (x33 : Int), ((x33 = (IntKind.wrap IntKind.i64 (((((IeI.n i1) : Nat) : Int) - (1 : Int)) - (1 : Int)))) → (∃ (x34 : IeI), ((S x34) ∧
 (((x33 = ((((IeI.n x34) : Nat) : Int) - (1 : Int))) ∧
 (((a0 = a0) ∧
 ((a1 = a1) ∧
 ((a2 = a2) ∧
 (a3 = a3)))) ∧
 (((b0 = b0) ∧
 ((b1 = b1) ∧
 ((b2 = b2) ∧
 (b3 = b3)))) ∧
 ((x10 = (IeI.z0 x34)) ∧
 ((x11 = (IeI.z1 x34)) ∧
 ((x12 = (IeI.z2 x34)) ∧
 (x13 = (IeI.z3 x34)))))))) ∧
 ((IeI.n x34) < (IeI.n i1)))))))))))))))))))))))))))))))))))))))))))))) ∧
 (((decide (((((IeI.n i1) : Nat) : Int) - (1 : Int)) ≥ (0 : Int))) = Bool.false) → (∀ (x35 : Int), ((x35 = (IeI.z0 i1)) → (∀ (x36 : Int), ((x36 = (IeI.z1 i1)) → (∀ (x37 : Int), ((x37 = (IeI.z2 i1)) → (∀ (x38 : Int), ((x38 = (IeI.z3 i1)) → (K (SV.agg [(SV.int IntKind.u64 (A.sym x35)), (SV.int IntKind.u64 (A.sym x36)), (SV.int IntKind.u64 (A.sym x37)), (SV.int IntKind.u64 (A.sym x38))]) (memL [((513 : Nat), (Reg.mk Bool.false (Ct.cells [(SV.int IntKind.u64 (A.sym a0)), (SV.int IntKind.u64 (A.sym a1)), (SV.int IntKind.u64 (A.sym a2)), (SV.int IntKind.u64 (A.sym a3))]))), ((521 : Nat), (Reg.mk Bool.false (Ct.cells [(SV.int IntKind.u64 (A.sym b0)), (SV.int IntKind.u64 (A.sym b1)), (SV.int IntKind.u64 (A.sym b2)), (SV.int IntKind.u64 (A.sym b3))]))), ((529 : Nat), (Reg.mk Bool.false (Ct.cells [(SV.int IntKind.u64 (A.sym x35)), (SV.int IntKind.u64 (A.sym x36)), (SV.int IntKind.u64 (A.sym x37)), (SV.int IntKind.u64 (A.sym x38))]))), ((545 : Nat), (Reg.mk Bool.false (Ct.cells [(SV.int IntKind.u64 (A.sym (IeI.z0 i1))), (SV.int IntKind.u64 (A.sym (IeI.z1 i1))), (SV.int IntKind.u64 (A.sym (IeI.z2 i1))), (SV.int IntKind.u64 (A.sym (IeI.z3 i1)))])))])))))))))))))))) := by kernel_rfl

theorem pw_walk {A E : Nat} {a0 a1 a2 a3 b0 b1 b2 b3 : Int} {K : SV → Mem → Prop} (ha : Ws a0 a1 a2 a3 A) (hb : Ws b0 b1 b2 b3 E)
    (hK : ∀ m, K (ag4 (lm (A ^ E % qN) 0) (lm (A ^ E % qN) 1) (lm (A ^ E % qN) 2) (lm (A ^ E % qN) 3)) m) :
    execF cxPw (uPw fun i => i.n ≤ 256 ∧ El i.z0 i.z1 i.z2 i.z3 (A ^ (E / 2 ^ i.n) % qN)) Tryd.f80 64 [ag4 a0 a1 a2 a3, ag4 b0 b1 b2 b3] (memL []) K := by
  rw [vc_pw, ← qN_eq]
  have va := ha.val
  have vb := hb.val
  have wa := ha.wd
  have wb := hb.wd
  have e256 : E / 2 ^ 256 = 0 := Nat.div_eq_of_lt hb.lt
  refine ⟨⟨⟨256, 1, 0, 0, 0⟩, ⟨Nat.le_refl _, ?_⟩, show (255 : Int) = ((256 : Nat) : Int) - 1 by decide, ⟨rfl, rfl, rfl, rfl⟩, ⟨rfl, rfl, rfl, rfl⟩, rfl, rfl, rfl, rfl⟩, ?_⟩
  · show El 1 0 0 0 (A ^ (E / 2 ^ 256) % qN)
    rw [e256, Nat.pow_zero]
    exact ⟨by decide, by decide, by decide, by decide, by decide⟩
  rintro ⟨n, z0, z1, z2, z3⟩ ⟨hn, hz⟩
  dsimp only at hn hz ⊢
  have vz := hz.val
  refine ⟨fun h => ?_, fun h => ?_⟩
  · simp only [decide_eq_true_eq] at h
    obtain ⟨p, rfl⟩ : ∃ p, n = p + 1 := ⟨n - 1, by omega⟩
    rw [show (((p + 1 : Nat) : Int) - 1) = (p : Int) by omega]
    have eh : E / 2 ^ p = 2 * (E / 2 ^ (p + 1)) + E / 2 ^ p % 2 := by
      rw [Nat.pow_succ, ← Nat.div_div_eq_div_mul]
      omega
    have sq : A ^ (E / 2 ^ (p + 1)) % qN * (A ^ (E / 2 ^ (p + 1)) % qN) % qN = A ^ (2 * (E / 2 ^ (p + 1))) % qN := by
      rw [← Nat.mul_mod, ← Nat.pow_add, Nat.two_mul]
    rintro _ rfl _ rfl _ rfl _ rfl _ rfl _ rfl _ rfl _ rfl
    refine ⟨⟨hz.wd, hz.wd⟩, ?_⟩
    rw [vz, Int.toNat_natCast, sq]
    rintro _ rfl _ rfl _ rfl _ rfl x14 h14 x15 h15 x16 h16 x17 h17
    rw [h14, h15, h16, h17]
    refine ⟨⟨wb, by omega, by omega⟩, ?_⟩
    rw [vb, Int.toNat_natCast, Int.toNat_natCast]
    intro x18 h18
    refine ⟨fun hb => ?_, fun hb => ?_⟩
    · have hb : x18 = 1 := by simpa using hb
      rintro _ rfl _ rfl _ rfl _ rfl x23 h23 x24 h24 x25 h25 x26 h26
      rw [h23, h24, h25, h26]
      refine ⟨⟨⟨lm_wd _ _, lm_wd _ _, lm_wd _ _, lm_wd _ _⟩, wa⟩, ?_⟩
      rw [Vq, va, Int.toNat_natCast, Int.toNat_natCast, Nat.mod_mul_mod, ← Nat.pow_succ]
      rintro _ rfl _ rfl _ rfl _ rfl x31 h31
      rw [wrap64 (by omega) (by omega)] at h31
      refine ⟨⟨p, _, _, _, _⟩, ⟨by simp only; omega, ?_⟩, ⟨by simp only; omega, ⟨rfl, rfl, rfl, rfl⟩, ⟨rfl, rfl, rfl, rfl⟩, rfl, rfl, rfl, rfl⟩, by simp only; omega⟩
      show El _ _ _ _ (A ^ (E / 2 ^ p) % qN)
      rw [eh, show E / 2 ^ p % 2 = 1 by omega]
      exact El.of (Nat.mod_lt _ (by decide))
    · have hb : ¬ x18 = 1 := by simpa using hb
      intro x33 h33
      rw [wrap64 (by omega) (by omega)] at h33
      refine ⟨⟨p, _, _, _, _⟩, ⟨by simp only; omega, ?_⟩, ⟨by simp only; omega, ⟨rfl, rfl, rfl, rfl⟩, ⟨rfl, rfl, rfl, rfl⟩, rfl, rfl, rfl, rfl⟩, by simp only; omega⟩
      show El _ _ _ _ (A ^ (E / 2 ^ p) % qN)
      rw [eh, show E / 2 ^ p % 2 = 0 by omega]
      exact El.of (Nat.mod_lt _ (by decide))
  · simp only [decide_eq_false_iff_not] at h
    have hn0 : n = 0 := by omega
    subst hn0
    rw [Nat.pow_zero, Nat.div_one] at hz
    obtain ⟨rfl, rfl, rfl, rfl, _⟩ := hz
    rintro _ rfl _ rfl _ rfl _ rfl
    exact hK _
def rPw : R0 := fun args l =>
  match args, l with
  | [.agg [.int .u64 (.sym a0), .int .u64 (.sym a1), .int .u64 (.sym a2), .int .u64 (.sym a3)], .agg [.int .u64 (.sym b0), .int .u64 (.sym b1), .int .u64 (.sym b2), .int .u64 (.sym b3)]], [] => some (some ((Wd a0 ∧ Wd a1 ∧ Wd a2 ∧ Wd a3) ∧ (Wd b0 ∧ Wd b1 ∧ Wd b2 ∧ Wd b3)), ag4 (lm (pw qN 256 (V4 a0 a1 a2 a3).toNat (V4 b0 b1 b2 b3).toNat) 0) (lm (pw qN 256 (V4 a0 a1 a2 a3).toNat (V4 b0 b1 b2 b3).toNat) 1) (lm (pw qN 256 (V4 a0 a1 a2 a3).toNat (V4 b0 b1 b2 b3).toNat) 2) (lm (pw qN 256 (V4 a0 a1 a2 a3).toNat (V4 b0 b1 b2 b3).toNat) 3))
  | _, _ => none
theorem pwr_ok (args : List SV) (l : List (Nat × Reg)) (p : Ob) (v : SV) (h : rPw args l = some (p, v)) (hp : p.ok) : ∃ U, execF cxPw U Tryd.f80 64 args (memL l) fun v' _ => v' = v := by
  unfold rPw at h
  split at h
  · rename_i a0 a1 a2 a3 b0 b1 b2 b3
    simp only [Option.some.injEq, Prod.mk.injEq] at h
    obtain ⟨rfl, rfl⟩ := h
    have hp : (Wd a0 ∧ Wd a1 ∧ Wd a2 ∧ Wd a3) ∧ (Wd b0 ∧ Wd b1 ∧ Wd b2 ∧ Wd b3) := hp
    have A := ws_of hp.1.1 hp.1.2.1 hp.1.2.2.1 hp.1.2.2.2
    have B := ws_of hp.2.1 hp.2.2.1 hp.2.2.2.1 hp.2.2.2.2
    rw [pw_eq B.lt]
    exact ⟨_, pw_walk A B fun _ => rfl⟩
  · cases h
def cPw : Rd Tryd.prog := mkR mixed 80 Tryd.func80 (by decide) (by kernel_rfl) [] [.num, .num] rPw pwr_ok

def cxSb : Cx Tryd.prog := { rds := [cSm, cPP], efs := [], eqs := [] }
theorem vc_sb (a0 a1 a2 a3 b0 b1 b2 b3 : Int) (K : SV → Mem → Prop) : (execF cxSb u9 Tryd.f67 64 [ag4 a0 a1 a2 a3, ag4 b0 b1 b2 b3] (memL []) K) =
  ((∀ (x0 : Int), ((x0 = a0) → (∀ (x1 : Int), ((x1 = a1) → (∀ (x2 : Int), ((x2 = a2) → (∀ (x3 : Int), ((x3 = a3) → (∀ (x4 : Int), ((x4 = b0) → (∀ (x5 : Int), ((x5 = b1) → (∀ (x6 : Int), ((x6 = b2) → (∀ (x7 : Int), ((x7 = b3) → (((((Wd x0) ∧
 ((Wd x1) ∧
 ((Wd x2) ∧
 (Wd x3)))) ∧
 (((Wd x4) ∧
 ((Wd x5) ∧
 ((Wd x6) ∧
 (Wd x7)))) ∧
 ((Wd (4332616871279656263 : Int)) ∧
 ((Wd (10917124144477883021 : Int)) ∧
 ((Wd (13281191951274694749 : Int)) ∧
 (Wd (3486998266802970665 : Int))))))) ∧
 (((V4 x0 x1 x2 x3) < (21888242871839275222246405745257275088696311157297823662689037894645226208583 : Int)) ∧
 ((V4 x4 x5 x6 x7) < (21888242871839275222246405745257275088696311157297823662689037894645226208583 : Int)))) ∧
 (∀ (x8 : Int), ((x8 = (lm (Int.toNat (((V4 x0 x1 x2 x3) - (V4 x4 x5 x6 x7)) % (21888242871839275222246405745257275088696311157297823662689037894645226208583 : Int))) (0 : Nat))) → (∀ (x9 : Int), ((x9 = (lm (Int.toNat (((V4 x0 x1 x2 x3) - (V4 x4 x5 x6 x7)) % (21888242871839275222246405745257275088696311157297823662689037894645226208583 : Int))) (1 : Nat))) → (∀ (x10 : Int), ((x10 = (lm (Int.toNat (((V4 x0 x1 x2 x3) - (V4 x4 x5 x6 x7)) % (21888242871839275222246405745257275088696311157297823662689037894645226208583 : Int))) (2 : Nat))) → (∀ (x11 : Int), ((x11 = (lm (Int.toNat (((V4 x0 x1 x2 x3) - (V4 x4 x5 x6 x7)) % (21888242871839275222246405745257275088696311157297823662689037894645226208583 : Int))) (3 : Nat))) → (K (SV.agg [(SV.int IntKind.u64 (A.sym x8)), (SV.int IntKind.u64 (A.sym x9)), (SV.int IntKind.u64 (A.sym x10)), (SV.int IntKind.u64 (A.sym x11))]) (memL [((513 : Nat), (Reg.mk Bool.false (Ct.cells [(SV.int IntKind.u64 (A.sym a0)), (SV.int IntKind.u64 (A.sym a1)), (SV.int IntKind.u64 (A.sym a2)), (SV.int IntKind.u64 (A.sym a3))]))), ((521 : Nat), (Reg.mk Bool.false (Ct.cells [(SV.int IntKind.u64 (A.sym b0)), (SV.int IntKind.u64 (A.sym b1)), (SV.int IntKind.u64 (A.sym b2)), (SV.int IntKind.u64 (A.sym b3))]))), ((529 : Nat), (Reg.mk Bool.false (Ct.cells [(SV.int IntKind.u64 (A.sym x8)), (SV.int IntKind.u64 (A.sym x9)), (SV.int IntKind.u64 (A.sym x10)), (SV.int IntKind.u64 (A.sym x11))])))])))))))))))))))))))))))))))) := by kernel_rfl

theorem sub_int {A B : Nat} (hB : B < qN) : (((A : Int) - (B : Int)) % (qN : Int)).toNat = (A + (qN - B)) % qN := by
  rw [show (A : Int) - (B : Int) = ((A + (qN - B) : Nat) : Int) + (qN : Int) * (-1) by omega, Int.add_mul_emod_self_left]
  omega
def rSb : R0 := fun args l =>
  match args, l with
  | [.agg [.int .u64 (.sym a0), .int .u64 (.sym a1), .int .u64 (.sym a2), .int .u64 (.sym a3)], .agg [.int .u64 (.sym b0), .int .u64 (.sym b1), .int .u64 (.sym b2), .int .u64 (.sym b3)]], [] => some (some (((Wd a0 ∧ Wd a1 ∧ Wd a2 ∧ Wd a3) ∧ (Wd b0 ∧ Wd b1 ∧ Wd b2 ∧ Wd b3)) ∧ V4 a0 a1 a2 a3 < qN ∧ V4 b0 b1 b2 b3 < qN), ag4 (lm (((V4 a0 a1 a2 a3).toNat + (qN - (V4 b0 b1 b2 b3).toNat)) % qN) 0) (lm (((V4 a0 a1 a2 a3).toNat + (qN - (V4 b0 b1 b2 b3).toNat)) % qN) 1) (lm (((V4 a0 a1 a2 a3).toNat + (qN - (V4 b0 b1 b2 b3).toNat)) % qN) 2) (lm (((V4 a0 a1 a2 a3).toNat + (qN - (V4 b0 b1 b2 b3).toNat)) % qN) 3))
  | _, _ => none
theorem sb_ok (args : List SV) (l : List (Nat × Reg)) (p : Ob) (v : SV) (h : rSb args l = some (p, v)) (hp : p.ok) : ∃ U, execF cxSb U Tryd.f67 64 args (memL l) fun v' _ => v' = v := by
  unfold rSb at h
  split at h
  · rename_i a0 a1 a2 a3 b0 b1 b2 b3
    simp only [Option.some.injEq, Prod.mk.injEq] at h
    obtain ⟨rfl, rfl⟩ := h
    have hp : ((Wd a0 ∧ Wd a1 ∧ Wd a2 ∧ Wd a3) ∧ (Wd b0 ∧ Wd b1 ∧ Wd b2 ∧ Wd b3)) ∧ V4 a0 a1 a2 a3 < qN ∧ V4 b0 b1 b2 b3 < qN := hp
    obtain ⟨⟨ha, hb⟩, hA, hB⟩ := hp
    have A := ws_of ha.1 ha.2.1 ha.2.2.1 ha.2.2.2
    have B := ws_of hb.1 hb.2.1 hb.2.2.1 hb.2.2.2
    refine ⟨u9, ?_⟩
    have := vc_sb a0 a1 a2 a3 b0 b1 b2 b3 fun v' _ => v' = ag4 (lm (((V4 a0 a1 a2 a3).toNat + (qN - (V4 b0 b1 b2 b3).toNat)) % qN) 0) (lm (((V4 a0 a1 a2 a3).toNat + (qN - (V4 b0 b1 b2 b3).toNat)) % qN) 1) (lm (((V4 a0 a1 a2 a3).toNat + (qN - (V4 b0 b1 b2 b3).toNat)) % qN) 2) (lm (((V4 a0 a1 a2 a3).toNat + (qN - (V4 b0 b1 b2 b3).toNat)) % qN) 3)
    unfold ag4 at this
    refine this.mpr ?_
    clear this
    intro s1_0 ks1_0 s1_1 ks1_1 s1_2 ks1_2 s1_3 ks1_3 s1_4 ks1_4 s1_5 ks1_5 s1_6 ks1_6 s1_7 ks1_7; subst s1_0 s1_1 s1_2 s1_3 s1_4 s1_5 s1_6 s1_7
    refine ⟨⟨⟨ha, hb, wdq0, wdq1, wdq2, wdq3⟩, hA, hB⟩, ?_⟩
    have e := sub_int (A := (V4 a0 a1 a2 a3).toNat) (B := (V4 b0 b1 b2 b3).toNat) (by have := Ws.val B; omega)
    rw [← Ws.val A, ← Ws.val B] at e
    rw [show (((V4 a0 a1 a2 a3) - (V4 b0 b1 b2 b3)) % 21888242871839275222246405745257275088696311157297823662689037894645226208583).toNat = _ from e]
    rintro _ rfl _ rfl _ rfl _ rfl
    rfl
  · cases h
def cSb : Rd Tryd.prog := mkR mixed 67 Tryd.func67 (by decide) (by kernel_rfl) [] [.num, .num] rSb sb_ok

def cxHd : Cx Tryd.prog := { rds := [cWs], efs := [], eqs := [] }
theorem vc_hd (a0 a1 a2 a3 b0 b1 b2 b3 : Int) (K : SV → Mem → Prop) : (execF cxHd u9 Tryd.f69 64 [ag4 a0 a1 a2 a3, ag4 b0 b1 b2 b3] (memL []) K) =
  ((∀ (x0 : Int), ((x0 = (Int.tmod a0 (2 : Int))) → ((((x0 == (1 : Int)) = Bool.true) → (∀ (x1 : Int), ((x1 = a0) → (∀ (x2 : Int), ((x2 = a1) → (∀ (x3 : Int), ((x3 = a2) → (∀ (x4 : Int), ((x4 = a3) → (∀ (x5 : Int), ((x5 = b0) → (∀ (x6 : Int), ((x6 = b1) → (∀ (x7 : Int), ((x7 = b2) → (∀ (x8 : Int), ((x8 = b3) → ((((Wd x1) ∧
 ((Wd x2) ∧
 ((Wd x3) ∧
 (Wd x4)))) ∧
 ((Wd x5) ∧
 ((Wd x6) ∧
 ((Wd x7) ∧
 (Wd x8))))) ∧
 (∀ (x9 : Int), ((x9 = (shrv IntKind.u64 (lm (w256 ((V4 x1 x2 x3 x4) + (V4 x5 x6 x7 x8))) (0 : Nat)) (1 : Nat))) → (∀ (x10 : Int), ((x10 = (shlv IntKind.u64 (lm (w256 ((V4 x1 x2 x3 x4) + (V4 x5 x6 x7 x8))) (1 : Nat)) (63 : Nat))) → (∀ (x11 : Int), ((x11 = (IntKind.wrap IntKind.u64 (x9 + x10))) → (∀ (x12 : Int), ((x12 = (shrv IntKind.u64 (lm (w256 ((V4 x1 x2 x3 x4) + (V4 x5 x6 x7 x8))) (1 : Nat)) (1 : Nat))) → (∀ (x13 : Int), ((x13 = (shlv IntKind.u64 (lm (w256 ((V4 x1 x2 x3 x4) + (V4 x5 x6 x7 x8))) (2 : Nat)) (63 : Nat))) → (∀ (x14 : Int), ((x14 = (IntKind.wrap IntKind.u64 (x12 + x13))) → (∀ (x15 : Int), ((x15 = (shrv IntKind.u64 (lm (w256 ((V4 x1 x2 x3 x4) + (V4 x5 x6 x7 x8))) (2 : Nat)) (1 : Nat))) → (∀ (x16 : Int), ((x16 = (shlv IntKind.u64 (lm (w256 ((V4 x1 x2 x3 x4) + (V4 x5 x6 x7 x8))) (3 : Nat)) (63 : Nat))) → (∀ (x17 : Int), ((x17 = (IntKind.wrap IntKind.u64 (x15 + x16))) → (∀ (x18 : Int), ((x18 = (shrv IntKind.u64 (lm (w256 ((V4 x1 x2 x3 x4) + (V4 x5 x6 x7 x8))) (3 : Nat)) (1 : Nat))) → ((((decide ((115792089237316195423570985008687907853269984665640564039457584007913129639936 : Int) ≤ ((V4 x1 x2 x3 x4) + (V4 x5 x6 x7 x8)))) = Bool.true) → (∀ (x19 : Int), ((x19 = (IntKind.wrap IntKind.u64 (x18 + (9223372036854775808 : Int)))) → (∀ (x20 : Int), ((x20 = x11) → (∀ (x21 : Int), ((x21 = x14) → (∀ (x22 : Int), ((x22 = x17) → (∀ (x23 : Int), ((x23 = x19) → (K (SV.agg [(SV.int IntKind.u64 (A.sym x20)), (SV.int IntKind.u64 (A.sym x21)), (SV.int IntKind.u64 (A.sym x22)), (SV.int IntKind.u64 (A.sym x23))]) (memL [((513 : Nat), (Reg.mk Bool.false (Ct.cells [(SV.int IntKind.u64 (A.sym x11)), (SV.int IntKind.u64 (A.sym x14)), (SV.int IntKind.u64 (A.sym x17)), (SV.int IntKind.u64 (A.sym x19))]))), ((521 : Nat), (Reg.mk Bool.false (Ct.cells [(SV.int IntKind.u64 (A.sym b0)), (SV.int IntKind.u64 (A.sym b1)), (SV.int IntKind.u64 (A.sym b2)), (SV.int IntKind.u64 (A.sym b3))]))), ((529 : Nat), (Reg.mk Bool.false (Ct.cells [(SV.int IntKind.u64 (A.sym x20)), (SV.int IntKind.u64 (A.sym x21)), (SV.int IntKind.u64 (A.sym x22)), (SV.int IntKind.u64 (A.sym x23))])))]))))))))))))) ∧
 (((decide ((115792089237316195423570985008687907853269984665640564039457584007913129639936 : Int) ≤ ((V4 x1 x2 x3 x4) + (V4 x5 x6 x7 x8)))) = Bool.false) → (∀ (x24 : Int), ((x24 = x11) → (∀ (x25 : Int), ((x25 = x14) → (∀ (x26 : Int), ((x26 = x17) → (∀ (x27 : Int), ((x27 = x18) → (K (SV.agg [(SV.int IntKind.u64 (A.sym x24)), (SV.int IntKind.u64 (A.sym x25)), (SV.int IntKind.u64 (A.sym x26)), (SV.int IntKind.u64 (A.sym x27))]) (memL [((513 : Nat), (Reg.mk Bool.false (Ct.cells [(SV.int IntKind.u64 (A.sym x11)), (SV.int IntKind.u64 (A.sym x14)), (SV.int IntKind.u64 (A.sym x17)), (SV.int IntKind.u64 (A.sym x18))]))), ((521 : Nat), (Reg.mk Bool.false (Ct.cells [(SV.int IntKind.u64 (A.sym b0)), (SV.int IntKind.u64 (A.sym b1)), (SV.int IntKind.u64 (A.sym b2)), (SV.int IntKind.u64 (A.sym b3))]))), ((529 : Nat), (Reg.mk Bool.false (Ct.cells [(SV.int IntKind.u64 (A.sym x24)), (SV.int IntKind.u64 (A.sym x25)), (SV.int IntKind.u64 (A.sym x26)), (SV.int IntKind.u64 (A.sym x27))])))])))))))))))))))))))))))))))))))))))))))))))))))))) ∧
 (((x0 == (1 : Int)) = Bool.false) → (∀ (x28 : Int), ((x28 = (shrv IntKind.u64 a0 (1 : Nat))) → (∀ (x29 : Int), ((x29 = (shlv IntKind.u64 a1 (63 : Nat))) → (∀ (x30 : Int), ((x30 = (IntKind.wrap IntKind.u64 (x28 + x29))) → (∀ (x31 : Int), ((x31 = (shrv IntKind.u64 a1 (1 : Nat))) → (∀ (x32 : Int), ((x32 = (shlv IntKind.u64 a2 (63 : Nat))) → (∀ (x33 : Int), ((x33 = (IntKind.wrap IntKind.u64 (x31 + x32))) → (∀ (x34 : Int), ((x34 = (shrv IntKind.u64 a2 (1 : Nat))) → (∀ (x35 : Int), ((x35 = (shlv IntKind.u64 a3 (63 : Nat))) → (∀ (x36 : Int), ((x36 = (IntKind.wrap IntKind.u64 (x34 + x35))) → (∀ (x37 : Int), ((x37 = (shrv IntKind.u64 a3 (1 : Nat))) → (∀ (x38 : Int), ((x38 = x30) → (∀ (x39 : Int), ((x39 = x33) → (∀ (x40 : Int), ((x40 = x36) → (∀ (x41 : Int), ((x41 = x37) → (K (SV.agg [(SV.int IntKind.u64 (A.sym x38)), (SV.int IntKind.u64 (A.sym x39)), (SV.int IntKind.u64 (A.sym x40)), (SV.int IntKind.u64 (A.sym x41))]) (memL [((513 : Nat), (Reg.mk Bool.false (Ct.cells [(SV.int IntKind.u64 (A.sym x30)), (SV.int IntKind.u64 (A.sym x33)), (SV.int IntKind.u64 (A.sym x36)), (SV.int IntKind.u64 (A.sym x37))]))), ((521 : Nat), (Reg.mk Bool.false (Ct.cells [(SV.int IntKind.u64 (A.sym b0)), (SV.int IntKind.u64 (A.sym b1)), (SV.int IntKind.u64 (A.sym b2)), (SV.int IntKind.u64 (A.sym b3))]))), ((529 : Nat), (Reg.mk Bool.false (Ct.cells [(SV.int IntKind.u64 (A.sym x38)), (SV.int IntKind.u64 (A.sym x39)), (SV.int IntKind.u64 (A.sym x40)), (SV.int IntKind.u64 (A.sym x41))])))]))))))))))))))))))))))))))))))))))) := by kernel_rfl

def hvm (a m : Nat) : Nat := if a % 2 = 1 then (a + m) / 2 else a / 2
theorem sr1 {z : Int} (hz : Wd z) : shrv .u64 z 1 = z / 2 := by rw [shr64 hz.1 (by omega)]; rfl
theorem sl63 (z : Int) : shlv .u64 z 63 = z * 9223372036854775808 % 18446744073709551616 := by
  unfold shlv
  rw [wu64, show min 63 IntKind.u64.bits = 63 by simp [IntKind.bits]]
  rfl
theorem w256_int {x : Int} : ((w256 x : Nat) : Int) = x % 115792089237316195423570985008687907853269984665640564039457584007913129639936 := by unfold w256; omega
/-- The words of a half. -/
theorem hv_words {a0 a1 a2 a3 y0 y1 y2 y3 y4 y5 y6 y7 y8 y9 : Int} (h0 : Wd a0) (h1 : Wd a1) (h2 : Wd a2) (h3 : Wd a3) (g0 : y0 = shrv .u64 a0 1) (g1 : y1 = shlv .u64 a1 63) (g2 : y2 = IntKind.u64.wrap (y0 + y1))
    (g3 : y3 = shrv .u64 a1 1) (g4 : y4 = shlv .u64 a2 63) (g5 : y5 = IntKind.u64.wrap (y3 + y4)) (g6 : y6 = shrv .u64 a2 1) (g7 : y7 = shlv .u64 a3 63) (g8 : y8 = IntKind.u64.wrap (y6 + y7)) (g9 : y9 = shrv .u64 a3 1) :
    (Wd y2 ∧ Wd y5 ∧ Wd y8 ∧ 0 ≤ y9 ∧ y9 < 9223372036854775808) ∧ V4 y2 y5 y8 y9 = V4 a0 a1 a2 a3 / 2 := by
  rw [sr1 h0] at g0
  rw [sr1 h1] at g3
  rw [sr1 h2] at g6
  rw [sr1 h3] at g9
  rw [sl63] at g1 g4 g7
  rw [wu64] at g2 g5 g8
  unfold Wd V4 at *
  omega
def rHd : R0 := fun args l =>
  match args, l with
  | [.agg [.int .u64 (.sym a0), .int .u64 (.sym a1), .int .u64 (.sym a2), .int .u64 (.sym a3)], .agg [.int .u64 (.sym b0), .int .u64 (.sym b1), .int .u64 (.sym b2), .int .u64 (.sym b3)]], [] => some (some ((Wd a0 ∧ Wd a1 ∧ Wd a2 ∧ Wd a3) ∧ (Wd b0 ∧ Wd b1 ∧ Wd b2 ∧ Wd b3)), ag4 (lm (hvm (V4 a0 a1 a2 a3).toNat (V4 b0 b1 b2 b3).toNat) 0) (lm (hvm (V4 a0 a1 a2 a3).toNat (V4 b0 b1 b2 b3).toNat) 1) (lm (hvm (V4 a0 a1 a2 a3).toNat (V4 b0 b1 b2 b3).toNat) 2) (lm (hvm (V4 a0 a1 a2 a3).toNat (V4 b0 b1 b2 b3).toNat) 3))
  | _, _ => none
theorem hd_ok (args : List SV) (l : List (Nat × Reg)) (p : Ob) (v : SV) (h : rHd args l = some (p, v)) (hp : p.ok) : ∃ U, execF cxHd U Tryd.f69 64 args (memL l) fun v' _ => v' = v := by
  unfold rHd at h
  split at h
  · rename_i a0 a1 a2 a3 b0 b1 b2 b3
    simp only [Option.some.injEq, Prod.mk.injEq] at h
    obtain ⟨rfl, rfl⟩ := h
    have hp : (Wd a0 ∧ Wd a1 ∧ Wd a2 ∧ Wd a3) ∧ (Wd b0 ∧ Wd b1 ∧ Wd b2 ∧ Wd b3) := hp
    obtain ⟨ha, hb⟩ := hp
    have A := ws_of ha.1 ha.2.1 ha.2.2.1 ha.2.2.2
    have B := ws_of hb.1 hb.2.1 hb.2.2.1 hb.2.2.2
    refine ⟨u9, ?_⟩
    have := vc_hd a0 a1 a2 a3 b0 b1 b2 b3 fun v' _ => v' = ag4 (lm (hvm (V4 a0 a1 a2 a3).toNat (V4 b0 b1 b2 b3).toNat) 0) (lm (hvm (V4 a0 a1 a2 a3).toNat (V4 b0 b1 b2 b3).toNat) 1) (lm (hvm (V4 a0 a1 a2 a3).toNat (V4 b0 b1 b2 b3).toNat) 2) (lm (hvm (V4 a0 a1 a2 a3).toNat (V4 b0 b1 b2 b3).toNat) 3)
    unfold ag4 at this
    refine this.mpr ?_
    clear this
    have nA := V4_nonneg ha.1 ha.2.1 ha.2.2.1 ha.2.2.2
    have nB := V4_nonneg hb.1 hb.2.1 hb.2.2.1 hb.2.2.2
    have lA := V4_lt ha.1 ha.2.1 ha.2.2.1 ha.2.2.2
    have lB := V4_lt hb.1 hb.2.1 hb.2.2.1 hb.2.2.2
    intro x0 h0
    rw [Int.tmod_eq_emod_of_nonneg ha.1.1] at h0
    have par : x0 = (V4 a0 a1 a2 a3).toNat % 2 := by unfold V4 at nA ⊢; omega
    refine ⟨fun hc => ?_, fun hc => ?_⟩
    · have hc : x0 = 1 := by simpa using hc
      intro s2_0 ks2_0 s2_1 ks2_1 s2_2 ks2_2 s2_3 ks2_3 s2_4 ks2_4 s2_5 ks2_5 s2_6 ks2_6 s2_7 ks2_7; subst s2_0 s2_1 s2_2 s2_3 s2_4 s2_5 s2_6 s2_7
      refine ⟨⟨ha, hb⟩, ?_⟩
      have W := lm_wd (w256 (V4 a0 a1 a2 a3 + V4 b0 b1 b2 b3))
      have eS := lm_val (x := w256 (V4 a0 a1 a2 a3 + V4 b0 b1 b2 b3)) (w256_lt _)
      generalize hS : w256 (V4 a0 a1 a2 a3 + V4 b0 b1 b2 b3) = S at W eS ⊢
      have hS' : (S : Int) = (V4 a0 a1 a2 a3 + V4 b0 b1 b2 b3) % 115792089237316195423570985008687907853269984665640564039457584007913129639936 := by rw [← hS]; exact w256_int
      intro x9 h9 x10 h10 x11 h11 x12 h12 x13 h13 x14 h14 x15 h15 x16 h16 x17 h17 x18 h18
      obtain ⟨w, e⟩ := hv_words (W 0) (W 1) (W 2) (W 3) h9 h10 h11 h12 h13 h14 h15 h16 h17 h18
      rw [eS] at e
      refine ⟨fun hd => ?_, fun hd => ?_⟩
      · have hd := of_decide_eq_true hd
        intro x19 h19
        rw [wu64] at h19
        intro y0 k0 y1 k1 y2 k2 y3 k3
        obtain ⟨q0, q1, q2, q3⟩ := lm_of w.1 w.2.1 w.2.2.1 (d := x19) (by unfold Wd; omega) (x := hvm (V4 a0 a1 a2 a3).toNat (V4 b0 b1 b2 b3).toNat) (by rw [show V4 x11 x14 x17 x19 = V4 x11 x14 x17 x18 + 57896044618658097711785492504343953926634992332820282019728792003956564819968 by unfold V4; omega, e]; unfold hvm; rw [if_pos (by omega)]; omega)
        rw [k0, k1, k2, k3, ← q0, ← q1, ← q2, ← q3]
      · have hd := of_decide_eq_false hd
        intro y0 k0 y1 k1 y2 k2 y3 k3
        obtain ⟨q0, q1, q2, q3⟩ := lm_of w.1 w.2.1 w.2.2.1 (d := x18) (by unfold Wd; omega) (x := hvm (V4 a0 a1 a2 a3).toNat (V4 b0 b1 b2 b3).toNat) (by rw [e]; unfold hvm; rw [if_pos (by omega)]; omega)
        rw [k0, k1, k2, k3, ← q0, ← q1, ← q2, ← q3]
    · have hc : ¬ x0 = 1 := by simpa using hc
      intro x28 h28 x29 h29 x30 h30 x31 h31 x32 h32 x33 h33 x34 h34 x35 h35 x36 h36 x37 h37
      obtain ⟨w, e⟩ := hv_words ha.1 ha.2.1 ha.2.2.1 ha.2.2.2 h28 h29 h30 h31 h32 h33 h34 h35 h36 h37
      intro y0 k0 y1 k1 y2 k2 y3 k3
      obtain ⟨q0, q1, q2, q3⟩ := lm_of w.1 w.2.1 w.2.2.1 (d := x37) (by unfold Wd; omega) (x := hvm (V4 a0 a1 a2 a3).toNat (V4 b0 b1 b2 b3).toNat) (by rw [e]; unfold hvm; rw [if_neg (by omega)]; omega)
      rw [k0, k1, k2, k3, ← q0, ← q1, ← q2, ← q3]
  · cases h
def cHd : Rd Tryd.prog := mkR mixed 69 Tryd.func69 (by decide) (by kernel_rfl) [] [.num, .num] rHd hd_ok

end Go.Sx

/- '==' of two rows of four words, and of two points or numbers of E2. -/
namespace Go.Sx
open Go Go.Proofs
set_option maxRecDepth 100000
theorem run_eq23 (n : Nat) (a b c d a' b' c' d' : Int) (w : World) : (Op.equalIn (n + 2) 23 (.agg #[.int .u64 a, .int .u64 b, .int .u64 c, .int .u64 d]) (.agg #[.int .u64 a', .int .u64 b', .int .u64 c', .int .u64 d'])).run Tryd.prog w =
    .ok (a == a' && b == b' && c == c' && d == d') w := by
  have u3 := Tryd.underlying22
  have a3 := Tryd.isAgg22
  have z3 := Tryd.sizeOf22
  rw [show n + 2 = n + 1 + 1 from rfl, Op.equalIn]
  simp only [Sem.run_bind, run_underlying Tryd.underlying23, Result.andThen_ok]
  simp only [Std.Legacy.Range.forIn_eq_forIn_range', Std.Legacy.Range.size, Nat.sub_zero, Nat.add_sub_cancel, Nat.div_one, List.range'_succ, List.range'_zero, List.forIn_cons, List.forIn_nil]
  go_simp
  by_cases h1 : a = a' <;> by_cases h2 : b = b' <;> by_cases h3 : c = c' <;> by_cases h4 : d = d' <;> simp [h1, h2, h3, h4]
theorem run_eq23' (a b c d a' b' c' d' : Int) (w : World) : (Op.equal 23 (.agg #[.int .u64 a, .int .u64 b, .int .u64 c, .int .u64 d]) (.agg #[.int .u64 a', .int .u64 b', .int .u64 c', .int .u64 d'])).run Tryd.prog w =
    .ok (a == a' && b == b' && c == c' && d == d') w := run_eq23 9998 a b c d a' b' c' d' w
def eq23 : Eqs Tryd.prog where
  t := 23
  n := 4
  guard := by kernel_rfl
  sound := fun xs ys w hx hy => by
    match xs, ys, hx, hy with
    | [a, b, c, d], [a', b', c', d'], _, _ =>
      have := run_eq23' a b c d a' b' c' d' w
      refine this.trans ?_
      congr 1
      by_cases h1 : a = a' <;> by_cases h2 : b = b' <;> by_cases h3 : c = c' <;> by_cases h4 : d = d' <;> simp [h1, h2, h3, h4]
theorem run_eq27 (a b c d e f g h a' b' c' d' e' f' g' h' : Int) (w : World) : (Op.equal 27 (.agg #[.int .u64 a, .int .u64 b, .int .u64 c, .int .u64 d, .int .u64 e, .int .u64 f, .int .u64 g, .int .u64 h]) (.agg #[.int .u64 a', .int .u64 b', .int .u64 c', .int .u64 d', .int .u64 e', .int .u64 f', .int .u64 g', .int .u64 h'])).run Tryd.prog w =
    .ok ((a == a' && b == b' && c == c' && d == d') && (e == e' && f == f' && g == g' && h == h')) w := by
  have z4 := Tryd.sizeOf23
  have a4 := Tryd.isAgg23
  unfold Op.equal Op.maxDepth
  rw [show (10000 : Nat) = 9999 + 1 from rfl, run_equalIn_struct w 9999 27 _ _ (by kernel_rfl) (by kernel_rfl)]
  rw [show (Program.fieldsOf Tryd.prog 27).toList = [⟨ "X", 23, 0, false, "", "", 0⟩, ⟨ "Y", 23, 4, false, "", "", 32⟩] by kernel_rfl]
  simp only [Op.eqFields]
  go_simp
  rw [show (9999 : Nat) = 9997 + 2 from rfl, run_eq23]
  have e2 := run_eq23 9997 e f g h e' f' g' h' w
  rw [show (9997 : Nat) + 2 = 9999 from rfl] at e2
  simp only [Result.andThen_ok]
  by_cases h1 : a = a' <;> by_cases h2 : b = b' <;> by_cases h3 : c = c' <;> by_cases h4 : d = d' <;> simp [h1, h2, h3, h4, e2]
  by_cases h5 : e = e' <;> by_cases h6 : f = f' <;> by_cases h7 : g = g' <;> by_cases h8 : h = h' <;> simp [h5, h6, h7, h8]
def eq27 : Eqs Tryd.prog where
  t := 27
  n := 8
  guard := by kernel_rfl
  sound := fun xs ys w hx hy => by
    match xs, ys, hx, hy with
    | [a, b, c, d, e, f, g, h], [a', b', c', d', e', f', g', h'], _, _ =>
      have := run_eq27 a b c d e f g h a' b' c' d' e' f' g' h' w
      refine this.trans ?_
      congr 1
      simp only [List.cons.injEq, and_true]
      by_cases h1 : a = a' <;> by_cases h2 : b = b' <;> by_cases h3 : c = c' <;> by_cases h4 : d = d' <;> by_cases h5 : e = e' <;> by_cases h6 : f = f' <;> by_cases h7 : g = g' <;> by_cases h8 : h = h' <;> simp [h1, h2, h3, h4, h5, h6, h7, h8]
theorem run_eq43 (a b c d e f g h a' b' c' d' e' f' g' h' : Int) (w : World) : (Op.equal 43 (.agg #[.int .u64 a, .int .u64 b, .int .u64 c, .int .u64 d, .int .u64 e, .int .u64 f, .int .u64 g, .int .u64 h]) (.agg #[.int .u64 a', .int .u64 b', .int .u64 c', .int .u64 d', .int .u64 e', .int .u64 f', .int .u64 g', .int .u64 h'])).run Tryd.prog w =
    .ok ((a == a' && b == b' && c == c' && d == d') && (e == e' && f == f' && g == g' && h == h')) w := by
  have z4 := Tryd.sizeOf23
  have a4 := Tryd.isAgg23
  unfold Op.equal Op.maxDepth
  rw [show (10000 : Nat) = 9999 + 1 from rfl, run_equalIn_struct w 9999 43 _ _ (by kernel_rfl) (by kernel_rfl)]
  rw [show (Program.fieldsOf Tryd.prog 43).toList = [⟨ "A0", 23, 0, false, "", "", 0⟩, ⟨ "A1", 23, 4, false, "", "", 32⟩] by kernel_rfl]
  simp only [Op.eqFields]
  go_simp
  rw [show (9999 : Nat) = 9997 + 2 from rfl, run_eq23]
  have e2 := run_eq23 9997 e f g h e' f' g' h' w
  rw [show (9997 : Nat) + 2 = 9999 from rfl] at e2
  simp only [Result.andThen_ok]
  by_cases h1 : a = a' <;> by_cases h2 : b = b' <;> by_cases h3 : c = c' <;> by_cases h4 : d = d' <;> simp [h1, h2, h3, h4, e2]
  by_cases h5 : e = e' <;> by_cases h6 : f = f' <;> by_cases h7 : g = g' <;> by_cases h8 : h = h' <;> simp [h5, h6, h7, h8]
def eq43 : Eqs Tryd.prog where
  t := 43
  n := 8
  guard := by kernel_rfl
  sound := fun xs ys w hx hy => by
    match xs, ys, hx, hy with
    | [a, b, c, d, e, f, g, h], [a', b', c', d', e', f', g', h'], _, _ =>
      have := run_eq43 a b c d e f g h a' b' c' d' e' f' g' h' w
      refine this.trans ?_
      congr 1
      simp only [List.cons.injEq, and_true]
      by_cases h1 : a = a' <;> by_cases h2 : b = b' <;> by_cases h3 : c = c' <;> by_cases h4 : d = d' <;> by_cases h5 : e = e' <;> by_cases h6 : f = f' <;> by_cases h7 : g = g' <;> by_cases h8 : h = h' <;> simp [h1, h2, h3, h4, h5, h6, h7, h8]
end Go.Sx

/- The loops of spec.InvMod. -/
namespace Go.Sx
open Go Go.Proofs Go.Num
set_option maxRecDepth 100000
/-- The number of four words in a region. -/
def St.v4 (st : St) (r : Nat) : Int :=
  match st.m.get r with
  | some ⟨_, .cells [.int _ a, .int _ b, .int _ c, .int _ d]⟩ => V4 a.val b.val c.val d.val
  | some ⟨_, .ints _ [a, b, c, d]⟩ => V4 a b c d
  | _ => 0
structure ImI where
  u0 : Int
  u1 : Int
  u2 : Int
  u3 : Int
  v0 : Int
  v1 : Int
  v2 : Int
  v3 : Int
  x0 : Int
  x1 : Int
  x2 : Int
  x3 : Int
  y0 : Int
  y1 : Int
  y2 : Int
  y3 : Int
structure InI where
  u0 : Int
  u1 : Int
  u2 : Int
  u3 : Int
  x0 : Int
  x1 : Int
  x2 : Int
  x3 : Int
def liIm (S : ImI → Prop) : LI where
  ι := ImI
  keep := [2, 3, 4, 5, 6, 7, 8]
  keepR := [513, 521, 529]
  F := fun i => ⟨[], [(569, ⟨false, w4 i.u0 i.u1 i.u2 i.u3⟩), (577, ⟨false, w4 i.v0 i.v1 i.v2 i.v3⟩), (585, ⟨false, w4 i.x0 i.x1 i.x2 i.x3⟩), (593, ⟨false, w4 i.y0 i.y1 i.y2 i.y3⟩)]⟩
  I := fun _ i => S i
  μ := fun i => (V4 i.u0 i.u1 i.u2 i.u3 + V4 i.v0 i.v1 i.v2 i.v3).toNat
def liI1 (T : Int → Int → InI → Prop) : LI where
  ι := InI
  keep := [2, 3, 4, 5, 6, 7, 8]
  keepR := [513, 521, 529, 577, 593]
  F := fun i => ⟨[], [(569, ⟨false, w4 i.u0 i.u1 i.u2 i.u3⟩), (585, ⟨false, w4 i.x0 i.x1 i.x2 i.x3⟩)]⟩
  I := fun st i => T (st.v4 569) (st.v4 577) i
  μ := fun i => (V4 i.u0 i.u1 i.u2 i.u3).toNat
def liI2 (T : Int → Int → InI → Prop) : LI where
  ι := InI
  keep := [2, 3, 4, 5, 6, 7, 8]
  keepR := [513, 521, 529, 569, 585]
  F := fun i => ⟨[], [(577, ⟨false, w4 i.u0 i.u1 i.u2 i.u3⟩), (593, ⟨false, w4 i.x0 i.x1 i.x2 i.x3⟩)]⟩
  I := fun st i => T (st.v4 569) (st.v4 577) i
  μ := fun i => (V4 i.u0 i.u1 i.u2 i.u3).toNat
def uIm (S : ImI → Prop) (T R : Int → Int → InI → Prop) : Nat → Lp := fun n =>
  match n with
  | 0 => .inv (liIm S)
  | 2 => .inv (liI1 T)
  | 4 => .inv (liI2 R)
  | _ => .un 0
def cxIm : Cx Tryd.prog := { rds := [cHv, cHd, cLs, cWd, cSm], efs := [], eqs := [eq23] }
end Go.Sx

/- The map of Shallue and van de Woestijne with j = 0, Z = 1: the ring identity. -/
namespace Go.Num
theorem sv1 {n : Nat} [NeZero n] (c w : Fin n) : (c - w) * (c + w) = c * c - w * w := by grobner
theorem sv2 {n : Nat} [NeZero n] (t : Fin n) : (1 + t) * (1 + t) = (1 - t) * (1 - t) + 4 * t := by grobner
theorem sv3 {n : Nat} [NeZero n] {u M D c3 : Fin n} (h3 : c3 * c3 = -12) : 16 * (u * M * D * c3 * (u * M * D * c3)) = -48 * (u * u * 4 * (D * M * (D * M))) := by
  rw [show u * M * D * c3 * (u * M * D * c3) = u * u * (D * M * (D * M)) * (c3 * c3) by grobner, h3]
  grobner
theorem sv4 {n : Nat} [NeZero n] {t M N D : Fin n} (hD : D * (M * N) = 1) (h : N * N = M * M + 4 * t) : 4 * (t * (D * M * (D * M))) = 1 - M * M * (M * M) * D * D := by
  have e : 4 * t = N * N - M * M := by rw [h]; grobner
  rw [show 4 * (t * (D * M * (D * M))) = 4 * t * (D * M * (D * M)) by grobner, e, show (N * N - M * M) * (D * M * (D * M)) = D * (M * N) * (D * (M * N)) - M * M * (M * M) * D * D by grobner, hD]
  grobner
theorem sv5 {n : Nat} [NeZero n] {M D c3 : Fin n} (h3 : c3 * c3 = -12) : c3 * M * M * D * (c3 * M * M * D) = -12 * (M * M * (M * M) * D * D) := by
  rw [show c3 * M * M * D * (c3 * M * M * D) = c3 * c3 * (M * M * (M * M) * D * D) by grobner, h3]
theorem svdw_p {n : Nat} [NeZero n] {u t N M D c2 c3 w x1 x2 : Fin n} (ht : t = u * u * 4) (hN : N = 1 + t) (hM : M = 1 - t) (hD : D * (M * N) = 1) (h2 : 4 * (c2 * c2) = 1) (h3 : c3 * c3 = -12)
    (hw : w = u * M * D * c3) (e1 : x1 = c2 - w) (e2 : x2 = c2 + w) : 16 * (x1 * x2 - 1) = c3 * M * M * D * (c3 * M * M * D) := by
  have a := sv1 c2 w
  have b : N * N = M * M + 4 * t := by rw [hN, hM]; exact sv2 t
  have c := sv3 (u := u) (M := M) (D := D) h3
  have d := sv4 hD b
  have f := sv5 (M := M) (D := D) h3
  rw [e1, e2, a, f]
  rw [← hw, ← ht] at c
  generalize M * M * (M * M) * D * D = Y at *
  generalize t * (D * M * (D * M)) = Z at *
  generalize c2 * c2 = C at *
  generalize w * w = W at *
  clear a b ht hN hM hD e1 e2 f hw
  grobner
theorem svdw_e {n : Nat} [NeZero n] {N M D c3 c4 p v x3 : Fin n} (hD : D * (M * N) = 1) (h3 : c3 * c3 = -12) (h4 : 3 * c4 = -16)
    (hp : 16 * p = c3 * M * M * D * (c3 * M * M * D)) (hv : v = N * N * D) (e3 : x3 = v * v * c4 + 1) : 16 * p * (x3 - 1) = 64 := by
  rw [hp, sv5 h3, e3, hv]
  rw [show -12 * (M * M * (M * M) * D * D) * (N * N * D * (N * N * D) * c4 + 1 - 1) = -4 * (3 * c4) * (D * (M * N)) * (D * (M * N)) * (D * (M * N)) * (D * (M * N)) by grobner, hD, h4]
  grobner
theorem svdw_g {n : Nat} [NeZero n] {p x1 x2 x3 e : Fin n} (hs : x1 + x2 = -1) (hp : p = x1 * x2 - 1) (he : p * e = 4) (h3 : x3 = 1 + e) :
    p * p * p * (x3 * x3 * x3 + 3) = 4 * ((x1 * x1 * x1 + 3) * (x2 * x2 * x2 + 3)) := by
  grobner
end Go.Num

/- The map of Shallue and van de Woestijne to y y = x x x + 3, by numbers below the prime: one of its three numbers has a square right side. -/
namespace Go.Sx
open Go Go.Num
/-- 1 / a modulo the prime; 0 of 0. -/
def inv0 (a : Nat) : Nat := pw qN 256 a (qN - 2)
theorem priN : Pri qN := pri_q
theorem inv0_eq (a : Nat) : inv0 a = a ^ (qN - 2) % qN := pw_eq (by decide)
theorem inv0_lt (a : Nat) : inv0 a < qN := by rw [inv0_eq]; exact Nat.mod_lt _ (by decide)
theorem inv0_zero : inv0 0 = 0 := by rw [inv0_eq, Nat.zero_pow (by decide)]; rfl
theorem inv0_mul {a : Nat} (h : a % qN ≠ 0) : inv0 a * a % qN = 1 := by
  rw [inv0_eq, Nat.mod_mul_mod, ← Nat.pow_succ, show (qN - 2).succ = qN - 1 by decide]
  exact fermat priN h
theorem inv0_unique {a x : Nat} (hx : x < qN) (h : x * a % qN = 1) : x = inv0 a := by
  have ha : a % qN ≠ 0 := by
    intro e
    rw [Nat.mul_mod, e, Nat.mul_zero] at h
    exact absurd h (by decide)
  have e := inv0_mul ha
  have e1 : x * a % qN * inv0 a % qN = inv0 a := by rw [h, Nat.one_mul, Nat.mod_eq_of_lt (inv0_lt a)]
  rw [Nat.mod_mul_mod, Nat.mul_assoc, Nat.mul_comm a, Nat.mul_mod, e, Nat.mul_one, Nat.mod_mod, Nat.mod_eq_of_lt hx] at e1
  exact e1
/-- A square root, where there is one. -/
def e4N : Nat := 5472060717959818805561601436314318772174077789324455915672259473661306552146
def rtN (a : Nat) : Nat := pw qN 256 a e4N
theorem rtN_eq (a : Nat) : rtN a = a ^ e4N % qN := pw_eq (by decide)
theorem rtN_lt (a : Nat) : rtN a < qN := by rw [rtN_eq]; exact Nat.mod_lt _ (by decide)
theorem rt_gen {a k h : Nat} (e : k + k = h + 1) : a ^ k % qN * (a ^ k % qN) % qN = a ^ h % qN * a % qN := by
  rw [← Nat.mul_mod, ← Nat.pow_add, Nat.mod_mul_mod, ← Nat.pow_succ, e]
def ppN (a : Nat) : Nat := a ^ (qN / 2) % qN
theorem rtN_sq (a : Nat) : rtN a * rtN a % qN = ppN a * a % qN := by
  rw [rtN_eq]
  exact rt_gen (by decide)
theorem qN_odd : qN % 2 = 1 := by decide
theorem eulerN {a : Nat} (h : a % qN ≠ 0) : (J a qN = 1 ∧ ppN a = 1) ∨ (J a qN = -1 ∧ ppN a = qN - 1) := euler_mod priN qN_odd h
/-- The symbol of a number below the prime. -/
def lgN (z : Nat) : Int := if z = 0 then 0 else J z qN
/-- A number is a square. -/
def sqN (a : Nat) : Bool := decide (rtN a * rtN a % qN = a)
theorem neg_aux {q a z : Nat} (h : a < q) (h0 : a ≠ 0) (ho : q % 2 = 1) (e : z + a = q * a) : z % q ≠ a := by
  intro e1
  have h2 : z = q * (z / q) + a := by have := Nat.div_add_mod z q; omega
  have h3 : a + a = q * (a - z / q) := by
    rw [Nat.mul_sub]; omega
  have h4 : q ∣ 2 * a := ⟨a - z / q, by omega⟩
  have h5 : Nat.Coprime q 2 := by
    have : Nat.gcd q 2 = Nat.gcd 2 (q % 2) := by rw [Nat.gcd_comm, Nat.gcd_rec, Nat.gcd_comm]
    show Nat.gcd q 2 = 1
    rw [Nat.gcd_comm, Nat.gcd_rec, ho]
    rfl
  have h6 := Nat.Coprime.dvd_of_dvd_mul_left h5 h4
  exact absurd (Nat.le_of_dvd (by omega) h6) (by omega)
theorem neg_ne {a : Nat} (h : a < qN) (h0 : a ≠ 0) : (qN - 1) * a % qN ≠ a := neg_aux h h0 qN_odd (by rw [← Nat.succ_mul, show (qN - 1).succ = qN by decide])
theorem sqN_iff {a : Nat} (h : a < qN) : sqN a = true ↔ lgN a ≠ -1 := by
  unfold sqN lgN
  rw [decide_eq_true_eq, rtN_sq]
  by_cases h0 : a = 0
  · rw [h0, Nat.mul_zero, Nat.zero_mod, if_pos rfl]
    decide
  · rw [if_neg h0]
    have hm : a % qN ≠ 0 := by rw [Nat.mod_eq_of_lt h]; exact h0
    rcases eulerN hm with ⟨e1, e2⟩ | ⟨e1, e2⟩
    · rw [e2, Nat.one_mul, Nat.mod_eq_of_lt h]
      exact ⟨fun _ => by rw [e1]; decide, fun _ => rfl⟩
    · rw [e2]
      exact ⟨fun e => absurd e (neg_ne h h0), fun e => absurd e1 e⟩
theorem lgN_cases {a : Nat} (h : a < qN) : lgN a = 0 ∨ lgN a = 1 ∨ lgN a = -1 := by
  unfold lgN
  by_cases h0 : a = 0
  · simp [h0]
  · rw [if_neg h0]
    exact .inr (J_sq qN_odd (by rw [Int.natAbs_natCast]; exact priN.cop (by omega) h))
/-! Numbers modulo the prime as a ring. -/
instance : NeZero qN := ⟨by decide⟩
def fz (a : Nat) : Fin qN := Fin.ofNat qN a
theorem fz_add (a b : Nat) : fz (a + b) = fz a + fz b := by
  apply Fin.ext
  show (a + b) % qN = (a % qN + b % qN) % qN
  rw [Nat.add_mod]
theorem fz_mul (a b : Nat) : fz (a * b) = fz a * fz b := by
  apply Fin.ext
  show (a * b) % qN = (a % qN * (b % qN)) % qN
  rw [Nat.mul_mod]
theorem fz_mod (a : Nat) : fz (a % qN) = fz a := by
  apply Fin.ext
  show a % qN % qN = a % qN
  rw [Nat.mod_mod]
theorem fz_eq {a b : Nat} : fz a = fz b ↔ a % qN = b % qN := ⟨fun h => congrArg Fin.val h, fun h => Fin.ext h⟩
theorem fz_q (a : Nat) : fz (qN * a) = 0 := by
  apply Fin.ext
  show qN * a % qN = 0 % qN
  rw [Nat.mul_mod_right, Nat.zero_mod]
theorem fz_sub {a b : Nat} (h : b ≤ qN) : fz (a + (qN - b)) = fz a - fz b := by
  have e : fz (a + (qN - b)) + fz b = fz a := by
    rw [← fz_add, Nat.add_assoc, Nat.sub_add_cancel h, fz_add, show fz qN = 0 from fz_q 1]
    grobner
  rw [← e]
  grobner
theorem fz_half {x a u h w : Nat} (h1 : x * a % qN = u % qN) (h2 : fz (2 * h) = fz x) (h3 : fz (2 * w) = fz u) : h * a % qN = w % qN := by
  have i : fz (inv0 2) * fz 2 = 1 := by
    rw [← fz_mul]
    show _ = fz 1
    rw [fz_eq]
    decide +kernel
  have h1 := fz_eq.2 h1
  rw [fz_mul] at h1 h2 h3
  rw [← fz_eq, fz_mul]
  grobner
/-! The map. -/
def c2N : Nat := 10944121435919637611123202872628637544348155578648911831344518947322613104291
def c3N : Nat := 8815841940592487685674414971303048083897117035520822607866
def c4N : Nat := 7296080957279758407415468581752425029565437052432607887563012631548408736189
def gN (x : Nat) : Nat := (x * (x * x % qN) % qN + 3) % qN
def tN (u : Nat) : Nat := u * u % qN * 4 % qN
def moN (u : Nat) : Nat := (1 + tN u) % qN
def leN (u : Nat) : Nat := (1 + (qN - tN u)) % qN
def ivN (u : Nat) : Nat := inv0 (leN u * moN u % qN)
def stN (u : Nat) : Nat := u * leN u % qN * ivN u % qN * c3N % qN
def x1N (u : Nat) : Nat := (c2N + (qN - stN u)) % qN
def x2N (u : Nat) : Nat := (c2N + stN u) % qN
def vvN (u : Nat) : Nat := moN u * moN u % qN * ivN u % qN
def x3N (u : Nat) : Nat := (vvN u * vvN u % qN * c4N % qN + 1) % qN
theorem fz_g (x : Nat) : fz (gN x) = fz x * fz x * fz x + 3 := by
  unfold gN
  rw [fz_mod, fz_add, fz_mod, fz_mul, fz_mod, fz_mul, show fz 3 = 3 from rfl]
  grobner
theorem tN_lt (u : Nat) : tN u < qN := Nat.mod_lt _ (by decide)
theorem stN_lt (u : Nat) : stN u < qN := Nat.mod_lt _ (by decide)
theorem gN_lt (x : Nat) : gN x < qN := Nat.mod_lt _ (by decide)
theorem fz_t (u : Nat) : fz (tN u) = fz u * fz u * 4 := by
  unfold tN
  rw [fz_mod, fz_mul, fz_mod, fz_mul]; rfl
theorem fz_mo (u : Nat) : fz (moN u) = 1 + fz (tN u) := by
  unfold moN
  rw [fz_mod, fz_add]; rfl
theorem fz_le (u : Nat) : fz (leN u) = 1 - fz (tN u) := by
  unfold leN
  rw [fz_mod, fz_sub (Nat.le_of_lt (tN_lt u))]; rfl
theorem fz_st (u : Nat) : fz (stN u) = fz u * fz (leN u) * fz (ivN u) * fz c3N := by
  unfold stN
  rw [fz_mod, fz_mul, fz_mod, fz_mul, fz_mod, fz_mul]
theorem fz_x1 (u : Nat) : fz (x1N u) = fz c2N - fz (stN u) := by
  unfold x1N
  rw [fz_mod, fz_sub (Nat.le_of_lt (stN_lt u))]
theorem fz_x2 (u : Nat) : fz (x2N u) = fz c2N + fz (stN u) := by
  unfold x2N
  rw [fz_mod, fz_add]
theorem fz_vv (u : Nat) : fz (vvN u) = fz (moN u) * fz (moN u) * fz (ivN u) := by
  unfold vvN
  rw [fz_mod, fz_mul, fz_mod, fz_mul]
theorem fz_x3 (u : Nat) : fz (x3N u) = fz (vvN u) * fz (vvN u) * fz c4N + 1 := by
  unfold x3N
  rw [fz_mod, fz_add, fz_mod, fz_mul, fz_mod, fz_mul]; rfl
theorem fz_c2 : 4 * (fz c2N * fz c2N) = 1 := by
  show fz 4 * (fz c2N * fz c2N) = fz 1
  rw [← fz_mul, ← fz_mul, fz_eq]
  decide +kernel
theorem fz_c2' : fz c2N + fz c2N = -1 := by
  have : fz c2N + fz c2N + 1 = 0 := by
    show fz c2N + fz c2N + fz 1 = fz 0
    rw [← fz_add, ← fz_add, fz_eq]
    decide +kernel
  grobner
theorem fz_c3 : fz c3N * fz c3N = -12 := by
  have : fz c3N * fz c3N + 12 = 0 := by
    show fz c3N * fz c3N + fz 12 = fz 0
    rw [← fz_mul, ← fz_add, fz_eq]
    decide +kernel
  grobner
theorem fz_c4 : 3 * fz c4N = -16 := by
  have : 3 * fz c4N + 16 = 0 := by
    show fz 3 * fz c4N + fz 16 = fz 0
    rw [← fz_mul, ← fz_add, fz_eq]
    decide +kernel
  grobner
theorem J_ne {a : Nat} (h : a % qN ≠ 0) : Nat.Coprime qN (a : Int).natAbs := by rw [Int.natAbs_natCast]; exact priN.cop_of h
theorem J_mod (a : Nat) : J ((a % qN : Nat) : Int) qN = J a qN := by
  have e : ((a % qN : Nat) : Int) + (qN : Int) * ((a / qN : Nat) : Int) = (a : Int) := by rw [← Int.natCast_mul, ← Int.natCast_add, Nat.mod_add_div]
  exact (J_period _).symm.trans (congrArg (fun z => J z qN) e)
theorem J_mulN {a b : Nat} (ha : a % qN ≠ 0) (hb : b % qN ≠ 0) : J ((a * b : Nat) : Int) qN = J a qN * J b qN := by
  rw [Int.natCast_mul]
  exact J_mul qN_odd (J_ne ha) (J_ne hb)
theorem J_self {a : Nat} (ha : a % qN ≠ 0) : J a qN * J a qN = 1 := by
  rcases J_sq qN_odd (J_ne ha) with h | h <;> rw [h] <;> rfl
theorem lg_ne {a : Nat} (h : a < qN) (h1 : lgN a = -1) : a % qN ≠ 0 ∧ J a qN = -1 := by
  unfold lgN at h1
  by_cases h0 : a = 0
  · rw [if_pos h0] at h1; exact absurd h1 (by decide)
  · rw [if_neg h0] at h1
    exact ⟨by rw [Nat.mod_eq_of_lt h]; exact h0, h1⟩
theorem mul_ne {a b : Nat} (ha : a % qN ≠ 0) (hb : b % qN ≠ 0) : a * b % qN ≠ 0 := by
  intro h
  have := priN.cop_of ha
  have hd : qN ∣ a * b := Nat.dvd_of_mod_eq_zero h
  exact hb (Nat.mod_eq_zero_of_dvd (Nat.Coprime.dvd_of_dvd_mul_left (show Nat.Coprime qN a from this) hd))
/-- s s g3 = (128 g1) (128 g2): not all three are nonresidues. -/
theorem three {s g1 g2 g3 : Nat} (hs : s % qN ≠ 0) (h1 : g1 < qN) (h2 : g2 < qN) (h3 : g3 < qN) (h : s * s * g3 % qN = 128 * 128 * (g1 * g2) % qN) : ¬ (lgN g1 = -1 ∧ lgN g2 = -1 ∧ lgN g3 = -1) := by
  rintro ⟨e1, e2, e3⟩
  obtain ⟨n1, j1⟩ := lg_ne h1 e1
  obtain ⟨n2, j2⟩ := lg_ne h2 e2
  obtain ⟨n3, j3⟩ := lg_ne h3 e3
  have n128 : 128 % qN ≠ 0 := by decide
  have l : J ((s * s * g3 : Nat) : Int) qN = -1 := by rw [J_mulN (mul_ne hs hs) n3, J_mulN hs hs, J_self hs, j3]; rfl
  have r : J ((128 * 128 * (g1 * g2) : Nat) : Int) qN = 1 := by rw [J_mulN (mul_ne n128 n128) (mul_ne n1 n2), J_mulN n128 n128, J_self n128, J_mulN n1 n2, j1, j2]; rfl
  rw [← J_mod, h, J_mod, r] at l
  exact absurd l (by decide)
theorem fz_iv {u : Nat} (h : leN u * moN u % qN ≠ 0) : fz (ivN u) * (fz (leN u) * fz (moN u)) = 1 := by
  unfold ivN
  rw [← fz_mul, ← fz_mod (leN u * moN u), ← fz_mul]
  show _ = fz 1
  rw [fz_eq, inv0_mul (by rw [Nat.mod_mod]; exact h)]
  rfl
theorem svdw (u : Nat) : sqN (gN (x1N u)) = true ∨ sqN (gN (x2N u)) = true ∨ sqN (gN (x3N u)) = true := by
  rw [sqN_iff (gN_lt _), sqN_iff (gN_lt _), sqN_iff (gN_lt _)]
  by_cases h0 : leN u * moN u % qN = 0
  · right; right
    have hi : ivN u = 0 := by unfold ivN; rw [h0]; exact inv0_zero
    have hx : x3N u = 1 := by unfold x3N vvN; rw [hi]; simp; decide
    rw [hx, show gN 1 = 4 by decide]
    unfold lgN
    rw [if_neg (by decide), show ((4 : Nat) : Int) = ((2 * 2 : Nat) : Int) by rfl, J_mulN (by decide) (by decide), J_self (by decide)]
    decide
  · have hD := fz_iv h0
    have hp := svdw_p (fz_t u) (fz_mo u) (fz_le u) hD fz_c2 fz_c3 (fz_st u) (fz_x1 u) (fz_x2 u)
    have he := svdw_e hD fz_c3 fz_c4 hp (fz_vv u) (fz_x3 u)
    have h16 : fz 16 * fz (inv0 16) = 1 := by
      rw [← fz_mul]
      show _ = fz 1
      rw [fz_eq]
      decide +kernel
    generalize hP : fz (x1N u) * fz (x2N u) - 1 = P at *
    have hpe : P * (fz (x3N u) - 1) = 4 := by
      have e1 : fz 16 * (P * (fz (x3N u) - 1)) = 64 := by rw [← he]; show (16 : Fin qN) * _ = _; grobner
      have e2 : fz (inv0 16) * (fz 16 * (P * (fz (x3N u) - 1))) = fz (inv0 16) * 64 := by rw [e1]
      have e3 : fz (inv0 16) * 64 = 4 := by
        show fz (inv0 16) * fz 64 = fz 4
        rw [← fz_mul, fz_eq]
        decide +kernel
      rw [e3] at e2
      rw [← e2]
      grobner
    have hg := svdw_g (p := P) (x1 := fz (x1N u)) (x2 := fz (x2N u)) (x3 := fz (x3N u)) (e := fz (x3N u) - 1) (by rw [fz_x1, fz_x2]; have := fz_c2'; grobner) hP.symm hpe (by grobner)
    rw [← fz_g, ← fz_g, ← fz_g] at hg
    have key : ∀ s : Nat, fz s = fz c3N * fz (leN u) * fz (leN u) * fz (ivN u) → (s * s * s) * (s * s * s) * gN (x3N u) % qN = 128 * 128 * (gN (x1N u) * gN (x2N u)) % qN := by
      intro s hs
      rw [← fz_eq]
      simp only [fz_mul, hs]
      rw [← hs] at hp
      rw [← hs]
      rw [show fz s * fz s * fz s * (fz s * fz s * fz s) = (fz s * fz s) * (fz s * fz s) * (fz s * fz s) by grobner, ← hp,
        show 16 * P * (16 * P) * (16 * P) * fz (gN (x3N u)) = 16 * 16 * 16 * (P * P * P * fz (gN (x3N u))) by grobner, hg, show fz 128 = 128 from rfl]
      grobner
    have k := key (c3N * leN u * leN u * ivN u) (by simp only [fz_mul])
    have hs0 : (c3N * leN u * leN u * ivN u) % qN ≠ 0 := by
      intro h
      have : fz (c3N * leN u * leN u * ivN u) = fz 0 := fz_eq.2 (by rw [h]; rfl)
      simp only [fz_mul] at this
      rw [this, show fz 0 = 0 from rfl] at hp
      have h64 : (64 : Fin qN) = 0 := by rw [← he, hp]; grobner
      exact absurd h64 (by decide)
    have t := three (mul_ne (mul_ne hs0 hs0) hs0) (gN_lt _) (gN_lt _) (gN_lt _) k
    by_cases a : lgN (gN (x1N u)) = -1
    · by_cases b : lgN (gN (x2N u)) = -1
      · exact .inr (.inr fun c => t ⟨a, b, c⟩)
      · exact .inr (.inl b)
    · exact .inl a
end Go.Sx

/- Plain law of spec.InvMod: a step's numbers. -/
namespace Go.Sx
open Go Go.Proofs Go.Num
set_option maxRecDepth 100000
theorem hvm_lt {X : Nat} (h : X < qN) : hvm X qN < qN := by
  unfold hvm
  split <;> omega
theorem hv_cong {X A U : Nat} (h : X * A % qN = U % qN) (hU : U % 2 = 0) : hvm X qN * A % qN = U / 2 % qN := by
  refine fz_half h ?_ (by rw [show 2 * (U / 2) = U by omega])
  unfold hvm
  split
  · rw [show 2 * ((X + qN) / 2) = X + qN by have := qN_odd; omega, fz_add, show fz qN = 0 from fz_q 1]
    grobner
  · rw [show 2 * (X / 2) = X by omega]
theorem sub_cong {X Y A U V : Nat} (hX : X < qN) (h : X * A % qN = U % qN) (g : Y * A % qN = V % qN) (hUV : U ≤ V) : (((Y : Int) - (X : Int)) % (qN : Int)).toNat * A % qN = (V - U) % qN := by
  rw [sub_int hX]
  have h1 := fz_eq.2 h
  have g1 := fz_eq.2 g
  have e : fz (V - U) + fz U = fz V := by rw [← fz_add, Nat.sub_add_cancel hUV]
  rw [fz_mul] at h1 g1
  rw [← fz_eq, fz_mul, fz_mod, fz_sub (Nat.le_of_lt hX)]
  grobner
theorem gcd_half {U V : Nat} (h : Nat.gcd U V = 1) (hU : U % 2 = 0) : Nat.gcd (U / 2) V = 1 ∧ V % 2 = 1 := by
  have hd : U / 2 ∣ U := ⟨2, by omega⟩
  refine ⟨Nat.eq_one_of_dvd_one (h ▸ Nat.gcd_dvd_gcd_of_dvd_left V hd), ?_⟩
  rcases Nat.mod_two_eq_zero_or_one V with e | e
  · have : 2 ∣ Nat.gcd U V := Nat.dvd_gcd (Nat.dvd_of_mod_eq_zero hU) (Nat.dvd_of_mod_eq_zero e)
    rw [h] at this
    exact absurd (Nat.le_of_dvd (by decide) this) (by decide)
  · exact e
/-- The outer loop's numbers. -/
structure ImP (A U V X Y : Nat) : Prop where
  u : 0 < U
  v : 0 < V
  g : Nat.gcd U V = 1
  x : X < qN
  y : Y < qN
  ex : X * A % qN = U % qN
  ey : Y * A % qN = V % qN
theorem ImP.first {A : Nat} (h0 : 0 < A) (h : A < qN) : ImP A A qN 1 0 where
  u := h0
  v := by decide
  g := by rw [Nat.gcd_comm]; exact pri_q.cop h0 h
  x := by decide
  y := by decide
  ex := by rw [Nat.one_mul]
  ey := by rw [Nat.zero_mul]; rfl
/-- While u is halved. -/
structure I1P (A u0 V U X : Nat) : Prop where
  u : 0 < U
  l : U ≤ u0
  g : Nat.gcd U V = 1
  x : X < qN
  ex : X * A % qN = U % qN
  o : U ≠ 1 ∨ V % 2 = 1
theorem ImP.in1 {A U V X Y : Nat} (h : ImP A U V X Y) (hU : U ≠ 1) : I1P A U V U X := ⟨h.u, Nat.le_refl _, h.g, h.x, h.ex, .inl hU⟩
theorem I1P.step {A u0 V U X : Nat} (h : I1P A u0 V U X) (he : U % 2 = 0) : I1P A u0 V (U / 2) (hvm X qN) where
  u := by have := h.u; omega
  l := by have := h.l; omega
  g := (gcd_half h.g he).1
  x := hvm_lt h.x
  ex := hv_cong h.ex he
  o := .inr (gcd_half h.g he).2
/-- While v is halved. -/
structure I2P (A U v0 V Y : Nat) : Prop where
  v : 0 < V
  l : V ≤ v0
  g : Nat.gcd U V = 1
  y : Y < qN
  ey : Y * A % qN = V % qN
  o : U ≠ 1 ∨ (V % 2 = 1 ∧ V ≠ 1)
theorem ImP.in2 {A u0 U V X0 X Y : Nat} (h : ImP A u0 V X0 Y) (h1 : I1P A u0 V U X) (hV : V ≠ 1) : I2P A U V V Y := ⟨h.v, Nat.le_refl _, h1.g, h.y, h.ey, h1.o.elim .inl fun e => .inr ⟨e, hV⟩⟩
theorem I2P.step {A U v0 V Y : Nat} (h : I2P A U v0 V Y) (he : V % 2 = 0) : I2P A U v0 (V / 2) (hvm Y qN) where
  v := by have := h.v; omega
  l := by have := h.l; omega
  g := by rw [Nat.gcd_comm]; exact (gcd_half (by rw [Nat.gcd_comm]; exact h.g) he).1
  y := hvm_lt h.y
  ey := hv_cong h.ey he
  o := h.o.elim .inl fun e => absurd e.1 (by omega)
theorem out_ne {A U u0 v0 V0 V X Y : Nat} (h1 : I1P A u0 V0 U X) (h2 : I2P A U v0 V Y) (ho : V % 2 = 1) : U ≠ V := by
  intro e
  have g := h2.g
  rw [e, Nat.gcd_self] at g
  have := h2.o
  omega
theorem out_lt {A U u0 v0 V0 V X Y : Nat} (h1 : I1P A u0 V0 U X) (h2 : I2P A U v0 V Y) (h : U < V) : ImP A U (V - U) X (((Y : Int) - (X : Int)) % (qN : Int)).toNat where
  u := h1.u
  v := by omega
  g := by rw [Nat.gcd_sub_self_right (Nat.le_of_lt h)]; exact h2.g
  x := h1.x
  y := by rw [sub_int h1.x]; exact Nat.mod_lt _ (by decide)
  ex := h1.ex
  ey := sub_cong h1.x h1.ex h2.ey (Nat.le_of_lt h)
theorem out_gt {A U u0 v0 V0 V X Y : Nat} (h1 : I1P A u0 V0 U X) (h2 : I2P A U v0 V Y) (h : V < U) : ImP A (U - V) V (((X : Int) - (Y : Int)) % (qN : Int)).toNat Y where
  u := by omega
  v := h2.v
  g := by rw [Nat.gcd_comm, Nat.gcd_sub_self_right (Nat.le_of_lt h), Nat.gcd_comm]; exact h2.g
  x := by rw [sub_int h2.y]; exact Nat.mod_lt _ (by decide)
  y := h2.y
  ex := sub_cong h2.y h2.ey h1.ex (Nat.le_of_lt h)
  ey := h2.ey
end Go.Sx

/- spec.InvMod: it ends, with the inverse. -/
namespace Go.Sx
open Go Go.Proofs Go.Num
set_option maxRecDepth 100000
theorem vc_im (S : ImI → Prop) (T R : Int → Int → InI → Prop) (a0 a1 a2 a3 m0 m1 m2 m3 : Int) (K : SV → Mem → Prop) : (execF cxIm (uIm S T R) Tryd.f70 64 [ag4 a0 a1 a2 a3, ag4 m0 m1 m2 m3] (memL []) K) =
  ((∀ (x0 : Int), ((x0 = a0) → (∀ (x1 : Int), ((x1 = a1) → (∀ (x2 : Int), ((x2 = a2) → (∀ (x3 : Int), ((x3 = a3) → (∀ (x4 : Int), ((x4 = m0) → (∀ (x5 : Int), ((x5 = m1) → (∀ (x6 : Int), ((x6 = m2) → (∀ (x7 : Int), ((x7 = m3) → (∀ (x8 : Int), ((x8 = a0) → (∀ (x9 : Int), ((x9 = a1) → (∀ (x10 : Int), ((x10 = a2) → (∀ (x11 : Int), ((x11 = a3) → ((((decide ([x8, x9, x10, x11] = [(0 : Int), (0 : Int), (0 : Int), (0 : Int)])) = Bool.true) → (K (SV.agg [(SV.int IntKind.u64 (A.lit (0 : Int))), (SV.int IntKind.u64 (A.lit (0 : Int))), (SV.int IntKind.u64 (A.lit (0 : Int))), (SV.int IntKind.u64 (A.lit (0 : Int)))]) (memL [((513 : Nat), (Reg.mk Bool.false (Ct.cells [(SV.int IntKind.u64 (A.sym a0)), (SV.int IntKind.u64 (A.sym a1)), (SV.int IntKind.u64 (A.sym a2)), (SV.int IntKind.u64 (A.sym a3))]))), ((521 : Nat), (Reg.mk Bool.false (Ct.cells [(SV.int IntKind.u64 (A.sym m0)), (SV.int IntKind.u64 (A.sym m1)), (SV.int IntKind.u64 (A.sym m2)), (SV.int IntKind.u64 (A.sym m3))]))), ((529 : Nat), (Reg.mk Bool.false (Ct.cells [(SV.int IntKind.u64 (A.lit (0 : Int))), (SV.int IntKind.u64 (A.lit (0 : Int))), (SV.int IntKind.u64 (A.lit (0 : Int))), (SV.int IntKind.u64 (A.lit (0 : Int)))]))), ((569 : Nat), (Reg.mk Bool.false (Ct.cells [(SV.int IntKind.u64 (A.sym x0)), (SV.int IntKind.u64 (A.sym x1)), (SV.int IntKind.u64 (A.sym x2)), (SV.int IntKind.u64 (A.sym x3))]))), ((577 : Nat), (Reg.mk Bool.false (Ct.cells [(SV.int IntKind.u64 (A.sym x4)), (SV.int IntKind.u64 (A.sym x5)), (SV.int IntKind.u64 (A.sym x6)), (SV.int IntKind.u64 (A.sym x7))]))), ((585 : Nat), (Reg.mk Bool.false (Ct.cells [(SV.int IntKind.u64 (A.lit (1 : Int))), (SV.int IntKind.u64 (A.lit (0 : Int))), (SV.int IntKind.u64 (A.lit (0 : Int))), (SV.int IntKind.u64 (A.lit (0 : Int)))]))), ((593 : Nat), (Reg.mk Bool.false (Ct.cells [(SV.int IntKind.u64 (A.lit (0 : Int))), (SV.int IntKind.u64 (A.lit (0 : Int))), (SV.int IntKind.u64 (A.lit (0 : Int))), (SV.int IntKind.u64 (A.lit (0 : Int)))])))]))) ∧
 (((decide ([x8, x9, x10, x11] = [(0 : Int), (0 : Int), (0 : Int), (0 : Int)])) = Bool.false) → ((∃ (i012 : ImI), ((S i012) ∧
 (((a0 = a0) ∧
 ((a1 = a1) ∧
 ((a2 = a2) ∧
 (a3 = a3)))) ∧
 (((m0 = m0) ∧
 ((m1 = m1) ∧
 ((m2 = m2) ∧
 (m3 = m3)))) ∧
 (((x0 = (ImI.u0 i012)) ∧
 ((x1 = (ImI.u1 i012)) ∧
 ((x2 = (ImI.u2 i012)) ∧
 (x3 = (ImI.u3 i012))))) ∧
 (((x4 = (ImI.v0 i012)) ∧
 ((x5 = (ImI.v1 i012)) ∧
 ((x6 = (ImI.v2 i012)) ∧
 (x7 = (ImI.v3 i012))))) ∧
 ((((1 : Int) = (ImI.x0 i012)) ∧
 (((0 : Int) = (ImI.x1 i012)) ∧
 (((0 : Int) = (ImI.x2 i012)) ∧
 ((0 : Int) = (ImI.x3 i012))))) ∧
 (((0 : Int) = (ImI.y0 i012)) ∧
 (((0 : Int) = (ImI.y1 i012)) ∧
 (((0 : Int) = (ImI.y2 i012)) ∧
 ((0 : Int) = (ImI.y3 i012)))))))))))) ∧
 (∀ (i13 : ImI), ((S i13) → (∀ (x14 : Int), ((x14 = (ImI.u0 i13)) → (∀ (x15 : Int), ((x15 = (ImI.u1 i13)) → (∀ (x16 : Int), ((x16 = (ImI.u2 i13)) → (∀ (x17 : Int), ((x17 = (ImI.u3 i13)) → ((((Bool.not (decide ([x14, x15, x16, x17] = [(1 : Int), (0 : Int), (0 : Int), (0 : Int)]))) = Bool.true) → (∀ (x18 : Int), ((x18 = (ImI.v0 i13)) → (∀ (x19 : Int), ((x19 = (ImI.v1 i13)) → (∀ (x20 : Int), ((x20 = (ImI.v2 i13)) → (∀ (x21 : Int), ((x21 = (ImI.v3 i13)) → ((((Bool.not (decide ([x18, x19, x20, x21] = [(1 : Int), (0 : Int), (0 : Int), (0 : Int)]))) = Bool.true) → ((∃ (i022 : InI), ((T (V4 (ImI.u0 i13) (ImI.u1 i13) (ImI.u2 i13) (ImI.u3 i13)) (V4 (ImI.v0 i13) (ImI.v1 i13) (ImI.v2 i13) (ImI.v3 i13)) i022) ∧
 (((a0 = a0) ∧
 ((a1 = a1) ∧
 ((a2 = a2) ∧
 (a3 = a3)))) ∧
 (((m0 = m0) ∧
 ((m1 = m1) ∧
 ((m2 = m2) ∧
 (m3 = m3)))) ∧
 ((((ImI.v0 i13) = (ImI.v0 i13)) ∧
 (((ImI.v1 i13) = (ImI.v1 i13)) ∧
 (((ImI.v2 i13) = (ImI.v2 i13)) ∧
 ((ImI.v3 i13) = (ImI.v3 i13))))) ∧
 ((((ImI.y0 i13) = (ImI.y0 i13)) ∧
 (((ImI.y1 i13) = (ImI.y1 i13)) ∧
 (((ImI.y2 i13) = (ImI.y2 i13)) ∧
 ((ImI.y3 i13) = (ImI.y3 i13))))) ∧
 ((((ImI.u0 i13) = (InI.u0 i022)) ∧
 (((ImI.u1 i13) = (InI.u1 i022)) ∧
 (((ImI.u2 i13) = (InI.u2 i022)) ∧
 ((ImI.u3 i13) = (InI.u3 i022))))) ∧
 (((ImI.x0 i13) = (InI.x0 i022)) ∧
 (((ImI.x1 i13) = (InI.x1 i022)) ∧
 (((ImI.x2 i13) = (InI.x2 i022)) ∧
 ((ImI.x3 i13) = (InI.x3 i022)))))))))))) ∧
 (∀ (i23 : InI), ((T (V4 (ImI.u0 i13) (ImI.u1 i13) (ImI.u2 i13) (ImI.u3 i13)) (V4 (ImI.v0 i13) (ImI.v1 i13) (ImI.v2 i13) (ImI.v3 i13)) i23) → (∀ (x24 : Int), ((x24 = (Int.tmod (InI.u0 i23) (2 : Int))) → ((((x24 == (0 : Int)) = Bool.true) → (∀ (x25 : Int), ((x25 = (InI.u0 i23)) → (∀ (x26 : Int), ((x26 = (InI.u1 i23)) → (∀ (x27 : Int), ((x27 = (InI.u2 i23)) → (∀ (x28 : Int), ((x28 = (InI.u3 i23)) → (((Wd x25) ∧
 ((Wd x26) ∧
 ((Wd x27) ∧
 (Wd x28)))) ∧
 (∀ (x29 : Int), ((x29 = (lm ((Int.toNat (V4 x25 x26 x27 x28)) / (2 : Nat)) (0 : Nat))) → (∀ (x30 : Int), ((x30 = (lm ((Int.toNat (V4 x25 x26 x27 x28)) / (2 : Nat)) (1 : Nat))) → (∀ (x31 : Int), ((x31 = (lm ((Int.toNat (V4 x25 x26 x27 x28)) / (2 : Nat)) (2 : Nat))) → (∀ (x32 : Int), ((x32 = (lm ((Int.toNat (V4 x25 x26 x27 x28)) / (2 : Nat)) (3 : Nat))) → (∀ (x33 : Int), ((x33 = (InI.x0 i23)) → (∀ (x34 : Int), ((x34 = (InI.x1 i23)) → (∀ (x35 : Int), ((x35 = (InI.x2 i23)) → (∀ (x36 : Int), ((x36 = (InI.x3 i23)) → (∀ (x37 : Int), ((x37 = m0) → (∀ (x38 : Int), ((x38 = m1) → (∀ (x39 : Int), ((x39 = m2) → (∀ (x40 : Int), ((x40 = m3) → ((((Wd x33) ∧
 ((Wd x34) ∧
 ((Wd x35) ∧
 (Wd x36)))) ∧
 ((Wd x37) ∧
 ((Wd x38) ∧
 ((Wd x39) ∧
 (Wd x40))))) ∧
 (∀ (x41 : Int), ((x41 = (lm (hvm (Int.toNat (V4 x33 x34 x35 x36)) (Int.toNat (V4 x37 x38 x39 x40))) (0 : Nat))) → (∀ (x42 : Int), ((x42 = (lm (hvm (Int.toNat (V4 x33 x34 x35 x36)) (Int.toNat (V4 x37 x38 x39 x40))) (1 : Nat))) → (∀ (x43 : Int), ((x43 = (lm (hvm (Int.toNat (V4 x33 x34 x35 x36)) (Int.toNat (V4 x37 x38 x39 x40))) (2 : Nat))) → (∀ (x44 : Int), ((x44 = (lm (hvm (Int.toNat (V4 x33 x34 x35 x36)) (Int.toNat (V4 x37 x38 x39 x40))) (3 : Nat))) → (∃ (x45 : InI), ((T (V4 (ImI.u0 i13) (ImI.u1 i13) (ImI.u2 i13) (ImI.u3 i13)) (V4 (ImI.v0 i13) (ImI.v1 i13) (ImI.v2 i13) (ImI.v3 i13)) x45) ∧
 ((((a0 = a0) ∧
 ((a1 = a1) ∧
 ((a2 = a2) ∧
 (a3 = a3)))) ∧
 (((m0 = m0) ∧
 ((m1 = m1) ∧
 ((m2 = m2) ∧
 (m3 = m3)))) ∧
 ((((ImI.v0 i13) = (ImI.v0 i13)) ∧
 (((ImI.v1 i13) = (ImI.v1 i13)) ∧
 (((ImI.v2 i13) = (ImI.v2 i13)) ∧
 ((ImI.v3 i13) = (ImI.v3 i13))))) ∧
 ((((ImI.y0 i13) = (ImI.y0 i13)) ∧
 (((ImI.y1 i13) = (ImI.y1 i13)) ∧
 (((ImI.y2 i13) = (ImI.y2 i13)) ∧
 ((ImI.y3 i13) = (ImI.y3 i13))))) ∧
 (((x29 = (InI.u0 x45)) ∧
 ((x30 = (InI.u1 x45)) ∧
 ((x31 = (InI.u2 x45)) ∧
 (x32 = (InI.u3 x45))))) ∧
 ((x41 = (InI.x0 x45)) ∧
 ((x42 = (InI.x1 x45)) ∧
 ((x43 = (InI.x2 x45)) ∧
 (x44 = (InI.x3 x45)))))))))) ∧
 ((Int.toNat (V4 (InI.u0 x45) (InI.u1 x45) (InI.u2 x45) (InI.u3 x45))) < (Int.toNat (V4 (InI.u0 i23) (InI.u1 i23) (InI.u2 i23) (InI.u3 i23)))))))))))))))))))))))))))))))))))))))))))))))))) ∧
 (((x24 == (0 : Int)) = Bool.false) → ((∃ (i046 : InI), ((R (V4 (InI.u0 i23) (InI.u1 i23) (InI.u2 i23) (InI.u3 i23)) (V4 (ImI.v0 i13) (ImI.v1 i13) (ImI.v2 i13) (ImI.v3 i13)) i046) ∧
 (((a0 = a0) ∧
 ((a1 = a1) ∧
 ((a2 = a2) ∧
 (a3 = a3)))) ∧
 (((m0 = m0) ∧
 ((m1 = m1) ∧
 ((m2 = m2) ∧
 (m3 = m3)))) ∧
 ((((InI.u0 i23) = (InI.u0 i23)) ∧
 (((InI.u1 i23) = (InI.u1 i23)) ∧
 (((InI.u2 i23) = (InI.u2 i23)) ∧
 ((InI.u3 i23) = (InI.u3 i23))))) ∧
 ((((InI.x0 i23) = (InI.x0 i23)) ∧
 (((InI.x1 i23) = (InI.x1 i23)) ∧
 (((InI.x2 i23) = (InI.x2 i23)) ∧
 ((InI.x3 i23) = (InI.x3 i23))))) ∧
 ((((ImI.v0 i13) = (InI.u0 i046)) ∧
 (((ImI.v1 i13) = (InI.u1 i046)) ∧
 (((ImI.v2 i13) = (InI.u2 i046)) ∧
 ((ImI.v3 i13) = (InI.u3 i046))))) ∧
 (((ImI.y0 i13) = (InI.x0 i046)) ∧
 (((ImI.y1 i13) = (InI.x1 i046)) ∧
 (((ImI.y2 i13) = (InI.x2 i046)) ∧
 ((ImI.y3 i13) = (InI.x3 i046)))))))))))) ∧
 (∀ (i47 : InI), ((R (V4 (InI.u0 i23) (InI.u1 i23) (InI.u2 i23) (InI.u3 i23)) (V4 (ImI.v0 i13) (ImI.v1 i13) (ImI.v2 i13) (ImI.v3 i13)) i47) → (∀ (x48 : Int), ((x48 = (Int.tmod (InI.u0 i47) (2 : Int))) → ((((x48 == (0 : Int)) = Bool.true) → (∀ (x49 : Int), ((x49 = (InI.u0 i47)) → (∀ (x50 : Int), ((x50 = (InI.u1 i47)) → (∀ (x51 : Int), ((x51 = (InI.u2 i47)) → (∀ (x52 : Int), ((x52 = (InI.u3 i47)) → (((Wd x49) ∧
 ((Wd x50) ∧
 ((Wd x51) ∧
 (Wd x52)))) ∧
 (∀ (x53 : Int), ((x53 = (lm ((Int.toNat (V4 x49 x50 x51 x52)) / (2 : Nat)) (0 : Nat))) → (∀ (x54 : Int), ((x54 = (lm ((Int.toNat (V4 x49 x50 x51 x52)) / (2 : Nat)) (1 : Nat))) → (∀ (x55 : Int), ((x55 = (lm ((Int.toNat (V4 x49 x50 x51 x52)) / (2 : Nat)) (2 : Nat))) → (∀ (x56 : Int), ((x56 = (lm ((Int.toNat (V4 x49 x50 x51 x52)) / (2 : Nat)) (3 : Nat))) → (∀ (x57 : Int), ((x57 = (InI.x0 i47)) → (∀ (x58 : Int), ((x58 = (InI.x1 i47)) → (∀ (x59 : Int), ((x59 = (InI.x2 i47)) → (∀ (x60 : Int), ((x60 = (InI.x3 i47)) → (∀ (x61 : Int), ((x61 = m0) → (∀ (x62 : Int), ((x62 = m1) → (∀ (x63 : Int), ((x63 = m2) → (∀ (x64 : Int), ((x64 = m3) → ((((Wd x57) ∧
 ((Wd x58) ∧
 ((Wd x59) ∧
 (Wd x60)))) ∧
 ((Wd x61) ∧
 ((Wd x62) ∧
 ((Wd x63) ∧
 (Wd x64))))) ∧
 (∀ (x65 : Int), ((x65 = (lm (hvm (Int.toNat (V4 x57 x58 x59 x60)) (Int.toNat (V4 x61 x62 x63 x64))) (0 : Nat))) → (∀ (x66 : Int), ((x66 = (lm (hvm (Int.toNat (V4 x57 x58 x59 x60)) (Int.toNat (V4 x61 x62 x63 x64))) (1 : Nat))) → (∀ (x67 : Int), ((x67 = (lm (hvm (Int.toNat (V4 x57 x58 x59 x60)) (Int.toNat (V4 x61 x62 x63 x64))) (2 : Nat))) → (∀ (x68 : Int), ((x68 = (lm (hvm (Int.toNat (V4 x57 x58 x59 x60)) (Int.toNat (V4 x61 x62 x63 x64))) (3 : Nat))) → (∃ (x69 : InI), ((R (V4 (InI.u0 i23) (InI.u1 i23) (InI.u2 i23) (InI.u3 i23)) (V4 (ImI.v0 i13) (ImI.v1 i13) (ImI.v2 i13) (ImI.v3 i13)) x69) ∧
 ((((a0 = a0) ∧
 ((a1 = a1) ∧
 ((a2 = a2) ∧
 (a3 = a3)))) ∧
 (((m0 = m0) ∧
 ((m1 = m1) ∧
 ((m2 = m2) ∧
 (m3 = m3)))) ∧
 ((((InI.u0 i23) = (InI.u0 i23)) ∧
 (((InI.u1 i23) = (InI.u1 i23)) ∧
 (((InI.u2 i23) = (InI.u2 i23)) ∧
 ((InI.u3 i23) = (InI.u3 i23))))) ∧
 ((((InI.x0 i23) = (InI.x0 i23)) ∧
 (((InI.x1 i23) = (InI.x1 i23)) ∧
 (((InI.x2 i23) = (InI.x2 i23)) ∧
 ((InI.x3 i23) = (InI.x3 i23))))) ∧
 (((x53 = (InI.u0 x69)) ∧
 ((x54 = (InI.u1 x69)) ∧
 ((x55 = (InI.u2 x69)) ∧
 (x56 = (InI.u3 x69))))) ∧
 ((x65 = (InI.x0 x69)) ∧
 ((x66 = (InI.x1 x69)) ∧
 ((x67 = (InI.x2 x69)) ∧
 (x68 = (InI.x3 x69)))))))))) ∧
 ((Int.toNat (V4 (InI.u0 x69) (InI.u1 x69) (InI.u2 x69) (InI.u3 x69))) < (Int.toNat (V4 (InI.u0 i47) (InI.u1 i47) (InI.u2 i47) (InI.u3 i47)))))))))))))))))))))))))))))))))))))))))))))))))) ∧
 (((x48 == (0 : Int)) = Bool.false) → (∀ (x70 : Int), ((x70 = (InI.u0 i23)) → (∀ (x71 : Int), ((x71 = (InI.u1 i23)) → (∀ (x72 : Int), ((x72 = (InI.u2 i23)) → (∀ (x73 : Int), ((x73 = (InI.u3 i23)) → (∀ (x74 : Int), ((x74 = (InI.u0 i47)) → (∀ (x75 : Int), ((x75 = (InI.u1 i47)) → (∀ (x76 : Int), ((x76 = (InI.u2 i47)) → (∀ (x77 : Int), ((x77 = (InI.u3 i47)) → ((((Wd x70) ∧
 ((Wd x71) ∧
 ((Wd x72) ∧
 (Wd x73)))) ∧
 ((Wd x74) ∧
 ((Wd x75) ∧
 ((Wd x76) ∧
 (Wd x77))))) ∧
 ((((decide ((V4 x70 x71 x72 x73) < (V4 x74 x75 x76 x77))) = Bool.true) → (∀ (x78 : Int), ((x78 = (InI.u0 i47)) → (∀ (x79 : Int), ((x79 = (InI.u1 i47)) → (∀ (x80 : Int), ((x80 = (InI.u2 i47)) → (∀ (x81 : Int), ((x81 = (InI.u3 i47)) → (∀ (x82 : Int), ((x82 = (InI.u0 i23)) → (∀ (x83 : Int), ((x83 = (InI.u1 i23)) → (∀ (x84 : Int), ((x84 = (InI.u2 i23)) → (∀ (x85 : Int), ((x85 = (InI.u3 i23)) → ((((Wd x78) ∧
 ((Wd x79) ∧
 ((Wd x80) ∧
 (Wd x81)))) ∧
 ((Wd x82) ∧
 ((Wd x83) ∧
 ((Wd x84) ∧
 (Wd x85))))) ∧
 (∀ (x86 : Int), ((x86 = (lm (w256 ((V4 x78 x79 x80 x81) - (V4 x82 x83 x84 x85))) (0 : Nat))) → (∀ (x87 : Int), ((x87 = (lm (w256 ((V4 x78 x79 x80 x81) - (V4 x82 x83 x84 x85))) (1 : Nat))) → (∀ (x88 : Int), ((x88 = (lm (w256 ((V4 x78 x79 x80 x81) - (V4 x82 x83 x84 x85))) (2 : Nat))) → (∀ (x89 : Int), ((x89 = (lm (w256 ((V4 x78 x79 x80 x81) - (V4 x82 x83 x84 x85))) (3 : Nat))) → (∀ (x90 : Int), ((x90 = (InI.x0 i47)) → (∀ (x91 : Int), ((x91 = (InI.x1 i47)) → (∀ (x92 : Int), ((x92 = (InI.x2 i47)) → (∀ (x93 : Int), ((x93 = (InI.x3 i47)) → (∀ (x94 : Int), ((x94 = (InI.x0 i23)) → (∀ (x95 : Int), ((x95 = (InI.x1 i23)) → (∀ (x96 : Int), ((x96 = (InI.x2 i23)) → (∀ (x97 : Int), ((x97 = (InI.x3 i23)) → (∀ (x98 : Int), ((x98 = m0) → (∀ (x99 : Int), ((x99 = m1) → (∀ (x100 : Int), ((x100 = m2) → (∀ (x101 : Int), ((x101 = m3) → (((((Wd x90) ∧
 ((Wd x91) ∧
 ((Wd x92) ∧
 (Wd x93)))) ∧
 (((Wd x94) ∧
 ((Wd x95) ∧
 ((Wd x96) ∧
 (Wd x97)))) ∧
 ((Wd x98) ∧
 ((Wd x99) ∧
 ((Wd x100) ∧
 (Wd x101)))))) ∧
 (((V4 x90 x91 x92 x93) < (V4 x98 x99 x100 x101)) ∧
 ((V4 x94 x95 x96 x97) < (V4 x98 x99 x100 x101)))) ∧
 (∀ (x102 : Int), ((x102 = (lm (Int.toNat (((V4 x90 x91 x92 x93) - (V4 x94 x95 x96 x97)) % (V4 x98 x99 x100 x101))) (0 : Nat))) → (∀ (x103 : Int), ((x103 = (lm (Int.toNat (((V4 x90 x91 x92 x93) - (V4 x94 x95 x96 x97)) % (V4 x98 x99 x100 x101))) (1 : Nat))) → (∀ (x104 : Int), ((x104 = (lm (Int.toNat (((V4 x90 x91 x92 x93) - (V4 x94 x95 x96 x97)) % (V4 x98 x99 x100 x101))) (2 : Nat))) → (∀ (x105 : Int), ((x105 = (lm (Int.toNat (((V4 x90 x91 x92 x93) - (V4 x94 x95 x96 x97)) % (V4 x98 x99 x100 x101))) (3 : Nat))) → (∃ (x106 : ImI), ((S x106) ∧
 ((((a0 = a0) ∧
 ((a1 = a1) ∧
 ((a2 = a2) ∧
 (a3 = a3)))) ∧
 (((m0 = m0) ∧
 ((m1 = m1) ∧
 ((m2 = m2) ∧
 (m3 = m3)))) ∧
 ((((InI.u0 i23) = (ImI.u0 x106)) ∧
 (((InI.u1 i23) = (ImI.u1 x106)) ∧
 (((InI.u2 i23) = (ImI.u2 x106)) ∧
 ((InI.u3 i23) = (ImI.u3 x106))))) ∧
 (((x86 = (ImI.v0 x106)) ∧
 ((x87 = (ImI.v1 x106)) ∧
 ((x88 = (ImI.v2 x106)) ∧
 (x89 = (ImI.v3 x106))))) ∧
 ((((InI.x0 i23) = (ImI.x0 x106)) ∧
 (((InI.x1 i23) = (ImI.x1 x106)) ∧
 (((InI.x2 i23) = (ImI.x2 x106)) ∧
 ((InI.x3 i23) = (ImI.x3 x106))))) ∧
 ((x102 = (ImI.y0 x106)) ∧
 ((x103 = (ImI.y1 x106)) ∧
 ((x104 = (ImI.y2 x106)) ∧
 (x105 = (ImI.y3 x106)))))))))) ∧
 ((Int.toNat ((V4 (ImI.u0 x106) (ImI.u1 x106) (ImI.u2 x106) (ImI.u3 x106)) + (V4 (ImI.v0 x106) (ImI.v1 x106) (ImI.v2 x106) (ImI.v3 x106)))) < (Int.toNat ((V4 (ImI.u0 i13) (ImI.u1 i13) (ImI.u2 i13) (ImI.u3 i13)) + (V4 (ImI.v0 i13) (ImI.v1 i13) (ImI.v2 i13) (ImI.v3 i13))))))))))))))))))))))))))))))))))))))))))))))))))))))))))))))))))) ∧
 (((decide ((V4 x70 x71 x72 x73) < (V4 x74 x75 x76 x77))) = Bool.false) → (∀ (x107 : Int), ((x107 = (InI.u0 i23)) → (∀ (x108 : Int), ((x108 = (InI.u1 i23)) → (∀ (x109 : Int), ((x109 = (InI.u2 i23)) → (∀ (x110 : Int), ((x110 = (InI.u3 i23)) → (∀ (x111 : Int), ((x111 = (InI.u0 i47)) → (∀ (x112 : Int), ((x112 = (InI.u1 i47)) → (∀ (x113 : Int), ((x113 = (InI.u2 i47)) → (∀ (x114 : Int), ((x114 = (InI.u3 i47)) → ((((Wd x107) ∧
 ((Wd x108) ∧
 ((Wd x109) ∧
 (Wd x110)))) ∧
 ((Wd x111) ∧
 ((Wd x112) ∧
 ((Wd x113) ∧
 (Wd x114))))) ∧
 (∀ (x115 : Int), ((x115 = (lm (w256 ((V4 x107 x108 x109 x110) - (V4 x111 x112 x113 x114))) (0 : Nat))) → (∀ (x116 : Int), ((x116 = (lm (w256 ((V4 x107 x108 x109 x110) - (V4 x111 x112 x113 x114))) (1 : Nat))) → (∀ (x117 : Int), ((x117 = (lm (w256 ((V4 x107 x108 x109 x110) - (V4 x111 x112 x113 x114))) (2 : Nat))) → (∀ (x118 : Int), ((x118 = (lm (w256 ((V4 x107 x108 x109 x110) - (V4 x111 x112 x113 x114))) (3 : Nat))) → (∀ (x119 : Int), ((x119 = (InI.x0 i23)) → (∀ (x120 : Int), ((x120 = (InI.x1 i23)) → (∀ (x121 : Int), ((x121 = (InI.x2 i23)) → (∀ (x122 : Int), ((x122 = (InI.x3 i23)) → (∀ (x123 : Int), ((x123 = (InI.x0 i47)) → (∀ (x124 : Int), ((x124 = (InI.x1 i47)) → (∀ (x125 : Int), ((x125 = (InI.x2 i47)) → (∀ (x126 : Int), ((x126 = (InI.x3 i47)) → (∀ (x127 : Int), ((x127 = m0) → (∀ (x128 : Int), ((x128 = m1) → (∀ (x129 : Int), ((x129 = m2) → (∀ (x130 : Int), ((x130 = m3) → (((((Wd x119) ∧
 ((Wd x120) ∧
 ((Wd x121) ∧
 (Wd x122)))) ∧
 (((Wd x123) ∧
 ((Wd x124) ∧
 ((Wd x125) ∧
 (Wd x126)))) ∧
 ((Wd x127) ∧
 ((Wd x128) ∧
 ((Wd x129) ∧
 (Wd x130)))))) ∧
 (((V4 x119 x120 x121 x122) < (V4 x127 x128 x129 x130)) ∧
 ((V4 x123 x124 x125 x126) < (V4 x127 x128 x129 x130)))) ∧
 (∀ (x131 : Int), ((x131 = (lm (Int.toNat (((V4 x119 x120 x121 x122) - (V4 x123 x124 x125 x126)) % (V4 x127 x128 x129 x130))) (0 : Nat))) → (∀ (x132 : Int), ((x132 = (lm (Int.toNat (((V4 x119 x120 x121 x122) - (V4 x123 x124 x125 x126)) % (V4 x127 x128 x129 x130))) (1 : Nat))) → (∀ (x133 : Int), ((x133 = (lm (Int.toNat (((V4 x119 x120 x121 x122) - (V4 x123 x124 x125 x126)) % (V4 x127 x128 x129 x130))) (2 : Nat))) → (∀ (x134 : Int), ((x134 = (lm (Int.toNat (((V4 x119 x120 x121 x122) - (V4 x123 x124 x125 x126)) % (V4 x127 x128 x129 x130))) (3 : Nat))) → (∃ (x135 : ImI), ((S x135) ∧
 ((((a0 = a0) ∧
 ((a1 = a1) ∧
 ((a2 = a2) ∧
 (a3 = a3)))) ∧
 (((m0 = m0) ∧
 ((m1 = m1) ∧
 ((m2 = m2) ∧
 (m3 = m3)))) ∧
 (((x115 = (ImI.u0 x135)) ∧
 ((x116 = (ImI.u1 x135)) ∧
 ((x117 = (ImI.u2 x135)) ∧
 (x118 = (ImI.u3 x135))))) ∧
 ((((InI.u0 i47) = (ImI.v0 x135)) ∧
 (((InI.u1 i47) = (ImI.v1 x135)) ∧
 (((InI.u2 i47) = (ImI.v2 x135)) ∧
 ((InI.u3 i47) = (ImI.v3 x135))))) ∧
 (((x131 = (ImI.x0 x135)) ∧
 ((x132 = (ImI.x1 x135)) ∧
 ((x133 = (ImI.x2 x135)) ∧
 (x134 = (ImI.x3 x135))))) ∧
 (((InI.x0 i47) = (ImI.y0 x135)) ∧
 (((InI.x1 i47) = (ImI.y1 x135)) ∧
 (((InI.x2 i47) = (ImI.y2 x135)) ∧
 ((InI.x3 i47) = (ImI.y3 x135)))))))))) ∧
 ((Int.toNat ((V4 (ImI.u0 x135) (ImI.u1 x135) (ImI.u2 x135) (ImI.u3 x135)) + (V4 (ImI.v0 x135) (ImI.v1 x135) (ImI.v2 x135) (ImI.v3 x135)))) < (Int.toNat ((V4 (ImI.u0 i13) (ImI.u1 i13) (ImI.u2 i13) (ImI.u3 i13)) + (V4 (ImI.v0 i13) (ImI.v1 i13) (ImI.v2 i13) (ImI.v3 i13)))))))))))))))))))))))))))))))))))))))))))))))))))))))))))))))))))))))))))))))))))))))))))))))))))) ∧
 (((Bool.not (decide ([x18, x19, x20, x21] = [(1 : Int), (0 : Int), (0 : Int), (0 : Int)]))) = Bool.false) → (∀ (x136 : Int), ((x136 = (ImI.u0 i13)) → (∀ (x137 : Int), ((x137 = (ImI.u1 i13)) → (∀ (x138 : Int), ((x138 = (ImI.u2 i13)) → (∀ (x139 : Int), ((x139 = (ImI.u3 i13)) → ((((decide ([x136, x137, x138, x139] = [(1 : Int), (0 : Int), (0 : Int), (0 : Int)])) = Bool.true) → (∀ (x140 : Int), ((x140 = (ImI.x0 i13)) → (∀ (x141 : Int), ((x141 = (ImI.x1 i13)) → (∀ (x142 : Int), ((x142 = (ImI.x2 i13)) → (∀ (x143 : Int), ((x143 = (ImI.x3 i13)) → (K (SV.agg [(SV.int IntKind.u64 (A.sym x140)), (SV.int IntKind.u64 (A.sym x141)), (SV.int IntKind.u64 (A.sym x142)), (SV.int IntKind.u64 (A.sym x143))]) (memL [((513 : Nat), (Reg.mk Bool.false (Ct.cells [(SV.int IntKind.u64 (A.sym a0)), (SV.int IntKind.u64 (A.sym a1)), (SV.int IntKind.u64 (A.sym a2)), (SV.int IntKind.u64 (A.sym a3))]))), ((521 : Nat), (Reg.mk Bool.false (Ct.cells [(SV.int IntKind.u64 (A.sym m0)), (SV.int IntKind.u64 (A.sym m1)), (SV.int IntKind.u64 (A.sym m2)), (SV.int IntKind.u64 (A.sym m3))]))), ((529 : Nat), (Reg.mk Bool.false (Ct.cells [(SV.int IntKind.u64 (A.sym x140)), (SV.int IntKind.u64 (A.sym x141)), (SV.int IntKind.u64 (A.sym x142)), (SV.int IntKind.u64 (A.sym x143))]))), ((569 : Nat), (Reg.mk Bool.false (Ct.cells [(SV.int IntKind.u64 (A.sym (ImI.u0 i13))), (SV.int IntKind.u64 (A.sym (ImI.u1 i13))), (SV.int IntKind.u64 (A.sym (ImI.u2 i13))), (SV.int IntKind.u64 (A.sym (ImI.u3 i13)))]))), ((577 : Nat), (Reg.mk Bool.false (Ct.cells [(SV.int IntKind.u64 (A.sym (ImI.v0 i13))), (SV.int IntKind.u64 (A.sym (ImI.v1 i13))), (SV.int IntKind.u64 (A.sym (ImI.v2 i13))), (SV.int IntKind.u64 (A.sym (ImI.v3 i13)))]))), ((585 : Nat), (Reg.mk Bool.false (Ct.cells [(SV.int IntKind.u64 (A.sym (ImI.x0 i13))), (SV.int IntKind.u64 (A.sym (ImI.x1 i13))), (SV.int IntKind.u64 (A.sym (ImI.x2 i13))), (SV.int IntKind.u64 (A.sym (ImI.x3 i13)))]))), ((593 : Nat), (Reg.mk Bool.false (Ct.cells [(SV.int IntKind.u64 (A.sym (ImI.y0 i13))), (SV.int IntKind.u64 (A.sym (ImI.y1 i13))), (SV.int IntKind.u64 (A.sym (ImI.y2 i13))), (SV.int IntKind.u64 (A.sym (ImI.y3 i13)))])))]))))))))))) ∧
 (((decide ([x136, x137, x138, x139] = [(1 : Int), (0 : Int), (0 : Int), (0 : Int)])) = Bool.false) → (∀ (x144 : Int), ((x144 = (ImI.y0 i13)) → (∀ (x145 : Int), ((x145 = (ImI.y1 i13)) → (∀ (x146 : Int), ((x146 = (ImI.y2 i13)) → (∀ (x147 : Int), ((x147 = (ImI.y3 i13)) → (K (SV.agg [(SV.int IntKind.u64 (A.sym x144)), (SV.int IntKind.u64 (A.sym x145)), (SV.int IntKind.u64 (A.sym x146)), (SV.int IntKind.u64 (A.sym x147))]) (memL [((513 : Nat), (Reg.mk Bool.false (Ct.cells [(SV.int IntKind.u64 (A.sym a0)), (SV.int IntKind.u64 (A.sym a1)), (SV.int IntKind.u64 (A.sym a2)), (SV.int IntKind.u64 (A.sym a3))]))), ((521 : Nat), (Reg.mk Bool.false (Ct.cells [(SV.int IntKind.u64 (A.sym m0)), (SV.int IntKind.u64 (A.sym m1)), (SV.int IntKind.u64 (A.sym m2)), (SV.int IntKind.u64 (A.sym m3))]))), ((529 : Nat), (Reg.mk Bool.false (Ct.cells [(SV.int IntKind.u64 (A.sym x144)), (SV.int IntKind.u64 (A.sym x145)), (SV.int IntKind.u64 (A.sym x146)), (SV.int IntKind.u64 (A.sym x147))]))), ((569 : Nat), (Reg.mk Bool.false (Ct.cells [(SV.int IntKind.u64 (A.sym (ImI.u0 i13))), (SV.int IntKind.u64 (A.sym (ImI.u1 i13))), (SV.int IntKind.u64 (A.sym (ImI.u2 i13))), (SV.int IntKind.u64 (A.sym (ImI.u3 i13)))]))), ((577 : Nat), (Reg.mk Bool.false (Ct.cells [(SV.int IntKind.u64 (A.sym (ImI.v0 i13))), (SV.int IntKind.u64 (A.sym (ImI.v1 i13))), (SV.int IntKind.u64 (A.sym (ImI.v2 i13))), (SV.int IntKind.u64 (A.sym (ImI.v3 i13)))]))), ((585 : Nat), (Reg.mk Bool.false (Ct.cells [(SV.int IntKind.u64 (A.sym (ImI.x0 i13))), (SV.int IntKind.u64 (A.sym (ImI.x1 i13))), (SV.int IntKind.u64 (A.sym (ImI.x2 i13))), (SV.int IntKind.u64 (A.sym (ImI.x3 i13)))]))), ((593 : Nat), (Reg.mk Bool.false (Ct.cells [(SV.int IntKind.u64 (A.sym (ImI.y0 i13))), (SV.int IntKind.u64 (A.sym (ImI.y1 i13))), (SV.int IntKind.u64 (A.sym (ImI.y2 i13))), (SV.int IntKind.u64 (A.sym (ImI.y3 i13)))])))]))))))))))))))))))))))))))))))) ∧
 (((Bool.not (decide ([x14, x15, x16, x17] = [(1 : Int), (0 : Int), (0 : Int), (0 : Int)]))) = Bool.false) → (∀ (x148 : Int), ((x148 = (ImI.u0 i13)) → (∀ (x149 : Int), ((x149 = (ImI.u1 i13)) → (∀ (x150 : Int), ((x150 = (ImI.u2 i13)) → (∀ (x151 : Int), ((x151 = (ImI.u3 i13)) → ((((decide ([x148, x149, x150, x151] = [(1 : Int), (0 : Int), (0 : Int), (0 : Int)])) = Bool.true) → (∀ (x152 : Int), ((x152 = (ImI.x0 i13)) → (∀ (x153 : Int), ((x153 = (ImI.x1 i13)) → (∀ (x154 : Int), ((x154 = (ImI.x2 i13)) → (∀ (x155 : Int), ((x155 = (ImI.x3 i13)) → (K (SV.agg [(SV.int IntKind.u64 (A.sym x152)), (SV.int IntKind.u64 (A.sym x153)), (SV.int IntKind.u64 (A.sym x154)), (SV.int IntKind.u64 (A.sym x155))]) (memL [((513 : Nat), (Reg.mk Bool.false (Ct.cells [(SV.int IntKind.u64 (A.sym a0)), (SV.int IntKind.u64 (A.sym a1)), (SV.int IntKind.u64 (A.sym a2)), (SV.int IntKind.u64 (A.sym a3))]))), ((521 : Nat), (Reg.mk Bool.false (Ct.cells [(SV.int IntKind.u64 (A.sym m0)), (SV.int IntKind.u64 (A.sym m1)), (SV.int IntKind.u64 (A.sym m2)), (SV.int IntKind.u64 (A.sym m3))]))), ((529 : Nat), (Reg.mk Bool.false (Ct.cells [(SV.int IntKind.u64 (A.sym x152)), (SV.int IntKind.u64 (A.sym x153)), (SV.int IntKind.u64 (A.sym x154)), (SV.int IntKind.u64 (A.sym x155))]))), ((569 : Nat), (Reg.mk Bool.false (Ct.cells [(SV.int IntKind.u64 (A.sym (ImI.u0 i13))), (SV.int IntKind.u64 (A.sym (ImI.u1 i13))), (SV.int IntKind.u64 (A.sym (ImI.u2 i13))), (SV.int IntKind.u64 (A.sym (ImI.u3 i13)))]))), ((577 : Nat), (Reg.mk Bool.false (Ct.cells [(SV.int IntKind.u64 (A.sym (ImI.v0 i13))), (SV.int IntKind.u64 (A.sym (ImI.v1 i13))), (SV.int IntKind.u64 (A.sym (ImI.v2 i13))), (SV.int IntKind.u64 (A.sym (ImI.v3 i13)))]))), ((585 : Nat), (Reg.mk Bool.false (Ct.cells [(SV.int IntKind.u64 (A.sym (ImI.x0 i13))), (SV.int IntKind.u64 (A.sym (ImI.x1 i13))), (SV.int IntKind.u64 (A.sym (ImI.x2 i13))), (SV.int IntKind.u64 (A.sym (ImI.x3 i13)))]))), ((593 : Nat), (Reg.mk Bool.false (Ct.cells [(SV.int IntKind.u64 (A.sym (ImI.y0 i13))), (SV.int IntKind.u64 (A.sym (ImI.y1 i13))), (SV.int IntKind.u64 (A.sym (ImI.y2 i13))), (SV.int IntKind.u64 (A.sym (ImI.y3 i13)))])))]))))))))))) ∧
 (((decide ([x148, x149, x150, x151] = [(1 : Int), (0 : Int), (0 : Int), (0 : Int)])) = Bool.false) → (∀ (x156 : Int), ((x156 = (ImI.y0 i13)) → (∀ (x157 : Int), ((x157 = (ImI.y1 i13)) → (∀ (x158 : Int), ((x158 = (ImI.y2 i13)) → (∀ (x159 : Int), ((x159 = (ImI.y3 i13)) → (K (SV.agg [(SV.int IntKind.u64 (A.sym x156)), (SV.int IntKind.u64 (A.sym x157)), (SV.int IntKind.u64 (A.sym x158)), (SV.int IntKind.u64 (A.sym x159))]) (memL [((513 : Nat), (Reg.mk Bool.false (Ct.cells [(SV.int IntKind.u64 (A.sym a0)), (SV.int IntKind.u64 (A.sym a1)), (SV.int IntKind.u64 (A.sym a2)), (SV.int IntKind.u64 (A.sym a3))]))), ((521 : Nat), (Reg.mk Bool.false (Ct.cells [(SV.int IntKind.u64 (A.sym m0)), (SV.int IntKind.u64 (A.sym m1)), (SV.int IntKind.u64 (A.sym m2)), (SV.int IntKind.u64 (A.sym m3))]))), ((529 : Nat), (Reg.mk Bool.false (Ct.cells [(SV.int IntKind.u64 (A.sym x156)), (SV.int IntKind.u64 (A.sym x157)), (SV.int IntKind.u64 (A.sym x158)), (SV.int IntKind.u64 (A.sym x159))]))), ((569 : Nat), (Reg.mk Bool.false (Ct.cells [(SV.int IntKind.u64 (A.sym (ImI.u0 i13))), (SV.int IntKind.u64 (A.sym (ImI.u1 i13))), (SV.int IntKind.u64 (A.sym (ImI.u2 i13))), (SV.int IntKind.u64 (A.sym (ImI.u3 i13)))]))), ((577 : Nat), (Reg.mk Bool.false (Ct.cells [(SV.int IntKind.u64 (A.sym (ImI.v0 i13))), (SV.int IntKind.u64 (A.sym (ImI.v1 i13))), (SV.int IntKind.u64 (A.sym (ImI.v2 i13))), (SV.int IntKind.u64 (A.sym (ImI.v3 i13)))]))), ((585 : Nat), (Reg.mk Bool.false (Ct.cells [(SV.int IntKind.u64 (A.sym (ImI.x0 i13))), (SV.int IntKind.u64 (A.sym (ImI.x1 i13))), (SV.int IntKind.u64 (A.sym (ImI.x2 i13))), (SV.int IntKind.u64 (A.sym (ImI.x3 i13)))]))), ((593 : Nat), (Reg.mk Bool.false (Ct.cells [(SV.int IntKind.u64 (A.sym (ImI.y0 i13))), (SV.int IntKind.u64 (A.sym (ImI.y1 i13))), (SV.int IntKind.u64 (A.sym (ImI.y2 i13))), (SV.int IntKind.u64 (A.sym (ImI.y3 i13)))])))])))))))))))))))))))))))))))))))))))))))))))))))))))))))))))) := by kernel_rfl

theorem list_lit {a b c d : Int} {A : Nat} (h : Ws a b c d A) (n : Int) (h0 : 0 ≤ n) (h1 : n < 18446744073709551616) : [a, b, c, d] = [n, 0, 0, 0] ↔ (A : Int) = n := by
  obtain ⟨wa, wb, wc, wd⟩ := h.wd
  rw [← h.val]
  simp only [List.cons.injEq, and_true]
  unfold Wd at *
  unfold V4
  omega
def ImT (A : Nat) (u0 v : Int) (i : InI) : Prop := ∃ U X, Ws i.u0 i.u1 i.u2 i.u3 U ∧ Ws i.x0 i.x1 i.x2 i.x3 X ∧ I1P A u0.toNat v.toNat U X
def ImR (A : Nat) (u v0 : Int) (i : InI) : Prop := ∃ V Y, Ws i.u0 i.u1 i.u2 i.u3 V ∧ Ws i.x0 i.x1 i.x2 i.x3 Y ∧ I2P A u.toNat v0.toNat V Y
def ImS (A : Nat) (i : ImI) : Prop := ∃ U V X Y, (Ws i.u0 i.u1 i.u2 i.u3 U ∧ Ws i.v0 i.v1 i.v2 i.v3 V ∧ Ws i.x0 i.x1 i.x2 i.x3 X ∧ Ws i.y0 i.y1 i.y2 i.y3 Y) ∧ ImP A U V X Y
theorem ws_q {x : Nat} (h : x < qN) : Ws (lm x 0) (lm x 1) (lm x 2) (lm x 3) x := ws_lm (Nat.lt_trans h (by decide))
theorem ws_dec {a b c d : Int} {A : Nat} (h : Ws a b c d A) : Ws (lm (A / 2) 0) (lm (A / 2) 1) (lm (A / 2) 2) (lm (A / 2) 3) (A / 2) := ws_lm (Nat.lt_of_le_of_lt (Nat.div_le_self _ _) h.lt)
theorem par {a b c d : Int} {A : Nat} (h : Ws a b c d A) : Int.tmod a 2 = ((A % 2 : Nat) : Int) := by
  have w := h.wd.1
  have v := h.val
  unfold Wd at w
  unfold V4 at v
  rw [Int.tmod_eq_emod_of_nonneg w.1]
  omega
theorem w256_sub {A B : Nat} (h : B ≤ A) (hA : A < 115792089237316195423570985008687907853269984665640564039457584007913129639936) : w256 ((A : Int) - (B : Int)) = A - B := by
  unfold w256
  omega
theorem im_walk {A : Nat} {a0 a1 a2 a3 m0 m1 m2 m3 : Int} {K : SV → Mem → Prop} (ha : Ws a0 a1 a2 a3 A) (hm : Ws m0 m1 m2 m3 qN) (hA : A < qN)
    (hK : A ≠ 0 → ∀ x0 x1 x2 x3, Ws x0 x1 x2 x3 (inv0 A) → ∀ m, K (ag4 x0 x1 x2 x3) m) (h0 : A = 0 → ∀ m, K (.agg [.int .u64 (.lit 0), .int .u64 (.lit 0), .int .u64 (.lit 0), .int .u64 (.lit 0)]) m) :
    execF cxIm (uIm (ImS A) (ImT A) (ImR A)) Tryd.f70 64 [ag4 a0 a1 a2 a3, ag4 m0 m1 m2 m3] (memL []) K := by
  rw [vc_im]
  have vm := hm.val
  have wm := hm.wd
  intro s0 ks0 s1 ks1 s2 ks2 s3 ks3 s4 ks4 s5 ks5 s6 ks6 s7 ks7 s8 ks8 s9 ks9 s10 ks10 s11 ks11; subst s0 s1 s2 s3 s4 s5 s6 s7 s8 s9 s10 s11
  refine ⟨fun h => h0 ?_ _, fun h => ?_⟩
  · have := (list_lit ha 0 (by decide) (by decide)).1 (of_decide_eq_true h)
    omega
  have hA0 : A ≠ 0 := by
    intro e
    exact of_decide_eq_false h ((list_lit ha 0 (by decide) (by decide)).2 (by omega))
  clear h h0
  have hK := hK hA0
  refine ⟨⟨⟨a0, a1, a2, a3, m0, m1, m2, m3, 1, 0, 0, 0, 0, 0, 0, 0⟩, ⟨A, qN, 1, 0, ⟨ha, hm, ⟨rfl, rfl, rfl, rfl, by decide⟩, ⟨rfl, rfl, rfl, rfl, by decide⟩⟩, ImP.first (by omega) hA⟩, ⟨rfl, rfl, rfl, rfl⟩, ⟨rfl, rfl, rfl, rfl⟩, ⟨rfl, rfl, rfl, rfl⟩, ⟨rfl, rfl, rfl, rfl⟩, ⟨rfl, rfl, rfl, rfl⟩, rfl, rfl, rfl, rfl⟩, ?_⟩
  rintro ⟨u0, u1, u2, u3, v0, v1, v2, v3, x0, x1, x2, x3, y0, y1, y2, y3⟩ ⟨U, V, X, Y, ⟨hu, hv, hx, hy⟩, P⟩
  dsimp only at hu hv hx hy ⊢
  have vu := hu.val
  have vv := hv.val
  have fin : ∀ m, (U = 1 → K (ag4 x0 x1 x2 x3) m) ∧ (V = 1 → K (ag4 y0 y1 y2 y3) m) := by
    refine fun m => ⟨fun e => hK _ _ _ _ ?_ _, fun e => hK _ _ _ _ ?_ _⟩
    · rw [← inv0_unique P.x (by rw [P.ex, e]; decide)]; exact hx
    · rw [← inv0_unique P.y (by rw [P.ey, e]; decide)]; exact hy
  intro s0 ks0 s1 ks1 s2 ks2 s3 ks3; subst s0 s1 s2 s3
  refine ⟨fun hU => ?_, fun hU => ?_⟩
  rotate_left
  · have hU1 : U = 1 := by
      have := (list_lit hu 1 (by decide) (by decide)).1 (of_decide_eq_true (by simpa using hU))
      omega
    intro s0 ks0 s1 ks1 s2 ks2 s3 ks3; subst s0 s1 s2 s3
    refine ⟨fun h1 => ?_, fun h1 => ?_⟩
    · intro s0 ks0 s1 ks1 s2 ks2 s3 ks3; subst s0 s1 s2 s3
      exact (fin _).1 hU1
    · exact absurd ((list_lit hu 1 (by decide) (by decide)).2 (by omega)) (of_decide_eq_false h1)
  have hU : U ≠ 1 := by
    intro e
    have := (list_lit hu 1 (by decide) (by decide)).2 (by omega)
    rw [this] at hU
    exact absurd hU (by decide)
  intro s0 ks0 s1 ks1 s2 ks2 s3 ks3; subst s0 s1 s2 s3
  refine ⟨fun hV => ?_, fun hV => ?_⟩
  rotate_left
  · have hV1 : V = 1 := by
      have := (list_lit hv 1 (by decide) (by decide)).1 (of_decide_eq_true (by simpa using hV))
      omega
    intro s0 ks0 s1 ks1 s2 ks2 s3 ks3; subst s0 s1 s2 s3
    refine ⟨fun h1 => ?_, fun h1 => ?_⟩
    · have := (list_lit hu 1 (by decide) (by decide)).1 (of_decide_eq_true h1)
      omega
    · intro s0 ks0 s1 ks1 s2 ks2 s3 ks3; subst s0 s1 s2 s3
      exact (fin _).2 hV1
  have hV : V ≠ 1 := by
    intro e
    have := (list_lit hv 1 (by decide) (by decide)).2 (by omega)
    rw [this] at hV
    exact absurd hV (by decide)
  clear fin
  rw [vu, vv]
  refine ⟨⟨⟨u0, u1, u2, u3, x0, x1, x2, x3⟩, ⟨U, X, hu, hx, by rw [Int.toNat_natCast, Int.toNat_natCast]; exact P.in1 hU⟩, ⟨rfl, rfl, rfl, rfl⟩, ⟨rfl, rfl, rfl, rfl⟩, ⟨rfl, rfl, rfl, rfl⟩, ⟨rfl, rfl, rfl, rfl⟩, ⟨rfl, rfl, rfl, rfl⟩, rfl, rfl, rfl, rfl⟩, ?_⟩
  rintro ⟨u0, u1, u2, u3, x0, x1, x2, x3⟩ ⟨U1, X1, hu1, hx1, P1⟩
  rw [Int.toNat_natCast, Int.toNat_natCast] at P1
  dsimp only at hu1 hx1 ⊢
  have vu1 := hu1.val
  rw [par hu1]
  intro p hp
  refine ⟨fun he => ?_, fun he => ?_⟩
  · have he : U1 % 2 = 0 := by
      have : p = 0 := by simpa using he
      omega
    intro s0 ks0 s1 ks1 s2 ks2 s3 ks3; subst s0 s1 s2 s3
    refine ⟨hu1.wd, ?_⟩
    rw [vu1, Int.toNat_natCast]
    intro s0 ks0 s1 ks1 s2 ks2 s3 ks3 s4 ks4 s5 ks5 s6 ks6 s7 ks7 s8 ks8 s9 ks9 s10 ks10 s11 ks11; subst s0 s1 s2 s3 s4 s5 s6 s7 s8 s9 s10 s11
    refine ⟨⟨hx1.wd, wm⟩, ?_⟩
    rw [hx1.val, vm, Int.toNat_natCast, Int.toNat_natCast]
    intro s0 ks0 s1 ks1 s2 ks2 s3 ks3; subst s0 s1 s2 s3
    have P2 := P1.step he
    have hd := ws_dec hu1
    refine ⟨⟨lm (U1 / 2) 0, lm (U1 / 2) 1, lm (U1 / 2) 2, lm (U1 / 2) 3, lm (hvm X1 qN) 0, lm (hvm X1 qN) 1, lm (hvm X1 qN) 2, lm (hvm X1 qN) 3⟩, ⟨U1 / 2, hvm X1 qN, hd, ws_q P2.x, by rw [Int.toNat_natCast, Int.toNat_natCast]; exact P2⟩, ⟨⟨rfl, rfl, rfl, rfl⟩, ⟨rfl, rfl, rfl, rfl⟩, ⟨rfl, rfl, rfl, rfl⟩, ⟨rfl, rfl, rfl, rfl⟩, ⟨rfl, rfl, rfl, rfl⟩, rfl, rfl, rfl, rfl⟩, ?_⟩
    dsimp only
    rw [hd.val]
    have := P2.u
    omega
  have ho : U1 % 2 = 1 := by
    have : ¬ p = 0 := by simpa using he
    omega
  rw [vu1]
  refine ⟨⟨⟨v0, v1, v2, v3, y0, y1, y2, y3⟩, ⟨V, Y, hv, hy, by rw [Int.toNat_natCast, Int.toNat_natCast]; exact P.in2 P1 hV⟩, ⟨rfl, rfl, rfl, rfl⟩, ⟨rfl, rfl, rfl, rfl⟩, ⟨rfl, rfl, rfl, rfl⟩, ⟨rfl, rfl, rfl, rfl⟩, ⟨rfl, rfl, rfl, rfl⟩, rfl, rfl, rfl, rfl⟩, ?_⟩
  rintro ⟨v0, v1, v2, v3, y0, y1, y2, y3⟩ ⟨V1, Y1, hv1, hy1, Q1⟩
  rw [Int.toNat_natCast, Int.toNat_natCast] at Q1
  dsimp only at hv1 hy1 ⊢
  have vv1 := hv1.val
  rw [par hv1]
  clear hp he p
  intro p hp
  refine ⟨fun he => ?_, fun he => ?_⟩
  · have he : V1 % 2 = 0 := by
      have : p = 0 := by simpa using he
      omega
    intro s0 ks0 s1 ks1 s2 ks2 s3 ks3; subst s0 s1 s2 s3
    refine ⟨hv1.wd, ?_⟩
    rw [vv1, Int.toNat_natCast]
    intro s0 ks0 s1 ks1 s2 ks2 s3 ks3 s4 ks4 s5 ks5 s6 ks6 s7 ks7 s8 ks8 s9 ks9 s10 ks10 s11 ks11; subst s0 s1 s2 s3 s4 s5 s6 s7 s8 s9 s10 s11
    refine ⟨⟨hy1.wd, wm⟩, ?_⟩
    rw [hy1.val, vm, Int.toNat_natCast, Int.toNat_natCast]
    intro s0 ks0 s1 ks1 s2 ks2 s3 ks3; subst s0 s1 s2 s3
    have Q2 := Q1.step he
    have hd := ws_dec hv1
    refine ⟨⟨lm (V1 / 2) 0, lm (V1 / 2) 1, lm (V1 / 2) 2, lm (V1 / 2) 3, lm (hvm Y1 qN) 0, lm (hvm Y1 qN) 1, lm (hvm Y1 qN) 2, lm (hvm Y1 qN) 3⟩, ⟨V1 / 2, hvm Y1 qN, hd, ws_q Q2.y, by rw [Int.toNat_natCast, Int.toNat_natCast]; exact Q2⟩, ⟨⟨rfl, rfl, rfl, rfl⟩, ⟨rfl, rfl, rfl, rfl⟩, ⟨rfl, rfl, rfl, rfl⟩, ⟨rfl, rfl, rfl, rfl⟩, ⟨rfl, rfl, rfl, rfl⟩, rfl, rfl, rfl, rfl⟩, ?_⟩
    dsimp only
    rw [hd.val]
    have := Q2.v
    omega
  have he : V1 % 2 = 1 := by
    have : ¬ p = 0 := by simpa using he
    omega
  have hne := out_ne P1 Q1 he
  have lu := P1.l
  have lv := Q1.l
  have pu := P1.u
  have pv := Q1.v
  intro s0 ks0 s1 ks1 s2 ks2 s3 ks3 s4 ks4 s5 ks5 s6 ks6 s7 ks7; subst s0 s1 s2 s3 s4 s5 s6 s7
  refine ⟨⟨hu1.wd, hv1.wd⟩, ?_⟩
  rw [vu1, vv1]
  refine ⟨fun hl => ?_, fun hl => ?_⟩
  · have hl : U1 < V1 := by
      have := of_decide_eq_true hl
      omega
    intro s0 ks0 s1 ks1 s2 ks2 s3 ks3 s4 ks4 s5 ks5 s6 ks6 s7 ks7; subst s0 s1 s2 s3 s4 s5 s6 s7
    refine ⟨⟨hv1.wd, hu1.wd⟩, ?_⟩
    rw [vu1, vv1, w256_sub (Nat.le_of_lt hl) hv1.lt]
    intro s0 ks0 s1 ks1 s2 ks2 s3 ks3 s4 ks4 s5 ks5 s6 ks6 s7 ks7 s8 ks8 s9 ks9 s10 ks10 s11 ks11 s12 ks12 s13 ks13 s14 ks14 s15 ks15; subst s0 s1 s2 s3 s4 s5 s6 s7 s8 s9 s10 s11 s12 s13 s14 s15
    have bx := P1.x
    have b_y := Q1.y
    rw [hx1.val, hy1.val, vm]
    refine ⟨⟨⟨hy1.wd, hx1.wd, wm⟩, by omega, by omega⟩, ?_⟩
    intro s0 ks0 s1 ks1 s2 ks2 s3 ks3; subst s0 s1 s2 s3
    have P2 := out_lt P1 Q1 hl
    have hd := ws_lm (x := V1 - U1) (by have := hv1.lt; omega)
    refine ⟨⟨u0, u1, u2, u3, lm (V1 - U1) 0, lm (V1 - U1) 1, lm (V1 - U1) 2, lm (V1 - U1) 3, x0, x1, x2, x3, lm ((((Y1 : Int) - (X1 : Int)) % (qN : Int)).toNat) 0, lm ((((Y1 : Int) - (X1 : Int)) % (qN : Int)).toNat) 1, lm ((((Y1 : Int) - (X1 : Int)) % (qN : Int)).toNat) 2, lm ((((Y1 : Int) - (X1 : Int)) % (qN : Int)).toNat) 3⟩, ⟨_, _, _, _, ⟨hu1, hd, hx1, ws_q P2.y⟩, P2⟩, ⟨⟨rfl, rfl, rfl, rfl⟩, ⟨rfl, rfl, rfl, rfl⟩, ⟨rfl, rfl, rfl, rfl⟩, ⟨rfl, rfl, rfl, rfl⟩, ⟨rfl, rfl, rfl, rfl⟩, rfl, rfl, rfl, rfl⟩, ?_⟩
    dsimp only
    rw [hd.val, vu1]
    omega
  · have hl : V1 < U1 := by
      have := of_decide_eq_false hl
      omega
    intro s0 ks0 s1 ks1 s2 ks2 s3 ks3 s4 ks4 s5 ks5 s6 ks6 s7 ks7; subst s0 s1 s2 s3 s4 s5 s6 s7
    refine ⟨⟨hu1.wd, hv1.wd⟩, ?_⟩
    rw [vu1, vv1, w256_sub (Nat.le_of_lt hl) hu1.lt]
    intro s0 ks0 s1 ks1 s2 ks2 s3 ks3 s4 ks4 s5 ks5 s6 ks6 s7 ks7 s8 ks8 s9 ks9 s10 ks10 s11 ks11 s12 ks12 s13 ks13 s14 ks14 s15 ks15; subst s0 s1 s2 s3 s4 s5 s6 s7 s8 s9 s10 s11 s12 s13 s14 s15
    have bx := P1.x
    have b_y := Q1.y
    rw [hx1.val, hy1.val, vm]
    refine ⟨⟨⟨hx1.wd, hy1.wd, wm⟩, by omega, by omega⟩, ?_⟩
    intro s0 ks0 s1 ks1 s2 ks2 s3 ks3; subst s0 s1 s2 s3
    have P2 := out_gt P1 Q1 hl
    have hd := ws_lm (x := U1 - V1) (by have := hu1.lt; omega)
    refine ⟨⟨lm (U1 - V1) 0, lm (U1 - V1) 1, lm (U1 - V1) 2, lm (U1 - V1) 3, v0, v1, v2, v3, lm ((((X1 : Int) - (Y1 : Int)) % (qN : Int)).toNat) 0, lm ((((X1 : Int) - (Y1 : Int)) % (qN : Int)).toNat) 1, lm ((((X1 : Int) - (Y1 : Int)) % (qN : Int)).toNat) 2, lm ((((X1 : Int) - (Y1 : Int)) % (qN : Int)).toNat) 3, y0, y1, y2, y3⟩, ⟨_, _, _, _, ⟨hd, hv1, ws_q P2.x, hy1⟩, P2⟩, ⟨⟨rfl, rfl, rfl, rfl⟩, ⟨rfl, rfl, rfl, rfl⟩, ⟨rfl, rfl, rfl, rfl⟩, ⟨rfl, rfl, rfl, rfl⟩, ⟨rfl, rfl, rfl, rfl⟩, rfl, rfl, rfl, rfl⟩, ?_⟩
    dsimp only
    rw [hd.val, vv1]
    omega
def rIm : R0 := fun args l =>
  match args, l with
  | [.agg [.int .u64 (.sym a0), .int .u64 (.sym a1), .int .u64 (.sym a2), .int .u64 (.sym a3)], .agg [.int .u64 (.sym m0), .int .u64 (.sym m1), .int .u64 (.sym m2), .int .u64 (.sym m3)]], [] => some (some (((Wd a0 ∧ Wd a1 ∧ Wd a2 ∧ Wd a3) ∧ (Wd m0 ∧ Wd m1 ∧ Wd m2 ∧ Wd m3)) ∧ V4 a0 a1 a2 a3 < qN ∧ V4 m0 m1 m2 m3 = qN), ag4 (lm (inv0 (V4 a0 a1 a2 a3).toNat) 0) (lm (inv0 (V4 a0 a1 a2 a3).toNat) 1) (lm (inv0 (V4 a0 a1 a2 a3).toNat) 2) (lm (inv0 (V4 a0 a1 a2 a3).toNat) 3))
  | _, _ => none
theorem im_ok (args : List SV) (l : List (Nat × Reg)) (p : Ob) (v : SV) (h : rIm args l = some (p, v)) (hp : p.ok) : ∃ U, execF cxIm U Tryd.f70 64 args (memL l) fun v' _ => ∀ β u, Den β v' u → Den β v u := by
  unfold rIm at h
  split at h
  · rename_i a0 a1 a2 a3 m0 m1 m2 m3
    simp only [Option.some.injEq, Prod.mk.injEq] at h
    obtain ⟨rfl, rfl⟩ := h
    obtain ⟨⟨wa, wm⟩, la, em⟩ := (show ((Wd a0 ∧ Wd a1 ∧ Wd a2 ∧ Wd a3) ∧ (Wd m0 ∧ Wd m1 ∧ Wd m2 ∧ Wd m3)) ∧ V4 a0 a1 a2 a3 < qN ∧ V4 m0 m1 m2 m3 = qN from hp)
    have Ha := ws_of wa.1 wa.2.1 wa.2.2.1 wa.2.2.2
    have Hm := ws_of wm.1 wm.2.1 wm.2.2.1 wm.2.2.2
    rw [em, Int.toNat_natCast] at Hm
    have ea := Ws.val Ha
    generalize (V4 a0 a1 a2 a3).toNat = A at *
    refine ⟨_, im_walk Ha Hm (by omega) (fun _ x0 x1 x2 x3 hx m β u hu => ?_) (fun e m β u hu => ?_)⟩
    · obtain ⟨rfl, rfl, rfl, rfl, _⟩ := hx
      exact hu
    · rw [e, inv0_zero]
      exact hu
  · cases h
def cIm : Rd Tryd.prog := mkQ mixed 70 Tryd.func70 (by decide) (by kernel_rfl) [] [.num, .num] rIm im_ok
end Go.Sx

/- spec.root: the power that is a root, where there is one. -/
namespace Go.Sx
open Go Go.Proofs Go.Num
set_option maxRecDepth 100000
def cxRt : Cx Tryd.prog := { rds := [cPP, cWs, cHv, cPw, cMl], efs := [], eqs := [eq23] }
theorem vc_rt (a0 a1 a2 a3 : Int) (K : SV → Mem → Prop) : (execF cxRt u9 Tryd.f68 64 [ag4 a0 a1 a2 a3] (memL []) K) =
  (((((Wd (4332616871279656263 : Int)) ∧
 ((Wd (10917124144477883021 : Int)) ∧
 ((Wd (13281191951274694749 : Int)) ∧
 (Wd (3486998266802970665 : Int))))) ∧
 ((Wd (1 : Int)) ∧
 ((Wd (0 : Int)) ∧
 ((Wd (0 : Int)) ∧
 (Wd (0 : Int)))))) ∧
 (∀ (x0 : Int), ((x0 = a0) → (∀ (x1 : Int), ((x1 = a1) → (∀ (x2 : Int), ((x2 = a2) → (∀ (x3 : Int), ((x3 = a3) → (∀ (x4 : Int), ((x4 = (4332616871279656264 : Int)) → (∀ (x5 : Int), ((x5 = (10917124144477883021 : Int)) → (∀ (x6 : Int), ((x6 = (13281191951274694749 : Int)) → (∀ (x7 : Int), ((x7 = (3486998266802970665 : Int)) → (((Wd x4) ∧
 ((Wd x5) ∧
 ((Wd x6) ∧
 (Wd x7)))) ∧
 (∀ (x8 : Int), ((x8 = (lm ((Int.toNat (V4 x4 x5 x6 x7)) / (2 : Nat)) (0 : Nat))) → (∀ (x9 : Int), ((x9 = (lm ((Int.toNat (V4 x4 x5 x6 x7)) / (2 : Nat)) (1 : Nat))) → (∀ (x10 : Int), ((x10 = (lm ((Int.toNat (V4 x4 x5 x6 x7)) / (2 : Nat)) (2 : Nat))) → (∀ (x11 : Int), ((x11 = (lm ((Int.toNat (V4 x4 x5 x6 x7)) / (2 : Nat)) (3 : Nat))) → (((Wd x8) ∧
 ((Wd x9) ∧
 ((Wd x10) ∧
 (Wd x11)))) ∧
 (∀ (x12 : Int), ((x12 = (lm ((Int.toNat (V4 x8 x9 x10 x11)) / (2 : Nat)) (0 : Nat))) → (∀ (x13 : Int), ((x13 = (lm ((Int.toNat (V4 x8 x9 x10 x11)) / (2 : Nat)) (1 : Nat))) → (∀ (x14 : Int), ((x14 = (lm ((Int.toNat (V4 x8 x9 x10 x11)) / (2 : Nat)) (2 : Nat))) → (∀ (x15 : Int), ((x15 = (lm ((Int.toNat (V4 x8 x9 x10 x11)) / (2 : Nat)) (3 : Nat))) → ((((Wd x0) ∧
 ((Wd x1) ∧
 ((Wd x2) ∧
 (Wd x3)))) ∧
 ((Wd x12) ∧
 ((Wd x13) ∧
 ((Wd x14) ∧
 (Wd x15))))) ∧
 (∀ (x16 : Int), ((x16 = (lm (Go.Num.pw (21888242871839275222246405745257275088696311157297823662689037894645226208583 : Nat) (256 : Nat) (Int.toNat (V4 x0 x1 x2 x3)) (Int.toNat (V4 x12 x13 x14 x15))) (0 : Nat))) → (∀ (x17 : Int), ((x17 = (lm (Go.Num.pw (21888242871839275222246405745257275088696311157297823662689037894645226208583 : Nat) (256 : Nat) (Int.toNat (V4 x0 x1 x2 x3)) (Int.toNat (V4 x12 x13 x14 x15))) (1 : Nat))) → (∀ (x18 : Int), ((x18 = (lm (Go.Num.pw (21888242871839275222246405745257275088696311157297823662689037894645226208583 : Nat) (256 : Nat) (Int.toNat (V4 x0 x1 x2 x3)) (Int.toNat (V4 x12 x13 x14 x15))) (2 : Nat))) → (∀ (x19 : Int), ((x19 = (lm (Go.Num.pw (21888242871839275222246405745257275088696311157297823662689037894645226208583 : Nat) (256 : Nat) (Int.toNat (V4 x0 x1 x2 x3)) (Int.toNat (V4 x12 x13 x14 x15))) (3 : Nat))) → (∀ (x20 : Int), ((x20 = x16) → (∀ (x21 : Int), ((x21 = x17) → (∀ (x22 : Int), ((x22 = x18) → (∀ (x23 : Int), ((x23 = x19) → (∀ (x24 : Int), ((x24 = x16) → (∀ (x25 : Int), ((x25 = x17) → (∀ (x26 : Int), ((x26 = x18) → (∀ (x27 : Int), ((x27 = x19) → (∀ (x28 : Int), ((x28 = x16) → (∀ (x29 : Int), ((x29 = x17) → (∀ (x30 : Int), ((x30 = x18) → (∀ (x31 : Int), ((x31 = x19) → ((((Wd x24) ∧
 ((Wd x25) ∧
 ((Wd x26) ∧
 (Wd x27)))) ∧
 ((Wd x28) ∧
 ((Wd x29) ∧
 ((Wd x30) ∧
 (Wd x31))))) ∧
 (∀ (x32 : Int), ((x32 = (lm (((Int.toNat (V4 x24 x25 x26 x27)) * (Int.toNat (V4 x28 x29 x30 x31))) % (21888242871839275222246405745257275088696311157297823662689037894645226208583 : Nat)) (0 : Nat))) → (∀ (x33 : Int), ((x33 = (lm (((Int.toNat (V4 x24 x25 x26 x27)) * (Int.toNat (V4 x28 x29 x30 x31))) % (21888242871839275222246405745257275088696311157297823662689037894645226208583 : Nat)) (1 : Nat))) → (∀ (x34 : Int), ((x34 = (lm (((Int.toNat (V4 x24 x25 x26 x27)) * (Int.toNat (V4 x28 x29 x30 x31))) % (21888242871839275222246405745257275088696311157297823662689037894645226208583 : Nat)) (2 : Nat))) → (∀ (x35 : Int), ((x35 = (lm (((Int.toNat (V4 x24 x25 x26 x27)) * (Int.toNat (V4 x28 x29 x30 x31))) % (21888242871839275222246405745257275088696311157297823662689037894645226208583 : Nat)) (3 : Nat))) → (∀ (x36 : Int), ((x36 = a0) → (∀ (x37 : Int), ((x37 = a1) → (∀ (x38 : Int), ((x38 = a2) → (∀ (x39 : Int), ((x39 = a3) → (K (SV.tup [(SV.agg [(SV.int IntKind.u64 (A.sym x20)), (SV.int IntKind.u64 (A.sym x21)), (SV.int IntKind.u64 (A.sym x22)), (SV.int IntKind.u64 (A.sym x23))]), (SV.bool (B.sym (decide ([x32, x33, x34, x35] = [x36, x37, x38, x39]))))]) (memL [((513 : Nat), (Reg.mk Bool.false (Ct.cells [(SV.int IntKind.u64 (A.sym a0)), (SV.int IntKind.u64 (A.sym a1)), (SV.int IntKind.u64 (A.sym a2)), (SV.int IntKind.u64 (A.sym a3))]))), ((521 : Nat), (Reg.mk Bool.false (Ct.cells [(SV.int IntKind.u64 (A.sym x20)), (SV.int IntKind.u64 (A.sym x21)), (SV.int IntKind.u64 (A.sym x22)), (SV.int IntKind.u64 (A.sym x23))]))), ((585 : Nat), (Reg.mk Bool.false (Ct.cells [(SV.int IntKind.u64 (A.sym (4332616871279656264 : Int))), (SV.int IntKind.u64 (A.sym (10917124144477883021 : Int))), (SV.int IntKind.u64 (A.sym (13281191951274694749 : Int))), (SV.int IntKind.u64 (A.sym (3486998266802970665 : Int)))]))), ((649 : Nat), (Reg.mk Bool.false (Ct.cells [(SV.int IntKind.u64 (A.sym x16)), (SV.int IntKind.u64 (A.sym x17)), (SV.int IntKind.u64 (A.sym x18)), (SV.int IntKind.u64 (A.sym x19))])))])))))))))))))))))))))))))))))))))))))))))))))))))))))))))))))))))))))))))))))))))))))))) := by kernel_rfl

theorem w_iff {a b c d e f g h : Int} {A B : Nat} (ha : Ws a b c d A) (hb : Ws e f g h B) : [a, b, c, d] = [e, f, g, h] ↔ A = B := by
  constructor
  · intro l
    simp only [List.cons.injEq, and_true] at l
    obtain ⟨rfl, rfl, rfl, rfl⟩ := l
    have := ha.val
    rw [hb.val] at this
    omega
  · intro e
    subst e
    obtain ⟨rfl, rfl, rfl, rfl, _⟩ := ha
    obtain ⟨rfl, rfl, rfl, rfl, _⟩ := hb
    rfl
theorem one_ws : Ws 1 0 0 0 1 := ⟨rfl, rfl, rfl, rfl, by decide⟩
theorem zero_ws : Ws 0 0 0 0 0 := ⟨rfl, rfl, rfl, rfl, by decide⟩
theorem Vx {a b c d : Int} {A : Nat} (h : Ws a b c d A) : (V4 a b c d).toNat = A := by rw [h.val, Int.toNat_natCast]
theorem lm4_wd (x : Nat) : Wd (lm x 0) ∧ Wd (lm x 1) ∧ Wd (lm x 2) ∧ Wd (lm x 3) := ⟨lm_wd _ _, lm_wd _ _, lm_wd _ _, lm_wd _ _⟩
theorem rt_walk {A : Nat} {a0 a1 a2 a3 : Int} {K : SV → Mem → Prop} (ha : Ws a0 a1 a2 a3 A) (hK : ∀ m, K (.tup [ag4 (lm (rtN A) 0) (lm (rtN A) 1) (lm (rtN A) 2) (lm (rtN A) 3), .bool (.sym (sqN A))]) m) :
    execF cxRt u9 Tryd.f68 64 [ag4 a0 a1 a2 a3] (memL []) K := by
  rw [vc_rt, ← qN_eq]
  refine ⟨⟨q_ws.wd, one_ws.wd⟩, ?_⟩
  intro s0 ks0 s1 ks1 s2 ks2 s3 ks3 s4 ks4 s5 ks5 s6 ks6 s7 ks7; subst s0 s1 s2 s3 s4 s5 s6 s7
  have h1 : Ws 4332616871279656264 10917124144477883021 13281191951274694749 3486998266802970665 (qN + 1) := ⟨by decide, by decide, by decide, by decide, by decide⟩
  refine ⟨h1.wd, ?_⟩
  rw [Vx h1]
  have h2 : Ws (lm ((qN + 1) / 2) 0) (lm ((qN + 1) / 2) 1) (lm ((qN + 1) / 2) 2) (lm ((qN + 1) / 2) 3) ((qN + 1) / 2) := ws_lm (by decide)
  intro s0 ks0 s1 ks1 s2 ks2 s3 ks3; subst s0 s1 s2 s3
  refine ⟨h2.wd, ?_⟩
  rw [Vx h2]
  have h3 : Ws (lm ((qN + 1) / 2 / 2) 0) (lm ((qN + 1) / 2 / 2) 1) (lm ((qN + 1) / 2 / 2) 2) (lm ((qN + 1) / 2 / 2) 3) ((qN + 1) / 2 / 2) := ws_lm (by decide)
  intro s0 ks0 s1 ks1 s2 ks2 s3 ks3; subst s0 s1 s2 s3
  refine ⟨⟨ha.wd, h3.wd⟩, ?_⟩
  rw [Vx h3, Vx ha, show (qN + 1) / 2 / 2 = e4N by decide, show pw qN 256 A e4N = rtN A from rfl]
  intro s0 ks0 s1 ks1 s2 ks2 s3 ks3 s4 ks4 s5 ks5 s6 ks6 s7 ks7 s8 ks8 s9 ks9 s10 ks10 s11 ks11 s12 ks12 s13 ks13 s14 ks14 s15 ks15; subst s0 s1 s2 s3 s4 s5 s6 s7 s8 s9 s10 s11 s12 s13 s14 s15
  have h4 : Ws (lm (rtN A) 0) (lm (rtN A) 1) (lm (rtN A) 2) (lm (rtN A) 3) (rtN A) := ws_q (rtN_lt A)
  refine ⟨⟨h4.wd, h4.wd⟩, ?_⟩
  rw [Vx h4]
  intro s0 ks0 s1 ks1 s2 ks2 s3 ks3 s4 ks4 s5 ks5 s6 ks6 s7 ks7; subst s0 s1 s2 s3 s4 s5 s6 s7
  have h5 := w_iff (ws_q (Nat.mod_lt (rtN A * rtN A) (show 0 < qN by decide))) ha
  rw [decide_eq_decide.2 h5]
  exact hK _
def rRt : R0 := fun args l =>
  match args, l with
  | [.agg [.int .u64 (.sym a0), .int .u64 (.sym a1), .int .u64 (.sym a2), .int .u64 (.sym a3)]], [] => some (some ((Wd a0 ∧ Wd a1 ∧ Wd a2 ∧ Wd a3)), .tup [ag4 (lm (rtN (V4 a0 a1 a2 a3).toNat) 0) (lm (rtN (V4 a0 a1 a2 a3).toNat) 1) (lm (rtN (V4 a0 a1 a2 a3).toNat) 2) (lm (rtN (V4 a0 a1 a2 a3).toNat) 3), .bool (.sym (sqN (V4 a0 a1 a2 a3).toNat))])
  | _, _ => none
theorem Rt_ok (args : List SV) (l : List (Nat × Reg)) (p : Ob) (v : SV) (h : rRt args l = some (p, v)) (hp : p.ok) : ∃ U, execF cxRt U Tryd.f68 64 args (memL l) fun v' _ => v' = v := by
  unfold rRt at h
  split at h
  · rename_i a0 a1 a2 a3
    simp only [Option.some.injEq, Prod.mk.injEq] at h
    obtain ⟨rfl, rfl⟩ := h
    have hp : (Wd a0 ∧ Wd a1 ∧ Wd a2 ∧ Wd a3) := hp
    have A := ws_of hp.1 hp.2.1 hp.2.2.1 hp.2.2.2
    exact ⟨_, rt_walk A fun _ => rfl⟩
  · cases h
def cRt : Rd Tryd.prog := mkR mixed 68 Tryd.func68 (by decide) (by kernel_rfl) [] [.num] rRt Rt_ok
end Go.Sx

/- The power of Sqrt, by its chain of additions. -/
namespace Go.Sx
open Go Go.Proofs Go.Num
set_option maxRecDepth 100000
def cxEs : Cx Tryd.prog := { rds := [], efs := [kSqr, kMulA], eqs := [] }
def uEs : Nat → Lp := fun _ => .un 40
/-- The condition that the code amounts to. -/
def EsC (x0 x1 x2 x3 : Int) (K : SV → Mem → Prop) : Prop :=
 mulC x0 x1 x2 x3 x0 x1 x2 x3 fun p0a p0b p0c p0d => mulC x0 x1 x2 x3 p0a p0b p0c p0d fun p1a p1b p1c p1d => mulC p0a p0b p0c p0d p1a p1b p1c p1d fun p2a p2b p2c p2d => mulC x0 x1 x2 x3 p2a p2b p2c p2d fun p3a p3b p3c p3d =>
 mulC x0 x1 x2 x3 p3a p3b p3c p3d fun p4a p4b p4c p4d => mulC p2a p2b p2c p2d p3a p3b p3c p3d fun p5a p5b p5c p5d => mulC x0 x1 x2 x3 p5a p5b p5c p5d fun p6a p6b p6c p6d => mulC x0 x1 x2 x3 p6a p6b p6c p6d fun p7a p7b p7c p7d =>
 mulC p0a p0b p0c p0d p7a p7b p7c p7d fun p8a p8b p8c p8d => mulC p0a p0b p0c p0d p8a p8b p8c p8d fun p9a p9b p9c p9d => mulC p0a p0b p0c p0d p9a p9b p9c p9d fun p10a p10b p10c p10d => mulC p3a p3b p3c p3d p9a p9b p9c p9d fun p11a p11b p11c p11d =>
 mulC p0a p0b p0c p0d p11a p11b p11c p11d fun p12a p12b p12c p12d => mulC p0a p0b p0c p0d p12a p12b p12c p12d fun p13a p13b p13c p13d => mulC p3a p3b p3c p3d p12a p12b p12c p12d fun p14a p14b p14c p14d => mulC p6a p6b p6c p6d p11a p11b p11c p11d fun p15a p15b p15c p15d =>
 mulC p6a p6b p6c p6d p13a p13b p13c p13d fun p16a p16b p16c p16d => mulC p0a p0b p0c p0d p16a p16b p16c p16d fun p17a p17b p17c p17d => mulC p0a p0b p0c p0d p17a p17b p17c p17d fun p18a p18b p18c p18d => mulC p0a p0b p0c p0d p18a p18b p18c p18d fun p19a p19b p19c p19d =>
 mulC p6a p6b p6c p6d p19a p19b p19c p19d fun p20a p20b p20c p20d => mulC p16a p16b p16c p16d p20a p20b p20c p20d fun p21a p21b p21c p21d => mulC p21a p21b p21c p21d p21a p21b p21c p21d fun p22a p22b p22c p22d => mulC p22a p22b p22c p22d p22a p22b p22c p22d fun p23a p23b p23c p23d =>
 mulC p23a p23b p23c p23d p23a p23b p23c p23d fun p24a p24b p24c p24d => mulC p24a p24b p24c p24d p24a p24b p24c p24d fun p25a p25b p25c p25d => mulC p25a p25b p25c p25d p25a p25b p25c p25d fun p26a p26b p26c p26d => mulC p12a p12b p12c p12d p26a p26b p26c p26d fun p27a p27b p27c p27d =>
 mulC p27a p27b p27c p27d p27a p27b p27c p27d fun p28a p28b p28c p28d => mulC p28a p28b p28c p28d p28a p28b p28c p28d fun p29a p29b p29c p29d => mulC p29a p29b p29c p29d p29a p29b p29c p29d fun p30a p30b p30c p30d => mulC p30a p30b p30c p30d p30a p30b p30c p30d fun p31a p31b p31c p31d =>
 mulC p31a p31b p31c p31d p31a p31b p31c p31d fun p32a p32b p32c p32d => mulC p32a p32b p32c p32d p32a p32b p32c p32d fun p33a p33b p33c p33d => mulC p33a p33b p33c p33d p33a p33b p33c p33d fun p34a p34b p34c p34d => mulC p34a p34b p34c p34d p34a p34b p34c p34d fun p35a p35b p35c p35d =>
 mulC p35a p35b p35c p35d p35a p35b p35c p35d fun p36a p36b p36c p36d => mulC p16a p16b p16c p16d p36a p36b p36c p36d fun p37a p37b p37c p37d => mulC p37a p37b p37c p37d p37a p37b p37c p37d fun p38a p38b p38c p38d => mulC p38a p38b p38c p38d p38a p38b p38c p38d fun p39a p39b p39c p39d =>
 mulC p39a p39b p39c p39d p39a p39b p39c p39d fun p40a p40b p40c p40d => mulC p40a p40b p40c p40d p40a p40b p40c p40d fun p41a p41b p41c p41d => mulC p41a p41b p41c p41d p41a p41b p41c p41d fun p42a p42b p42c p42d => mulC p42a p42b p42c p42d p42a p42b p42c p42d fun p43a p43b p43c p43d =>
 mulC p43a p43b p43c p43d p43a p43b p43c p43d fun p44a p44b p44c p44d => mulC p44a p44b p44c p44d p44a p44b p44c p44d fun p45a p45b p45c p45d => mulC p20a p20b p20c p20d p45a p45b p45c p45d fun p46a p46b p46c p46d => mulC p46a p46b p46c p46d p46a p46b p46c p46d fun p47a p47b p47c p47d =>
 mulC p47a p47b p47c p47d p47a p47b p47c p47d fun p48a p48b p48c p48d => mulC p48a p48b p48c p48d p48a p48b p48c p48d fun p49a p49b p49c p49d => mulC p49a p49b p49c p49d p49a p49b p49c p49d fun p50a p50b p50c p50d => mulC p4a p4b p4c p4d p50a p50b p50c p50d fun p51a p51b p51c p51d =>
 mulC p51a p51b p51c p51d p51a p51b p51c p51d fun p52a p52b p52c p52d => mulC p52a p52b p52c p52d p52a p52b p52c p52d fun p53a p53b p53c p53d => mulC p53a p53b p53c p53d p53a p53b p53c p53d fun p54a p54b p54c p54d => mulC p54a p54b p54c p54d p54a p54b p54c p54d fun p55a p55b p55c p55d =>
 mulC p55a p55b p55c p55d p55a p55b p55c p55d fun p56a p56b p56c p56d => mulC p56a p56b p56c p56d p56a p56b p56c p56d fun p57a p57b p57c p57d => mulC p57a p57b p57c p57d p57a p57b p57c p57d fun p58a p58b p58c p58d => mulC p58a p58b p58c p58d p58a p58b p58c p58d fun p59a p59b p59c p59d =>
 mulC p59a p59b p59c p59d p59a p59b p59c p59d fun p60a p60b p60c p60d => mulC p10a p10b p10c p10d p60a p60b p60c p60d fun p61a p61b p61c p61d => mulC p61a p61b p61c p61d p61a p61b p61c p61d fun p62a p62b p62c p62d => mulC p62a p62b p62c p62d p62a p62b p62c p62d fun p63a p63b p63c p63d =>
 mulC p63a p63b p63c p63d p63a p63b p63c p63d fun p64a p64b p64c p64d => mulC p64a p64b p64c p64d p64a p64b p64c p64d fun p65a p65b p65c p65d => mulC p65a p65b p65c p65d p65a p65b p65c p65d fun p66a p66b p66c p66d => mulC p66a p66b p66c p66d p66a p66b p66c p66d fun p67a p67b p67c p67d =>
 mulC p67a p67b p67c p67d p67a p67b p67c p67d fun p68a p68b p68c p68d => mulC p7a p7b p7c p7d p68a p68b p68c p68d fun p69a p69b p69c p69d => mulC p69a p69b p69c p69d p69a p69b p69c p69d fun p70a p70b p70c p70d => mulC p70a p70b p70c p70d p70a p70b p70c p70d fun p71a p71b p71c p71d =>
 mulC p71a p71b p71c p71d p71a p71b p71c p71d fun p72a p72b p72c p72d => mulC p72a p72b p72c p72d p72a p72b p72c p72d fun p73a p73b p73c p73d => mulC p73a p73b p73c p73d p73a p73b p73c p73d fun p74a p74b p74c p74d => mulC p74a p74b p74c p74d p74a p74b p74c p74d fun p75a p75b p75c p75d =>
 mulC p75a p75b p75c p75d p75a p75b p75c p75d fun p76a p76b p76c p76d => mulC p76a p76b p76c p76d p76a p76b p76c p76d fun p77a p77b p77c p77d => mulC p77a p77b p77c p77d p77a p77b p77c p77d fun p78a p78b p78c p78d => mulC p78a p78b p78c p78d p78a p78b p78c p78d fun p79a p79b p79c p79d =>
 mulC p79a p79b p79c p79d p79a p79b p79c p79d fun p80a p80b p80c p80d => mulC p80a p80b p80c p80d p80a p80b p80c p80d fun p81a p81b p81c p81d => mulC p81a p81b p81c p81d p81a p81b p81c p81d fun p82a p82b p82c p82d => mulC p17a p17b p17c p17d p82a p82b p82c p82d fun p83a p83b p83c p83d =>
 mulC p83a p83b p83c p83d p83a p83b p83c p83d fun p84a p84b p84c p84d => mulC p84a p84b p84c p84d p84a p84b p84c p84d fun p85a p85b p85c p85d => mulC p85a p85b p85c p85d p85a p85b p85c p85d fun p86a p86b p86c p86d => mulC p86a p86b p86c p86d p86a p86b p86c p86d fun p87a p87b p87c p87d =>
 mulC p87a p87b p87c p87d p87a p87b p87c p87d fun p88a p88b p88c p88d => mulC p11a p11b p11c p11d p88a p88b p88c p88d fun p89a p89b p89c p89d => mulC p89a p89b p89c p89d p89a p89b p89c p89d fun p90a p90b p90c p90d => mulC p90a p90b p90c p90d p90a p90b p90c p90d fun p91a p91b p91c p91d =>
 mulC p91a p91b p91c p91d p91a p91b p91c p91d fun p92a p92b p92c p92d => mulC p92a p92b p92c p92d p92a p92b p92c p92d fun p93a p93b p93c p93d => mulC p93a p93b p93c p93d p93a p93b p93c p93d fun p94a p94b p94c p94d => mulC p94a p94b p94c p94d p94a p94b p94c p94d fun p95a p95b p95c p95d =>
 mulC p95a p95b p95c p95d p95a p95b p95c p95d fun p96a p96b p96c p96d => mulC p2a p2b p2c p2d p96a p96b p96c p96d fun p97a p97b p97c p97d => mulC p97a p97b p97c p97d p97a p97b p97c p97d fun p98a p98b p98c p98d => mulC p98a p98b p98c p98d p98a p98b p98c p98d fun p99a p99b p99c p99d =>
 mulC p99a p99b p99c p99d p99a p99b p99c p99d fun p100a p100b p100c p100d => mulC p100a p100b p100c p100d p100a p100b p100c p100d fun p101a p101b p101c p101d => mulC p101a p101b p101c p101d p101a p101b p101c p101d fun p102a p102b p102c p102d => mulC p102a p102b p102c p102d p102a p102b p102c p102d fun p103a p103b p103c p103d =>
 mulC p103a p103b p103c p103d p103a p103b p103c p103d fun p104a p104b p104c p104d => mulC p104a p104b p104c p104d p104a p104b p104c p104d fun p105a p105b p105c p105d => mulC p105a p105b p105c p105d p105a p105b p105c p105d fun p106a p106b p106c p106d => mulC p106a p106b p106c p106d p106a p106b p106c p106d fun p107a p107b p107c p107d =>
 mulC p9a p9b p9c p9d p107a p107b p107c p107d fun p108a p108b p108c p108d => mulC p108a p108b p108c p108d p108a p108b p108c p108d fun p109a p109b p109c p109d => mulC p109a p109b p109c p109d p109a p109b p109c p109d fun p110a p110b p110c p110d => mulC p110a p110b p110c p110d p110a p110b p110c p110d fun p111a p111b p111c p111d =>
 mulC p111a p111b p111c p111d p111a p111b p111c p111d fun p112a p112b p112c p112d => mulC p112a p112b p112c p112d p112a p112b p112c p112d fun p113a p113b p113c p113d => mulC p113a p113b p113c p113d p113a p113b p113c p113d fun p114a p114b p114c p114d => mulC p13a p13b p13c p13d p114a p114b p114c p114d fun p115a p115b p115c p115d =>
 mulC p115a p115b p115c p115d p115a p115b p115c p115d fun p116a p116b p116c p116d => mulC p116a p116b p116c p116d p116a p116b p116c p116d fun p117a p117b p117c p117d => mulC p117a p117b p117c p117d p117a p117b p117c p117d fun p118a p118b p118c p118d => mulC p118a p118b p118c p118d p118a p118b p118c p118d fun p119a p119b p119c p119d =>
 mulC p119a p119b p119c p119d p119a p119b p119c p119d fun p120a p120b p120c p120d => mulC p7a p7b p7c p7d p120a p120b p120c p120d fun p121a p121b p121c p121d => mulC p121a p121b p121c p121d p121a p121b p121c p121d fun p122a p122b p122c p122d => mulC p122a p122b p122c p122d p122a p122b p122c p122d fun p123a p123b p123c p123d =>
 mulC p123a p123b p123c p123d p123a p123b p123c p123d fun p124a p124b p124c p124d => mulC p124a p124b p124c p124d p124a p124b p124c p124d fun p125a p125b p125c p125d => mulC p125a p125b p125c p125d p125a p125b p125c p125d fun p126a p126b p126c p126d => mulC p126a p126b p126c p126d p126a p126b p126c p126d fun p127a p127b p127c p127d =>
 mulC p127a p127b p127c p127d p127a p127b p127c p127d fun p128a p128b p128c p128d => mulC p128a p128b p128c p128d p128a p128b p128c p128d fun p129a p129b p129c p129d => mulC p1a p1b p1c p1d p129a p129b p129c p129d fun p130a p130b p130c p130d => mulC p130a p130b p130c p130d p130a p130b p130c p130d fun p131a p131b p131c p131d =>
 mulC p131a p131b p131c p131d p131a p131b p131c p131d fun p132a p132b p132c p132d => mulC p132a p132b p132c p132d p132a p132b p132c p132d fun p133a p133b p133c p133d => mulC p133a p133b p133c p133d p133a p133b p133c p133d fun p134a p134b p134c p134d => mulC p134a p134b p134c p134d p134a p134b p134c p134d fun p135a p135b p135c p135d =>
 mulC p135a p135b p135c p135d p135a p135b p135c p135d fun p136a p136b p136c p136d => mulC p136a p136b p136c p136d p136a p136b p136c p136d fun p137a p137b p137c p137d => mulC p137a p137b p137c p137d p137a p137b p137c p137d fun p138a p138b p138c p138d => mulC p138a p138b p138c p138d p138a p138b p138c p138d fun p139a p139b p139c p139d =>
 mulC p139a p139b p139c p139d p139a p139b p139c p139d fun p140a p140b p140c p140d => mulC p140a p140b p140c p140d p140a p140b p140c p140d fun p141a p141b p141c p141d => mulC p141a p141b p141c p141d p141a p141b p141c p141d fun p142a p142b p142c p142d => mulC p18a p18b p18c p18d p142a p142b p142c p142d fun p143a p143b p143c p143d =>
 mulC p143a p143b p143c p143d p143a p143b p143c p143d fun p144a p144b p144c p144d => mulC p144a p144b p144c p144d p144a p144b p144c p144d fun p145a p145b p145c p145d => mulC p145a p145b p145c p145d p145a p145b p145c p145d fun p146a p146b p146c p146d => mulC p146a p146b p146c p146d p146a p146b p146c p146d fun p147a p147b p147c p147d =>
 mulC p147a p147b p147c p147d p147a p147b p147c p147d fun p148a p148b p148c p148d => mulC p148a p148b p148c p148d p148a p148b p148c p148d fun p149a p149b p149c p149d => mulC p149a p149b p149c p149d p149a p149b p149c p149d fun p150a p150b p150c p150d => mulC p150a p150b p150c p150d p150a p150b p150c p150d fun p151a p151b p151c p151d =>
 mulC p151a p151b p151c p151d p151a p151b p151c p151d fun p152a p152b p152c p152d => mulC p11a p11b p11c p11d p152a p152b p152c p152d fun p153a p153b p153c p153d => mulC p153a p153b p153c p153d p153a p153b p153c p153d fun p154a p154b p154c p154d => mulC p154a p154b p154c p154d p154a p154b p154c p154d fun p155a p155b p155c p155d =>
 mulC p155a p155b p155c p155d p155a p155b p155c p155d fun p156a p156b p156c p156d => mulC p156a p156b p156c p156d p156a p156b p156c p156d fun p157a p157b p157c p157d => mulC p157a p157b p157c p157d p157a p157b p157c p157d fun p158a p158b p158c p158d => mulC p158a p158b p158c p158d p158a p158b p158c p158d fun p159a p159b p159c p159d =>
 mulC p12a p12b p12c p12d p159a p159b p159c p159d fun p160a p160b p160c p160d => mulC p160a p160b p160c p160d p160a p160b p160c p160d fun p161a p161b p161c p161d => mulC p161a p161b p161c p161d p161a p161b p161c p161d fun p162a p162b p162c p162d => mulC p162a p162b p162c p162d p162a p162b p162c p162d fun p163a p163b p163c p163d =>
 mulC p163a p163b p163c p163d p163a p163b p163c p163d fun p164a p164b p164c p164d => mulC p164a p164b p164c p164d p164a p164b p164c p164d fun p165a p165b p165c p165d => mulC p8a p8b p8c p8d p165a p165b p165c p165d fun p166a p166b p166c p166d => mulC p166a p166b p166c p166d p166a p166b p166c p166d fun p167a p167b p167c p167d =>
 mulC p167a p167b p167c p167d p167a p167b p167c p167d fun p168a p168b p168c p168d => mulC p168a p168b p168c p168d p168a p168b p168c p168d fun p169a p169b p169c p169d => mulC p169a p169b p169c p169d p169a p169b p169c p169d fun p170a p170b p170c p170d => mulC p170a p170b p170c p170d p170a p170b p170c p170d fun p171a p171b p171c p171d =>
 mulC p171a p171b p171c p171d p171a p171b p171c p171d fun p172a p172b p172c p172d => mulC p172a p172b p172c p172d p172a p172b p172c p172d fun p173a p173b p173c p173d => mulC p173a p173b p173c p173d p173a p173b p173c p173d fun p174a p174b p174c p174d => mulC p174a p174b p174c p174d p174a p174b p174c p174d fun p175a p175b p175c p175d =>
 mulC p175a p175b p175c p175d p175a p175b p175c p175d fun p176a p176b p176c p176d => mulC p176a p176b p176c p176d p176a p176b p176c p176d fun p177a p177b p177c p177d => mulC p177a p177b p177c p177d p177a p177b p177c p177d fun p178a p178b p178c p178d => mulC p19a p19b p19c p19d p178a p178b p178c p178d fun p179a p179b p179c p179d =>
 mulC p179a p179b p179c p179d p179a p179b p179c p179d fun p180a p180b p180c p180d => mulC p180a p180b p180c p180d p180a p180b p180c p180d fun p181a p181b p181c p181d => mulC p181a p181b p181c p181d p181a p181b p181c p181d fun p182a p182b p182c p182d => mulC p182a p182b p182c p182d p182a p182b p182c p182d fun p183a p183b p183c p183d =>
 mulC p183a p183b p183c p183d p183a p183b p183c p183d fun p184a p184b p184c p184d => mulC p184a p184b p184c p184d p184a p184b p184c p184d fun p185a p185b p185c p185d => mulC p185a p185b p185c p185d p185a p185b p185c p185d fun p186a p186b p186c p186d => mulC p17a p17b p17c p17d p186a p186b p186c p186d fun p187a p187b p187c p187d =>
 mulC p187a p187b p187c p187d p187a p187b p187c p187d fun p188a p188b p188c p188d => mulC p188a p188b p188c p188d p188a p188b p188c p188d fun p189a p189b p189c p189d => mulC p189a p189b p189c p189d p189a p189b p189c p189d fun p190a p190b p190c p190d => mulC p190a p190b p190c p190d p190a p190b p190c p190d fun p191a p191b p191c p191d =>
 mulC p191a p191b p191c p191d p191a p191b p191c p191d fun p192a p192b p192c p192d => mulC p192a p192b p192c p192d p192a p192b p192c p192d fun p193a p193b p193c p193d => mulC p193a p193b p193c p193d p193a p193b p193c p193d fun p194a p194b p194c p194d => mulC p194a p194b p194c p194d p194a p194b p194c p194d fun p195a p195b p195c p195d =>
 mulC p195a p195b p195c p195d p195a p195b p195c p195d fun p196a p196b p196c p196d => mulC p19a p19b p19c p19d p196a p196b p196c p196d fun p197a p197b p197c p197d => mulC p197a p197b p197c p197d p197a p197b p197c p197d fun p198a p198b p198c p198d => mulC p198a p198b p198c p198d p198a p198b p198c p198d fun p199a p199b p199c p199d =>
 mulC p199a p199b p199c p199d p199a p199b p199c p199d fun p200a p200b p200c p200d => mulC p200a p200b p200c p200d p200a p200b p200c p200d fun p201a p201b p201c p201d => mulC p201a p201b p201c p201d p201a p201b p201c p201d fun p202a p202b p202c p202d => mulC p202a p202b p202c p202d p202a p202b p202c p202d fun p203a p203b p203c p203d =>
 mulC p203a p203b p203c p203d p203a p203b p203c p203d fun p204a p204b p204c p204d => mulC p4a p4b p4c p4d p204a p204b p204c p204d fun p205a p205b p205c p205d => mulC p205a p205b p205c p205d p205a p205b p205c p205d fun p206a p206b p206c p206d => mulC p206a p206b p206c p206d p206a p206b p206c p206d fun p207a p207b p207c p207d =>
 mulC p207a p207b p207c p207d p207a p207b p207c p207d fun p208a p208b p208c p208d => mulC p208a p208b p208c p208d p208a p208b p208c p208d fun p209a p209b p209c p209d => mulC p209a p209b p209c p209d p209a p209b p209c p209d fun p210a p210b p210c p210d => mulC p210a p210b p210c p210d p210a p210b p210c p210d fun p211a p211b p211c p211d =>
 mulC p211a p211b p211c p211d p211a p211b p211c p211d fun p212a p212b p212c p212d => mulC p212a p212b p212c p212d p212a p212b p212c p212d fun p213a p213b p213c p213d => mulC p213a p213b p213c p213d p213a p213b p213c p213d fun p214a p214b p214c p214d => mulC p20a p20b p20c p20d p214a p214b p214c p214d fun p215a p215b p215c p215d =>
 mulC p215a p215b p215c p215d p215a p215b p215c p215d fun p216a p216b p216c p216d => mulC p216a p216b p216c p216d p216a p216b p216c p216d fun p217a p217b p217c p217d => mulC p217a p217b p217c p217d p217a p217b p217c p217d fun p218a p218b p218c p218d => mulC p218a p218b p218c p218d p218a p218b p218c p218d fun p219a p219b p219c p219d =>
 mulC p2a p2b p2c p2d p219a p219b p219c p219d fun p220a p220b p220c p220d => mulC p220a p220b p220c p220d p220a p220b p220c p220d fun p221a p221b p221c p221d => mulC p221a p221b p221c p221d p221a p221b p221c p221d fun p222a p222b p222c p222d => mulC p222a p222b p222c p222d p222a p222b p222c p222d fun p223a p223b p223c p223d =>
 mulC p223a p223b p223c p223d p223a p223b p223c p223d fun p224a p224b p224c p224d => mulC p224a p224b p224c p224d p224a p224b p224c p224d fun p225a p225b p225c p225d => mulC p225a p225b p225c p225d p225a p225b p225c p225d fun p226a p226b p226c p226d => mulC p226a p226b p226c p226d p226a p226b p226c p226d fun p227a p227b p227c p227d =>
 mulC p7a p7b p7c p7d p227a p227b p227c p227d fun p228a p228b p228c p228d => mulC p228a p228b p228c p228d p228a p228b p228c p228d fun p229a p229b p229c p229d => mulC p229a p229b p229c p229d p229a p229b p229c p229d fun p230a p230b p230c p230d => mulC p230a p230b p230c p230d p230a p230b p230c p230d fun p231a p231b p231c p231d =>
 mulC p231a p231b p231c p231d p231a p231b p231c p231d fun p232a p232b p232c p232d => mulC p232a p232b p232c p232d p232a p232b p232c p232d fun p233a p233b p233c p233d => mulC p233a p233b p233c p233d p233a p233b p233c p233d fun p234a p234b p234c p234d => mulC p8a p8b p8c p8d p234a p234b p234c p234d fun p235a p235b p235c p235d =>
 mulC p235a p235b p235c p235d p235a p235b p235c p235d fun p236a p236b p236c p236d => mulC p236a p236b p236c p236d p236a p236b p236c p236d fun p237a p237b p237c p237d => mulC p237a p237b p237c p237d p237a p237b p237c p237d fun p238a p238b p238c p238d => mulC p238a p238b p238c p238d p238a p238b p238c p238d fun p239a p239b p239c p239d =>
 mulC p239a p239b p239c p239d p239a p239b p239c p239d fun p240a p240b p240c p240d => mulC x0 x1 x2 x3 p240a p240b p240c p240d fun p241a p241b p241c p241d => mulC p241a p241b p241c p241d p241a p241b p241c p241d fun p242a p242b p242c p242d => mulC p242a p242b p242c p242d p242a p242b p242c p242d fun p243a p243b p243c p243d =>
 mulC p243a p243b p243c p243d p243a p243b p243c p243d fun p244a p244b p244c p244d => mulC p244a p244b p244c p244d p244a p244b p244c p244d fun p245a p245b p245c p245d => mulC p245a p245b p245c p245d p245a p245b p245c p245d fun p246a p246b p246c p246d => mulC p246a p246b p246c p246d p246a p246b p246c p246d fun p247a p247b p247c p247d =>
 mulC p247a p247b p247c p247d p247a p247b p247c p247d fun p248a p248b p248c p248d => mulC p248a p248b p248c p248d p248a p248b p248c p248d fun p249a p249b p249c p249d => mulC p249a p249b p249c p249d p249a p249b p249c p249d fun p250a p250b p250c p250d => mulC p250a p250b p250c p250d p250a p250b p250c p250d fun p251a p251b p251c p251d =>
 mulC p251a p251b p251c p251d p251a p251b p251c p251d fun p252a p252b p252c p252d => mulC p15a p15b p15c p15d p252a p252b p252c p252d fun p253a p253b p253c p253d => mulC p253a p253b p253c p253d p253a p253b p253c p253d fun p254a p254b p254c p254d => mulC p254a p254b p254c p254d p254a p254b p254c p254d fun p255a p255b p255c p255d =>
 mulC p255a p255b p255c p255d p255a p255b p255c p255d fun p256a p256b p256c p256d => mulC p256a p256b p256c p256d p256a p256b p256c p256d fun p257a p257b p257c p257d => mulC p257a p257b p257c p257d p257a p257b p257c p257d fun p258a p258b p258c p258d => mulC p258a p258b p258c p258d p258a p258b p258c p258d fun p259a p259b p259c p259d =>
 mulC p259a p259b p259c p259d p259a p259b p259c p259d fun p260a p260b p260c p260d => mulC p260a p260b p260c p260d p260a p260b p260c p260d fun p261a p261b p261c p261d => mulC p261a p261b p261c p261d p261a p261b p261c p261d fun p262a p262b p262c p262d => mulC p262a p262b p262c p262d p262a p262b p262c p262d fun p263a p263b p263c p263d =>
 mulC p263a p263b p263c p263d p263a p263b p263c p263d fun p264a p264b p264c p264d => mulC p19a p19b p19c p19d p264a p264b p264c p264d fun p265a p265b p265c p265d => mulC p265a p265b p265c p265d p265a p265b p265c p265d fun p266a p266b p266c p266d => mulC p266a p266b p266c p266d p266a p266b p266c p266d fun p267a p267b p267c p267d =>
 mulC p267a p267b p267c p267d p267a p267b p267c p267d fun p268a p268b p268c p268d => mulC p268a p268b p268c p268d p268a p268b p268c p268d fun p269a p269b p269c p269d => mulC p5a p5b p5c p5d p269a p269b p269c p269d fun p270a p270b p270c p270d => mulC p270a p270b p270c p270d p270a p270b p270c p270d fun p271a p271b p271c p271d =>
 mulC p271a p271b p271c p271d p271a p271b p271c p271d fun p272a p272b p272c p272d => mulC p272a p272b p272c p272d p272a p272b p272c p272d fun p273a p273b p273c p273d => mulC p273a p273b p273c p273d p273a p273b p273c p273d fun p274a p274b p274c p274d => mulC p274a p274b p274c p274d p274a p274b p274c p274d fun p275a p275b p275c p275d =>
 mulC p275a p275b p275c p275d p275a p275b p275c p275d fun p276a p276b p276c p276d => mulC p276a p276b p276c p276d p276a p276b p276c p276d fun p277a p277b p277c p277d => mulC p277a p277b p277c p277d p277a p277b p277c p277d fun p278a p278b p278c p278d => mulC p278a p278b p278c p278d p278a p278b p278c p278d fun p279a p279b p279c p279d =>
 mulC p14a p14b p14c p14d p279a p279b p279c p279d fun p280a p280b p280c p280d => mulC p280a p280b p280c p280d p280a p280b p280c p280d fun p281a p281b p281c p281d => mulC p281a p281b p281c p281d p281a p281b p281c p281d fun p282a p282b p282c p282d => mulC p282a p282b p282c p282d p282a p282b p282c p282d fun p283a p283b p283c p283d =>
 mulC p283a p283b p283c p283d p283a p283b p283c p283d fun p284a p284b p284c p284d => mulC p284a p284b p284c p284d p284a p284b p284c p284d fun p285a p285b p285c p285d => mulC p285a p285b p285c p285d p285a p285b p285c p285d fun p286a p286b p286c p286d => mulC p286a p286b p286c p286d p286a p286b p286c p286d fun p287a p287b p287c p287d =>
 mulC p287a p287b p287c p287d p287a p287b p287c p287d fun p288a p288b p288c p288d => mulC p20a p20b p20c p20d p288a p288b p288c p288d fun p289a p289b p289c p289d => mulC p3a p3b p3c p3d p289a p289b p289c p289d fun p290a p290b p290c p290d => mulC p290a p290b p290c p290d p290a p290b p290c p290d fun p291a p291b p291c p291d =>
 mulC p291a p291b p291c p291d p291a p291b p291c p291d fun p292a p292b p292c p292d => mulC p292a p292b p292c p292d p292a p292b p292c p292d fun p293a p293b p293c p293d => mulC p293a p293b p293c p293d p293a p293b p293c p293d fun p294a p294b p294c p294d => mulC p294a p294b p294c p294d p294a p294b p294c p294d fun p295a p295b p295c p295d =>
 mulC p295a p295b p295c p295d p295a p295b p295c p295d fun p296a p296b p296c p296d => mulC p296a p296b p296c p296d p296a p296b p296c p296d fun p297a p297b p297c p297d => mulC p17a p17b p17c p17d p297a p297b p297c p297d fun p298a p298b p298c p298d => mulC p298a p298b p298c p298d p298a p298b p298c p298d fun p299a p299b p299c p299d =>
 K (.ptr 1 (.lit 0)) (memL [(1, ⟨false, w4 p299a p299b p299c p299d⟩), (513, ⟨false, w4 x0 x1 x2 x3⟩), (529, ⟨false, w4 p297a p297b p297c p297d⟩), (537, ⟨false, w4 p289a p289b p289c p289d⟩), (545, ⟨false, w4 p288a p288b p288c p288d⟩), (553, ⟨false, w4 p279a p279b p279c p279d⟩), (561, ⟨false, w4 p269a p269b p269c p269d⟩), (569, ⟨false, w4 p264a p264b p264c p264d⟩), (577, ⟨false, w4 p252a p252b p252c p252d⟩), (585, ⟨false, w4 p234a p234b p234c p234d⟩), (593, ⟨false, w4 p227a p227b p227c p227d⟩), (601, ⟨false, w4 p219a p219b p219c p219d⟩), (609, ⟨false, w4 p204a p204b p204c p204d⟩), (617, ⟨false, w4 p159a p159b p159c p159d⟩), (625, ⟨false, w4 p152a p152b p152c p152d⟩), (633, ⟨false, w4 p142a p142b p142c p142d⟩), (641, ⟨false, w4 p129a p129b p129c p129d⟩), (649, ⟨false, w4 p114a p114b p114c p114d⟩), (657, ⟨false, w4 p107a p107b p107c p107d⟩), (665, ⟨false, w4 p60a p60b p60c p60d⟩), (673, ⟨false, w4 p36a p36b p36c p36d⟩)])
theorem vc_es (z0 z1 z2 z3 x0 x1 x2 x3 : Int) (K : SV → Mem → Prop) : execF cxEs uEs Tryd.f62 64 [.ptr 1 (.lit 0), ag4 x0 x1 x2 x3] (memL [(1, ⟨false, w4 z0 z1 z2 z3⟩)]) K = EsC x0 x1 x2 x3 K := by kernel_rfl
/-- The power, by what is left of it. -/
def EP (X e : Nat) (a b c d : Int) : Prop := El a b c d (mont (X ^ e))
theorem mulC_e {X e f g : Nat} {a0 a1 a2 a3 b0 b1 b2 b3 : Int} {K : Int → Int → Int → Int → Prop} (ha : EP X e a0 a1 a2 a3) (hb : EP X f b0 b1 b2 b3) (hg : e + f = g)
    (h : ∀ y0 y1 y2 y3, EP X g y0 y1 y2 y3 → K y0 y1 y2 y3) : mulC a0 a1 a2 a3 b0 b1 b2 b3 K :=
  ⟨_, _, ⟨El.ws ha, hb⟩, fun r hr y0 y1 y2 y3 hy => h y0 y1 y2 y3 (by rw [mont_mul, ← Nat.pow_add, hg] at hr; rw [hr] at hy; exact hy)⟩
theorem es_walk {X : Nat} {x0 x1 x2 x3 : Int} {K : SV → Mem → Prop} (hup : KUp K) (hx : EP X 1 x0 x1 x2 x3) (hK : ∀ y0 y1 y2 y3, EP X e4N y0 y1 y2 y3 → K (.ptr 1 (.lit 0)) (memL [(1, ⟨false, w4 y0 y1 y2 y3⟩)])) :
    EsC x0 x1 x2 x3 K := by
  unfold EsC
  refine mulC_e (g := 2) hx hx rfl ?_
  intro p0a p0b p0c p0d h0
  refine mulC_e (g := 3) hx h0 rfl ?_
  intro p1a p1b p1c p1d h1
  refine mulC_e (g := 5) h0 h1 rfl ?_
  intro p2a p2b p2c p2d h2
  refine mulC_e (g := 6) hx h2 rfl ?_
  intro p3a p3b p3c p3d h3
  refine mulC_e (g := 7) hx h3 rfl ?_
  intro p4a p4b p4c p4d h4
  refine mulC_e (g := 11) h2 h3 rfl ?_
  intro p5a p5b p5c p5d h5
  refine mulC_e (g := 12) hx h5 rfl ?_
  intro p6a p6b p6c p6d h6
  refine mulC_e (g := 13) hx h6 rfl ?_
  intro p7a p7b p7c p7d h7
  refine mulC_e (g := 15) h0 h7 rfl ?_
  intro p8a p8b p8c p8d h8
  refine mulC_e (g := 17) h0 h8 rfl ?_
  intro p9a p9b p9c p9d h9
  refine mulC_e (g := 19) h0 h9 rfl ?_
  intro p10a p10b p10c p10d h10
  refine mulC_e (g := 23) h3 h9 rfl ?_
  intro p11a p11b p11c p11d h11
  refine mulC_e (g := 25) h0 h11 rfl ?_
  intro p12a p12b p12c p12d h12
  refine mulC_e (g := 27) h0 h12 rfl ?_
  intro p13a p13b p13c p13d h13
  refine mulC_e (g := 31) h3 h12 rfl ?_
  intro p14a p14b p14c p14d h14
  refine mulC_e (g := 35) h6 h11 rfl ?_
  intro p15a p15b p15c p15d h15
  refine mulC_e (g := 39) h6 h13 rfl ?_
  intro p16a p16b p16c p16d h16
  refine mulC_e (g := 41) h0 h16 rfl ?_
  intro p17a p17b p17c p17d h17
  refine mulC_e (g := 43) h0 h17 rfl ?_
  intro p18a p18b p18c p18d h18
  refine mulC_e (g := 45) h0 h18 rfl ?_
  intro p19a p19b p19c p19d h19
  refine mulC_e (g := 57) h6 h19 rfl ?_
  intro p20a p20b p20c p20d h20
  refine mulC_e (g := 96) h16 h20 rfl ?_
  intro p21a p21b p21c p21d h21
  refine mulC_e (g := 192) h21 h21 rfl ?_
  intro p22a p22b p22c p22d h22
  refine mulC_e (g := 384) h22 h22 rfl ?_
  intro p23a p23b p23c p23d h23
  refine mulC_e (g := 768) h23 h23 rfl ?_
  intro p24a p24b p24c p24d h24
  refine mulC_e (g := 1536) h24 h24 rfl ?_
  intro p25a p25b p25c p25d h25
  refine mulC_e (g := 3072) h25 h25 rfl ?_
  intro p26a p26b p26c p26d h26
  refine mulC_e (g := 3097) h12 h26 rfl ?_
  intro p27a p27b p27c p27d h27
  refine mulC_e (g := 6194) h27 h27 rfl ?_
  intro p28a p28b p28c p28d h28
  refine mulC_e (g := 12388) h28 h28 rfl ?_
  intro p29a p29b p29c p29d h29
  refine mulC_e (g := 24776) h29 h29 rfl ?_
  intro p30a p30b p30c p30d h30
  refine mulC_e (g := 49552) h30 h30 rfl ?_
  intro p31a p31b p31c p31d h31
  refine mulC_e (g := 99104) h31 h31 rfl ?_
  intro p32a p32b p32c p32d h32
  refine mulC_e (g := 198208) h32 h32 rfl ?_
  intro p33a p33b p33c p33d h33
  refine mulC_e (g := 396416) h33 h33 rfl ?_
  intro p34a p34b p34c p34d h34
  refine mulC_e (g := 792832) h34 h34 rfl ?_
  intro p35a p35b p35c p35d h35
  refine mulC_e (g := 1585664) h35 h35 rfl ?_
  intro p36a p36b p36c p36d h36
  refine mulC_e (g := 1585703) h16 h36 rfl ?_
  intro p37a p37b p37c p37d h37
  refine mulC_e (g := 3171406) h37 h37 rfl ?_
  intro p38a p38b p38c p38d h38
  refine mulC_e (g := 6342812) h38 h38 rfl ?_
  intro p39a p39b p39c p39d h39
  refine mulC_e (g := 12685624) h39 h39 rfl ?_
  intro p40a p40b p40c p40d h40
  refine mulC_e (g := 25371248) h40 h40 rfl ?_
  intro p41a p41b p41c p41d h41
  refine mulC_e (g := 50742496) h41 h41 rfl ?_
  intro p42a p42b p42c p42d h42
  refine mulC_e (g := 101484992) h42 h42 rfl ?_
  intro p43a p43b p43c p43d h43
  refine mulC_e (g := 202969984) h43 h43 rfl ?_
  intro p44a p44b p44c p44d h44
  refine mulC_e (g := 405939968) h44 h44 rfl ?_
  intro p45a p45b p45c p45d h45
  refine mulC_e (g := 405940025) h20 h45 rfl ?_
  intro p46a p46b p46c p46d h46
  refine mulC_e (g := 811880050) h46 h46 rfl ?_
  intro p47a p47b p47c p47d h47
  refine mulC_e (g := 1623760100) h47 h47 rfl ?_
  intro p48a p48b p48c p48d h48
  refine mulC_e (g := 3247520200) h48 h48 rfl ?_
  intro p49a p49b p49c p49d h49
  refine mulC_e (g := 6495040400) h49 h49 rfl ?_
  intro p50a p50b p50c p50d h50
  refine mulC_e (g := 6495040407) h4 h50 rfl ?_
  intro p51a p51b p51c p51d h51
  refine mulC_e (g := 12990080814) h51 h51 rfl ?_
  intro p52a p52b p52c p52d h52
  refine mulC_e (g := 25980161628) h52 h52 rfl ?_
  intro p53a p53b p53c p53d h53
  refine mulC_e (g := 51960323256) h53 h53 rfl ?_
  intro p54a p54b p54c p54d h54
  refine mulC_e (g := 103920646512) h54 h54 rfl ?_
  intro p55a p55b p55c p55d h55
  refine mulC_e (g := 207841293024) h55 h55 rfl ?_
  intro p56a p56b p56c p56d h56
  refine mulC_e (g := 415682586048) h56 h56 rfl ?_
  intro p57a p57b p57c p57d h57
  refine mulC_e (g := 831365172096) h57 h57 rfl ?_
  intro p58a p58b p58c p58d h58
  refine mulC_e (g := 1662730344192) h58 h58 rfl ?_
  intro p59a p59b p59c p59d h59
  refine mulC_e (g := 3325460688384) h59 h59 rfl ?_
  intro p60a p60b p60c p60d h60
  refine mulC_e (g := 3325460688403) h10 h60 rfl ?_
  intro p61a p61b p61c p61d h61
  refine mulC_e (g := 6650921376806) h61 h61 rfl ?_
  intro p62a p62b p62c p62d h62
  refine mulC_e (g := 13301842753612) h62 h62 rfl ?_
  intro p63a p63b p63c p63d h63
  refine mulC_e (g := 26603685507224) h63 h63 rfl ?_
  intro p64a p64b p64c p64d h64
  refine mulC_e (g := 53207371014448) h64 h64 rfl ?_
  intro p65a p65b p65c p65d h65
  refine mulC_e (g := 106414742028896) h65 h65 rfl ?_
  intro p66a p66b p66c p66d h66
  refine mulC_e (g := 212829484057792) h66 h66 rfl ?_
  intro p67a p67b p67c p67d h67
  refine mulC_e (g := 425658968115584) h67 h67 rfl ?_
  intro p68a p68b p68c p68d h68
  refine mulC_e (g := 425658968115597) h7 h68 rfl ?_
  intro p69a p69b p69c p69d h69
  refine mulC_e (g := 851317936231194) h69 h69 rfl ?_
  intro p70a p70b p70c p70d h70
  refine mulC_e (g := 1702635872462388) h70 h70 rfl ?_
  intro p71a p71b p71c p71d h71
  refine mulC_e (g := 3405271744924776) h71 h71 rfl ?_
  intro p72a p72b p72c p72d h72
  refine mulC_e (g := 6810543489849552) h72 h72 rfl ?_
  intro p73a p73b p73c p73d h73
  refine mulC_e (g := 13621086979699104) h73 h73 rfl ?_
  intro p74a p74b p74c p74d h74
  refine mulC_e (g := 27242173959398208) h74 h74 rfl ?_
  intro p75a p75b p75c p75d h75
  refine mulC_e (g := 54484347918796416) h75 h75 rfl ?_
  intro p76a p76b p76c p76d h76
  refine mulC_e (g := 108968695837592832) h76 h76 rfl ?_
  intro p77a p77b p77c p77d h77
  refine mulC_e (g := 217937391675185664) h77 h77 rfl ?_
  intro p78a p78b p78c p78d h78
  refine mulC_e (g := 435874783350371328) h78 h78 rfl ?_
  intro p79a p79b p79c p79d h79
  refine mulC_e (g := 871749566700742656) h79 h79 rfl ?_
  intro p80a p80b p80c p80d h80
  refine mulC_e (g := 1743499133401485312) h80 h80 rfl ?_
  intro p81a p81b p81c p81d h81
  refine mulC_e (g := 3486998266802970624) h81 h81 rfl ?_
  intro p82a p82b p82c p82d h82
  refine mulC_e (g := 3486998266802970665) h17 h82 rfl ?_
  intro p83a p83b p83c p83d h83
  refine mulC_e (g := 6973996533605941330) h83 h83 rfl ?_
  intro p84a p84b p84c p84d h84
  refine mulC_e (g := 13947993067211882660) h84 h84 rfl ?_
  intro p85a p85b p85c p85d h85
  refine mulC_e (g := 27895986134423765320) h85 h85 rfl ?_
  intro p86a p86b p86c p86d h86
  refine mulC_e (g := 55791972268847530640) h86 h86 rfl ?_
  intro p87a p87b p87c p87d h87
  refine mulC_e (g := 111583944537695061280) h87 h87 rfl ?_
  intro p88a p88b p88c p88d h88
  refine mulC_e (g := 111583944537695061303) h11 h88 rfl ?_
  intro p89a p89b p89c p89d h89
  refine mulC_e (g := 223167889075390122606) h89 h89 rfl ?_
  intro p90a p90b p90c p90d h90
  refine mulC_e (g := 446335778150780245212) h90 h90 rfl ?_
  intro p91a p91b p91c p91d h91
  refine mulC_e (g := 892671556301560490424) h91 h91 rfl ?_
  intro p92a p92b p92c p92d h92
  refine mulC_e (g := 1785343112603120980848) h92 h92 rfl ?_
  intro p93a p93b p93c p93d h93
  refine mulC_e (g := 3570686225206241961696) h93 h93 rfl ?_
  intro p94a p94b p94c p94d h94
  refine mulC_e (g := 7141372450412483923392) h94 h94 rfl ?_
  intro p95a p95b p95c p95d h95
  refine mulC_e (g := 14282744900824967846784) h95 h95 rfl ?_
  intro p96a p96b p96c p96d h96
  refine mulC_e (g := 14282744900824967846789) h2 h96 rfl ?_
  intro p97a p97b p97c p97d h97
  refine mulC_e (g := 28565489801649935693578) h97 h97 rfl ?_
  intro p98a p98b p98c p98d h98
  refine mulC_e (g := 57130979603299871387156) h98 h98 rfl ?_
  intro p99a p99b p99c p99d h99
  refine mulC_e (g := 114261959206599742774312) h99 h99 rfl ?_
  intro p100a p100b p100c p100d h100
  refine mulC_e (g := 228523918413199485548624) h100 h100 rfl ?_
  intro p101a p101b p101c p101d h101
  refine mulC_e (g := 457047836826398971097248) h101 h101 rfl ?_
  intro p102a p102b p102c p102d h102
  refine mulC_e (g := 914095673652797942194496) h102 h102 rfl ?_
  intro p103a p103b p103c p103d h103
  refine mulC_e (g := 1828191347305595884388992) h103 h103 rfl ?_
  intro p104a p104b p104c p104d h104
  refine mulC_e (g := 3656382694611191768777984) h104 h104 rfl ?_
  intro p105a p105b p105c p105d h105
  refine mulC_e (g := 7312765389222383537555968) h105 h105 rfl ?_
  intro p106a p106b p106c p106d h106
  refine mulC_e (g := 14625530778444767075111936) h106 h106 rfl ?_
  intro p107a p107b p107c p107d h107
  refine mulC_e (g := 14625530778444767075111953) h9 h107 rfl ?_
  intro p108a p108b p108c p108d h108
  refine mulC_e (g := 29251061556889534150223906) h108 h108 rfl ?_
  intro p109a p109b p109c p109d h109
  refine mulC_e (g := 58502123113779068300447812) h109 h109 rfl ?_
  intro p110a p110b p110c p110d h110
  refine mulC_e (g := 117004246227558136600895624) h110 h110 rfl ?_
  intro p111a p111b p111c p111d h111
  refine mulC_e (g := 234008492455116273201791248) h111 h111 rfl ?_
  intro p112a p112b p112c p112d h112
  refine mulC_e (g := 468016984910232546403582496) h112 h112 rfl ?_
  intro p113a p113b p113c p113d h113
  refine mulC_e (g := 936033969820465092807164992) h113 h113 rfl ?_
  intro p114a p114b p114c p114d h114
  refine mulC_e (g := 936033969820465092807165019) h13 h114 rfl ?_
  intro p115a p115b p115c p115d h115
  refine mulC_e (g := 1872067939640930185614330038) h115 h115 rfl ?_
  intro p116a p116b p116c p116d h116
  refine mulC_e (g := 3744135879281860371228660076) h116 h116 rfl ?_
  intro p117a p117b p117c p117d h117
  refine mulC_e (g := 7488271758563720742457320152) h117 h117 rfl ?_
  intro p118a p118b p118c p118d h118
  refine mulC_e (g := 14976543517127441484914640304) h118 h118 rfl ?_
  intro p119a p119b p119c p119d h119
  refine mulC_e (g := 29953087034254882969829280608) h119 h119 rfl ?_
  intro p120a p120b p120c p120d h120
  refine mulC_e (g := 29953087034254882969829280621) h7 h120 rfl ?_
  intro p121a p121b p121c p121d h121
  refine mulC_e (g := 59906174068509765939658561242) h121 h121 rfl ?_
  intro p122a p122b p122c p122d h122
  refine mulC_e (g := 119812348137019531879317122484) h122 h122 rfl ?_
  intro p123a p123b p123c p123d h123
  refine mulC_e (g := 239624696274039063758634244968) h123 h123 rfl ?_
  intro p124a p124b p124c p124d h124
  refine mulC_e (g := 479249392548078127517268489936) h124 h124 rfl ?_
  intro p125a p125b p125c p125d h125
  refine mulC_e (g := 958498785096156255034536979872) h125 h125 rfl ?_
  intro p126a p126b p126c p126d h126
  refine mulC_e (g := 1916997570192312510069073959744) h126 h126 rfl ?_
  intro p127a p127b p127c p127d h127
  refine mulC_e (g := 3833995140384625020138147919488) h127 h127 rfl ?_
  intro p128a p128b p128c p128d h128
  refine mulC_e (g := 7667990280769250040276295838976) h128 h128 rfl ?_
  intro p129a p129b p129c p129d h129
  refine mulC_e (g := 7667990280769250040276295838979) h1 h129 rfl ?_
  intro p130a p130b p130c p130d h130
  refine mulC_e (g := 15335980561538500080552591677958) h130 h130 rfl ?_
  intro p131a p131b p131c p131d h131
  refine mulC_e (g := 30671961123077000161105183355916) h131 h131 rfl ?_
  intro p132a p132b p132c p132d h132
  refine mulC_e (g := 61343922246154000322210366711832) h132 h132 rfl ?_
  intro p133a p133b p133c p133d h133
  refine mulC_e (g := 122687844492308000644420733423664) h133 h133 rfl ?_
  intro p134a p134b p134c p134d h134
  refine mulC_e (g := 245375688984616001288841466847328) h134 h134 rfl ?_
  intro p135a p135b p135c p135d h135
  refine mulC_e (g := 490751377969232002577682933694656) h135 h135 rfl ?_
  intro p136a p136b p136c p136d h136
  refine mulC_e (g := 981502755938464005155365867389312) h136 h136 rfl ?_
  intro p137a p137b p137c p137d h137
  refine mulC_e (g := 1963005511876928010310731734778624) h137 h137 rfl ?_
  intro p138a p138b p138c p138d h138
  refine mulC_e (g := 3926011023753856020621463469557248) h138 h138 rfl ?_
  intro p139a p139b p139c p139d h139
  refine mulC_e (g := 7852022047507712041242926939114496) h139 h139 rfl ?_
  intro p140a p140b p140c p140d h140
  refine mulC_e (g := 15704044095015424082485853878228992) h140 h140 rfl ?_
  intro p141a p141b p141c p141d h141
  refine mulC_e (g := 31408088190030848164971707756457984) h141 h141 rfl ?_
  intro p142a p142b p142c p142d h142
  refine mulC_e (g := 31408088190030848164971707756458027) h18 h142 rfl ?_
  intro p143a p143b p143c p143d h143
  refine mulC_e (g := 62816176380061696329943415512916054) h143 h143 rfl ?_
  intro p144a p144b p144c p144d h144
  refine mulC_e (g := 125632352760123392659886831025832108) h144 h144 rfl ?_
  intro p145a p145b p145c p145d h145
  refine mulC_e (g := 251264705520246785319773662051664216) h145 h145 rfl ?_
  intro p146a p146b p146c p146d h146
  refine mulC_e (g := 502529411040493570639547324103328432) h146 h146 rfl ?_
  intro p147a p147b p147c p147d h147
  refine mulC_e (g := 1005058822080987141279094648206656864) h147 h147 rfl ?_
  intro p148a p148b p148c p148d h148
  refine mulC_e (g := 2010117644161974282558189296413313728) h148 h148 rfl ?_
  intro p149a p149b p149c p149d h149
  refine mulC_e (g := 4020235288323948565116378592826627456) h149 h149 rfl ?_
  intro p150a p150b p150c p150d h150
  refine mulC_e (g := 8040470576647897130232757185653254912) h150 h150 rfl ?_
  intro p151a p151b p151c p151d h151
  refine mulC_e (g := 16080941153295794260465514371306509824) h151 h151 rfl ?_
  intro p152a p152b p152c p152d h152
  refine mulC_e (g := 16080941153295794260465514371306509847) h11 h152 rfl ?_
  intro p153a p153b p153c p153d h153
  refine mulC_e (g := 32161882306591588520931028742613019694) h153 h153 rfl ?_
  intro p154a p154b p154c p154d h154
  refine mulC_e (g := 64323764613183177041862057485226039388) h154 h154 rfl ?_
  intro p155a p155b p155c p155d h155
  refine mulC_e (g := 128647529226366354083724114970452078776) h155 h155 rfl ?_
  intro p156a p156b p156c p156d h156
  refine mulC_e (g := 257295058452732708167448229940904157552) h156 h156 rfl ?_
  intro p157a p157b p157c p157d h157
  refine mulC_e (g := 514590116905465416334896459881808315104) h157 h157 rfl ?_
  intro p158a p158b p158c p158d h158
  refine mulC_e (g := 1029180233810930832669792919763616630208) h158 h158 rfl ?_
  intro p159a p159b p159c p159d h159
  refine mulC_e (g := 1029180233810930832669792919763616630233) h12 h159 rfl ?_
  intro p160a p160b p160c p160d h160
  refine mulC_e (g := 2058360467621861665339585839527233260466) h160 h160 rfl ?_
  intro p161a p161b p161c p161d h161
  refine mulC_e (g := 4116720935243723330679171679054466520932) h161 h161 rfl ?_
  intro p162a p162b p162c p162d h162
  refine mulC_e (g := 8233441870487446661358343358108933041864) h162 h162 rfl ?_
  intro p163a p163b p163c p163d h163
  refine mulC_e (g := 16466883740974893322716686716217866083728) h163 h163 rfl ?_
  intro p164a p164b p164c p164d h164
  refine mulC_e (g := 32933767481949786645433373432435732167456) h164 h164 rfl ?_
  intro p165a p165b p165c p165d h165
  refine mulC_e (g := 32933767481949786645433373432435732167471) h8 h165 rfl ?_
  intro p166a p166b p166c p166d h166
  refine mulC_e (g := 65867534963899573290866746864871464334942) h166 h166 rfl ?_
  intro p167a p167b p167c p167d h167
  refine mulC_e (g := 131735069927799146581733493729742928669884) h167 h167 rfl ?_
  intro p168a p168b p168c p168d h168
  refine mulC_e (g := 263470139855598293163466987459485857339768) h168 h168 rfl ?_
  intro p169a p169b p169c p169d h169
  refine mulC_e (g := 526940279711196586326933974918971714679536) h169 h169 rfl ?_
  intro p170a p170b p170c p170d h170
  refine mulC_e (g := 1053880559422393172653867949837943429359072) h170 h170 rfl ?_
  intro p171a p171b p171c p171d h171
  refine mulC_e (g := 2107761118844786345307735899675886858718144) h171 h171 rfl ?_
  intro p172a p172b p172c p172d h172
  refine mulC_e (g := 4215522237689572690615471799351773717436288) h172 h172 rfl ?_
  intro p173a p173b p173c p173d h173
  refine mulC_e (g := 8431044475379145381230943598703547434872576) h173 h173 rfl ?_
  intro p174a p174b p174c p174d h174
  refine mulC_e (g := 16862088950758290762461887197407094869745152) h174 h174 rfl ?_
  intro p175a p175b p175c p175d h175
  refine mulC_e (g := 33724177901516581524923774394814189739490304) h175 h175 rfl ?_
  intro p176a p176b p176c p176d h176
  refine mulC_e (g := 67448355803033163049847548789628379478980608) h176 h176 rfl ?_
  intro p177a p177b p177c p177d h177
  refine mulC_e (g := 134896711606066326099695097579256758957961216) h177 h177 rfl ?_
  intro p178a p178b p178c p178d h178
  refine mulC_e (g := 134896711606066326099695097579256758957961261) h19 h178 rfl ?_
  intro p179a p179b p179c p179d h179
  refine mulC_e (g := 269793423212132652199390195158513517915922522) h179 h179 rfl ?_
  intro p180a p180b p180c p180d h180
  refine mulC_e (g := 539586846424265304398780390317027035831845044) h180 h180 rfl ?_
  intro p181a p181b p181c p181d h181
  refine mulC_e (g := 1079173692848530608797560780634054071663690088) h181 h181 rfl ?_
  intro p182a p182b p182c p182d h182
  refine mulC_e (g := 2158347385697061217595121561268108143327380176) h182 h182 rfl ?_
  intro p183a p183b p183c p183d h183
  refine mulC_e (g := 4316694771394122435190243122536216286654760352) h183 h183 rfl ?_
  intro p184a p184b p184c p184d h184
  refine mulC_e (g := 8633389542788244870380486245072432573309520704) h184 h184 rfl ?_
  intro p185a p185b p185c p185d h185
  refine mulC_e (g := 17266779085576489740760972490144865146619041408) h185 h185 rfl ?_
  intro p186a p186b p186c p186d h186
  refine mulC_e (g := 17266779085576489740760972490144865146619041449) h17 h186 rfl ?_
  intro p187a p187b p187c p187d h187
  refine mulC_e (g := 34533558171152979481521944980289730293238082898) h187 h187 rfl ?_
  intro p188a p188b p188c p188d h188
  refine mulC_e (g := 69067116342305958963043889960579460586476165796) h188 h188 rfl ?_
  intro p189a p189b p189c p189d h189
  refine mulC_e (g := 138134232684611917926087779921158921172952331592) h189 h189 rfl ?_
  intro p190a p190b p190c p190d h190
  refine mulC_e (g := 276268465369223835852175559842317842345904663184) h190 h190 rfl ?_
  intro p191a p191b p191c p191d h191
  refine mulC_e (g := 552536930738447671704351119684635684691809326368) h191 h191 rfl ?_
  intro p192a p192b p192c p192d h192
  refine mulC_e (g := 1105073861476895343408702239369271369383618652736) h192 h192 rfl ?_
  intro p193a p193b p193c p193d h193
  refine mulC_e (g := 2210147722953790686817404478738542738767237305472) h193 h193 rfl ?_
  intro p194a p194b p194c p194d h194
  refine mulC_e (g := 4420295445907581373634808957477085477534474610944) h194 h194 rfl ?_
  intro p195a p195b p195c p195d h195
  refine mulC_e (g := 8840590891815162747269617914954170955068949221888) h195 h195 rfl ?_
  intro p196a p196b p196c p196d h196
  refine mulC_e (g := 8840590891815162747269617914954170955068949221933) h19 h196 rfl ?_
  intro p197a p197b p197c p197d h197
  refine mulC_e (g := 17681181783630325494539235829908341910137898443866) h197 h197 rfl ?_
  intro p198a p198b p198c p198d h198
  refine mulC_e (g := 35362363567260650989078471659816683820275796887732) h198 h198 rfl ?_
  intro p199a p199b p199c p199d h199
  refine mulC_e (g := 70724727134521301978156943319633367640551593775464) h199 h199 rfl ?_
  intro p200a p200b p200c p200d h200
  refine mulC_e (g := 141449454269042603956313886639266735281103187550928) h200 h200 rfl ?_
  intro p201a p201b p201c p201d h201
  refine mulC_e (g := 282898908538085207912627773278533470562206375101856) h201 h201 rfl ?_
  intro p202a p202b p202c p202d h202
  refine mulC_e (g := 565797817076170415825255546557066941124412750203712) h202 h202 rfl ?_
  intro p203a p203b p203c p203d h203
  refine mulC_e (g := 1131595634152340831650511093114133882248825500407424) h203 h203 rfl ?_
  intro p204a p204b p204c p204d h204
  refine mulC_e (g := 1131595634152340831650511093114133882248825500407431) h4 h204 rfl ?_
  intro p205a p205b p205c p205d h205
  refine mulC_e (g := 2263191268304681663301022186228267764497651000814862) h205 h205 rfl ?_
  intro p206a p206b p206c p206d h206
  refine mulC_e (g := 4526382536609363326602044372456535528995302001629724) h206 h206 rfl ?_
  intro p207a p207b p207c p207d h207
  refine mulC_e (g := 9052765073218726653204088744913071057990604003259448) h207 h207 rfl ?_
  intro p208a p208b p208c p208d h208
  refine mulC_e (g := 18105530146437453306408177489826142115981208006518896) h208 h208 rfl ?_
  intro p209a p209b p209c p209d h209
  refine mulC_e (g := 36211060292874906612816354979652284231962416013037792) h209 h209 rfl ?_
  intro p210a p210b p210c p210d h210
  refine mulC_e (g := 72422120585749813225632709959304568463924832026075584) h210 h210 rfl ?_
  intro p211a p211b p211c p211d h211
  refine mulC_e (g := 144844241171499626451265419918609136927849664052151168) h211 h211 rfl ?_
  intro p212a p212b p212c p212d h212
  refine mulC_e (g := 289688482342999252902530839837218273855699328104302336) h212 h212 rfl ?_
  intro p213a p213b p213c p213d h213
  refine mulC_e (g := 579376964685998505805061679674436547711398656208604672) h213 h213 rfl ?_
  intro p214a p214b p214c p214d h214
  refine mulC_e (g := 579376964685998505805061679674436547711398656208604729) h20 h214 rfl ?_
  intro p215a p215b p215c p215d h215
  refine mulC_e (g := 1158753929371997011610123359348873095422797312417209458) h215 h215 rfl ?_
  intro p216a p216b p216c p216d h216
  refine mulC_e (g := 2317507858743994023220246718697746190845594624834418916) h216 h216 rfl ?_
  intro p217a p217b p217c p217d h217
  refine mulC_e (g := 4635015717487988046440493437395492381691189249668837832) h217 h217 rfl ?_
  intro p218a p218b p218c p218d h218
  refine mulC_e (g := 9270031434975976092880986874790984763382378499337675664) h218 h218 rfl ?_
  intro p219a p219b p219c p219d h219
  refine mulC_e (g := 9270031434975976092880986874790984763382378499337675669) h2 h219 rfl ?_
  intro p220a p220b p220c p220d h220
  refine mulC_e (g := 18540062869951952185761973749581969526764756998675351338) h220 h220 rfl ?_
  intro p221a p221b p221c p221d h221
  refine mulC_e (g := 37080125739903904371523947499163939053529513997350702676) h221 h221 rfl ?_
  intro p222a p222b p222c p222d h222
  refine mulC_e (g := 74160251479807808743047894998327878107059027994701405352) h222 h222 rfl ?_
  intro p223a p223b p223c p223d h223
  refine mulC_e (g := 148320502959615617486095789996655756214118055989402810704) h223 h223 rfl ?_
  intro p224a p224b p224c p224d h224
  refine mulC_e (g := 296641005919231234972191579993311512428236111978805621408) h224 h224 rfl ?_
  intro p225a p225b p225c p225d h225
  refine mulC_e (g := 593282011838462469944383159986623024856472223957611242816) h225 h225 rfl ?_
  intro p226a p226b p226c p226d h226
  refine mulC_e (g := 1186564023676924939888766319973246049712944447915222485632) h226 h226 rfl ?_
  intro p227a p227b p227c p227d h227
  refine mulC_e (g := 1186564023676924939888766319973246049712944447915222485645) h7 h227 rfl ?_
  intro p228a p228b p228c p228d h228
  refine mulC_e (g := 2373128047353849879777532639946492099425888895830444971290) h228 h228 rfl ?_
  intro p229a p229b p229c p229d h229
  refine mulC_e (g := 4746256094707699759555065279892984198851777791660889942580) h229 h229 rfl ?_
  intro p230a p230b p230c p230d h230
  refine mulC_e (g := 9492512189415399519110130559785968397703555583321779885160) h230 h230 rfl ?_
  intro p231a p231b p231c p231d h231
  refine mulC_e (g := 18985024378830799038220261119571936795407111166643559770320) h231 h231 rfl ?_
  intro p232a p232b p232c p232d h232
  refine mulC_e (g := 37970048757661598076440522239143873590814222333287119540640) h232 h232 rfl ?_
  intro p233a p233b p233c p233d h233
  refine mulC_e (g := 75940097515323196152881044478287747181628444666574239081280) h233 h233 rfl ?_
  intro p234a p234b p234c p234d h234
  refine mulC_e (g := 75940097515323196152881044478287747181628444666574239081295) h8 h234 rfl ?_
  intro p235a p235b p235c p235d h235
  refine mulC_e (g := 151880195030646392305762088956575494363256889333148478162590) h235 h235 rfl ?_
  intro p236a p236b p236c p236d h236
  refine mulC_e (g := 303760390061292784611524177913150988726513778666296956325180) h236 h236 rfl ?_
  intro p237a p237b p237c p237d h237
  refine mulC_e (g := 607520780122585569223048355826301977453027557332593912650360) h237 h237 rfl ?_
  intro p238a p238b p238c p238d h238
  refine mulC_e (g := 1215041560245171138446096711652603954906055114665187825300720) h238 h238 rfl ?_
  intro p239a p239b p239c p239d h239
  refine mulC_e (g := 2430083120490342276892193423305207909812110229330375650601440) h239 h239 rfl ?_
  intro p240a p240b p240c p240d h240
  refine mulC_e (g := 2430083120490342276892193423305207909812110229330375650601441) hx h240 rfl ?_
  intro p241a p241b p241c p241d h241
  refine mulC_e (g := 4860166240980684553784386846610415819624220458660751301202882) h241 h241 rfl ?_
  intro p242a p242b p242c p242d h242
  refine mulC_e (g := 9720332481961369107568773693220831639248440917321502602405764) h242 h242 rfl ?_
  intro p243a p243b p243c p243d h243
  refine mulC_e (g := 19440664963922738215137547386441663278496881834643005204811528) h243 h243 rfl ?_
  intro p244a p244b p244c p244d h244
  refine mulC_e (g := 38881329927845476430275094772883326556993763669286010409623056) h244 h244 rfl ?_
  intro p245a p245b p245c p245d h245
  refine mulC_e (g := 77762659855690952860550189545766653113987527338572020819246112) h245 h245 rfl ?_
  intro p246a p246b p246c p246d h246
  refine mulC_e (g := 155525319711381905721100379091533306227975054677144041638492224) h246 h246 rfl ?_
  intro p247a p247b p247c p247d h247
  refine mulC_e (g := 311050639422763811442200758183066612455950109354288083276984448) h247 h247 rfl ?_
  intro p248a p248b p248c p248d h248
  refine mulC_e (g := 622101278845527622884401516366133224911900218708576166553968896) h248 h248 rfl ?_
  intro p249a p249b p249c p249d h249
  refine mulC_e (g := 1244202557691055245768803032732266449823800437417152333107937792) h249 h249 rfl ?_
  intro p250a p250b p250c p250d h250
  refine mulC_e (g := 2488405115382110491537606065464532899647600874834304666215875584) h250 h250 rfl ?_
  intro p251a p251b p251c p251d h251
  refine mulC_e (g := 4976810230764220983075212130929065799295201749668609332431751168) h251 h251 rfl ?_
  intro p252a p252b p252c p252d h252
  refine mulC_e (g := 4976810230764220983075212130929065799295201749668609332431751203) h15 h252 rfl ?_
  intro p253a p253b p253c p253d h253
  refine mulC_e (g := 9953620461528441966150424261858131598590403499337218664863502406) h253 h253 rfl ?_
  intro p254a p254b p254c p254d h254
  refine mulC_e (g := 19907240923056883932300848523716263197180806998674437329727004812) h254 h254 rfl ?_
  intro p255a p255b p255c p255d h255
  refine mulC_e (g := 39814481846113767864601697047432526394361613997348874659454009624) h255 h255 rfl ?_
  intro p256a p256b p256c p256d h256
  refine mulC_e (g := 79628963692227535729203394094865052788723227994697749318908019248) h256 h256 rfl ?_
  intro p257a p257b p257c p257d h257
  refine mulC_e (g := 159257927384455071458406788189730105577446455989395498637816038496) h257 h257 rfl ?_
  intro p258a p258b p258c p258d h258
  refine mulC_e (g := 318515854768910142916813576379460211154892911978790997275632076992) h258 h258 rfl ?_
  intro p259a p259b p259c p259d h259
  refine mulC_e (g := 637031709537820285833627152758920422309785823957581994551264153984) h259 h259 rfl ?_
  intro p260a p260b p260c p260d h260
  refine mulC_e (g := 1274063419075640571667254305517840844619571647915163989102528307968) h260 h260 rfl ?_
  intro p261a p261b p261c p261d h261
  refine mulC_e (g := 2548126838151281143334508611035681689239143295830327978205056615936) h261 h261 rfl ?_
  intro p262a p262b p262c p262d h262
  refine mulC_e (g := 5096253676302562286669017222071363378478286591660655956410113231872) h262 h262 rfl ?_
  intro p263a p263b p263c p263d h263
  refine mulC_e (g := 10192507352605124573338034444142726756956573183321311912820226463744) h263 h263 rfl ?_
  intro p264a p264b p264c p264d h264
  refine mulC_e (g := 10192507352605124573338034444142726756956573183321311912820226463789) h19 h264 rfl ?_
  intro p265a p265b p265c p265d h265
  refine mulC_e (g := 20385014705210249146676068888285453513913146366642623825640452927578) h265 h265 rfl ?_
  intro p266a p266b p266c p266d h266
  refine mulC_e (g := 40770029410420498293352137776570907027826292733285247651280905855156) h266 h266 rfl ?_
  intro p267a p267b p267c p267d h267
  refine mulC_e (g := 81540058820840996586704275553141814055652585466570495302561811710312) h267 h267 rfl ?_
  intro p268a p268b p268c p268d h268
  refine mulC_e (g := 163080117641681993173408551106283628111305170933140990605123623420624) h268 h268 rfl ?_
  intro p269a p269b p269c p269d h269
  refine mulC_e (g := 163080117641681993173408551106283628111305170933140990605123623420635) h5 h269 rfl ?_
  intro p270a p270b p270c p270d h270
  refine mulC_e (g := 326160235283363986346817102212567256222610341866281981210247246841270) h270 h270 rfl ?_
  intro p271a p271b p271c p271d h271
  refine mulC_e (g := 652320470566727972693634204425134512445220683732563962420494493682540) h271 h271 rfl ?_
  intro p272a p272b p272c p272d h272
  refine mulC_e (g := 1304640941133455945387268408850269024890441367465127924840988987365080) h272 h272 rfl ?_
  intro p273a p273b p273c p273d h273
  refine mulC_e (g := 2609281882266911890774536817700538049780882734930255849681977974730160) h273 h273 rfl ?_
  intro p274a p274b p274c p274d h274
  refine mulC_e (g := 5218563764533823781549073635401076099561765469860511699363955949460320) h274 h274 rfl ?_
  intro p275a p275b p275c p275d h275
  refine mulC_e (g := 10437127529067647563098147270802152199123530939721023398727911898920640) h275 h275 rfl ?_
  intro p276a p276b p276c p276d h276
  refine mulC_e (g := 20874255058135295126196294541604304398247061879442046797455823797841280) h276 h276 rfl ?_
  intro p277a p277b p277c p277d h277
  refine mulC_e (g := 41748510116270590252392589083208608796494123758884093594911647595682560) h277 h277 rfl ?_
  intro p278a p278b p278c p278d h278
  refine mulC_e (g := 83497020232541180504785178166417217592988247517768187189823295191365120) h278 h278 rfl ?_
  intro p279a p279b p279c p279d h279
  refine mulC_e (g := 83497020232541180504785178166417217592988247517768187189823295191365151) h14 h279 rfl ?_
  intro p280a p280b p280c p280d h280
  refine mulC_e (g := 166994040465082361009570356332834435185976495035536374379646590382730302) h280 h280 rfl ?_
  intro p281a p281b p281c p281d h281
  refine mulC_e (g := 333988080930164722019140712665668870371952990071072748759293180765460604) h281 h281 rfl ?_
  intro p282a p282b p282c p282d h282
  refine mulC_e (g := 667976161860329444038281425331337740743905980142145497518586361530921208) h282 h282 rfl ?_
  intro p283a p283b p283c p283d h283
  refine mulC_e (g := 1335952323720658888076562850662675481487811960284290995037172723061842416) h283 h283 rfl ?_
  intro p284a p284b p284c p284d h284
  refine mulC_e (g := 2671904647441317776153125701325350962975623920568581990074345446123684832) h284 h284 rfl ?_
  intro p285a p285b p285c p285d h285
  refine mulC_e (g := 5343809294882635552306251402650701925951247841137163980148690892247369664) h285 h285 rfl ?_
  intro p286a p286b p286c p286d h286
  refine mulC_e (g := 10687618589765271104612502805301403851902495682274327960297381784494739328) h286 h286 rfl ?_
  intro p287a p287b p287c p287d h287
  refine mulC_e (g := 21375237179530542209225005610602807703804991364548655920594763568989478656) h287 h287 rfl ?_
  intro p288a p288b p288c p288d h288
  refine mulC_e (g := 21375237179530542209225005610602807703804991364548655920594763568989478713) h20 h288 rfl ?_
  intro p289a p289b p289c p289d h289
  refine mulC_e (g := 21375237179530542209225005610602807703804991364548655920594763568989478719) h3 h289 rfl ?_
  intro p290a p290b p290c p290d h290
  refine mulC_e (g := 42750474359061084418450011221205615407609982729097311841189527137978957438) h290 h290 rfl ?_
  intro p291a p291b p291c p291d h291
  refine mulC_e (g := 85500948718122168836900022442411230815219965458194623682379054275957914876) h291 h291 rfl ?_
  intro p292a p292b p292c p292d h292
  refine mulC_e (g := 171001897436244337673800044884822461630439930916389247364758108551915829752) h292 h292 rfl ?_
  intro p293a p293b p293c p293d h293
  refine mulC_e (g := 342003794872488675347600089769644923260879861832778494729516217103831659504) h293 h293 rfl ?_
  intro p294a p294b p294c p294d h294
  refine mulC_e (g := 684007589744977350695200179539289846521759723665556989459032434207663319008) h294 h294 rfl ?_
  intro p295a p295b p295c p295d h295
  refine mulC_e (g := 1368015179489954701390400359078579693043519447331113978918064868415326638016) h295 h295 rfl ?_
  intro p296a p296b p296c p296d h296
  refine mulC_e (g := 2736030358979909402780800718157159386087038894662227957836129736830653276032) h296 h296 rfl ?_
  intro p297a p297b p297c p297d h297
  refine mulC_e (g := 2736030358979909402780800718157159386087038894662227957836129736830653276073) h17 h297 rfl ?_
  intro p298a p298b p298c p298d h298
  refine mulC_e (g := 5472060717959818805561601436314318772174077789324455915672259473661306552146) h298 h298 rfl ?_
  intro p299a p299b p299c p299d h299
  refine hup.le (memL_sub [1, 513, 529, 537, 545, 553, 561, 569, 577, 585, 593, 601, 609, 617, 625, 633, 641, 649, 657, 665, 673] rfl (by decide) (by
    intro x hx
    simp only [List.mem_cons, List.not_mem_nil, or_false] at hx ⊢
    simp [hx])) (hK _ _ _ _ h299)
/-- The words of the power. -/
def EsR (X : Nat) (y0 y1 y2 y3 : Int) : Prop := EP X e4N y0 y1 y2 y3
theorem EsR.el {X : Nat} {a b c d : Int} (h : EsR X a b c d) : El a b c d (mont (X ^ e4N)) := h
theorem EsR.ex (X : Nat) : ∃ a b c d, EsR X a b c d := ⟨_, _, _, _, El.of (mont_lt _)⟩
def gEs : G0 := fun args l K =>
  match args, l with
  | [.ptr 1 (.lit 0), .agg [.int .u64 (.sym a0), .int .u64 (.sym a1), .int .u64 (.sym a2), .int .u64 (.sym a3)]], [(1, ⟨false, z⟩)] => c4 z fun _ _ _ _ => ∃ X, El a0 a1 a2 a3 (mont X) ∧ ∀ y0 y1 y2 y3, EsR X y0 y1 y2 y3 → K (.ptr 1 (.lit 0)) (memL [(1, ⟨false, w4 y0 y1 y2 y3⟩)])
  | _, _ => False
theorem es_good : Good gEs := by
  constructor
  · intro args l K K' hk h
    unfold gEs at h ⊢
    split at h
    · exact c4_mono (fun _ _ _ _ h => h.elim fun X h => ⟨X, h.1, fun y0 y1 y2 y3 hy => hk _ _ (h.2 y0 y1 y2 y3 hy)⟩) h
    · exact h.elim
  · intro args l K h
    unfold gEs at h
    split at h
    · obtain ⟨_, _, _, _, _, h⟩ := c4_ex h
      obtain ⟨X, _, h⟩ := h
      obtain ⟨a, b, c, d, e⟩ := EsR.ex X
      exact ⟨_, _, h _ _ _ _ e⟩
    · exact h.elim
theorem es_ok (args : List SV) (l : List (Nat × Reg)) (K : SV → Mem → Prop) (hup : KUp K) (h : gEs args l K) : ∃ U, execF cxEs U Tryd.f62 64 args (memL l) K := by
  unfold gEs at h
  split at h
  · rename_i a0 a1 a2 a3 zz
    obtain ⟨z0, z1, z2, z3, rfl, q0⟩ := c4_ex h
    obtain ⟨X, hx, hK⟩ := q0
    have hx : EP X 1 a0 a1 a2 a3 := by unfold EP; rw [Nat.pow_one]; exact hx
    refine ⟨uEs, ?_⟩
    have := vc_es z0 z1 z2 z3 a0 a1 a2 a3 K
    unfold ag4 at this
    rw [this]
    exact es_walk hup hx fun y0 y1 y2 y3 hy => hK y0 y1 y2 y3 hy
  · exact h.elim
def kEs : Ef Tryd.prog := mkE mixed 62 Tryd.func62 (by decide) (by kernel_rfl) [] [.ptr 4 false, .num] gEs es_good es_ok
end Go.Sx
