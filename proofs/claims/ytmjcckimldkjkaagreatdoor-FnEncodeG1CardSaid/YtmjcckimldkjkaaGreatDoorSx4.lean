/- Part 4 of the proof: for every message and domain the law FnEncodeG1 returns true (a verified symbolic evaluator, contracts of each function reached, the law, its row and card). Conditions: those of the given statement, none besides. -/
import Derived.Test.YtmjcckimldkjkaaGreatDoorSx3
namespace Go.Sx
open Go Go.Proofs
set_option maxRecDepth 100000
theorem vc_fh (ex msg dst : List Int) (l c l2 c2 : Nat) (n : Int) (K : SV → Mem → Prop) : (execF cxFH (uFH ex n.toNat) Tryz.f22 64 [.slice 9 (.lit 0) (.sym l) (.sym c), .slice 17 (.lit 0) (.sym l2) (.sym c2), .int .i64 (.sym n)] (memL [(2,
 ⟨true, .ints .u32 kL⟩), (9, ⟨true, .ints .u8 msg⟩), (17, ⟨true, .ints .u8 dst⟩)]) K) = (∀ a, a = IntKind.wrap IntKind.i64 (n * 48) → (0 + l * 1 ≤ msg.length ∧ 0 + l2 * 1 ≤ dst.length) ∧ (kL = kL ∧ List.length (List.take (l * 1) (List.drop
 0 msg)) = l ∧ List.length (List.take (l2 * 1) (List.drop 0 dst)) = l2 ∧ l ≤ c ∧ l2 ≤ c2 ∧ Bytes (List.take (l * 1) (List.drop 0 msg)) ∧ Bytes (List.take (l2 * 1) (List.drop 0 dst)) ∧ l ≤ 65536 ∧ l2 ≤ 65536 ∧ 32 ≤ a ∧ a ≤ 65536) ∧ (a > 8160
 → ∀ p : ByteArray, K (.tup [.val (.slice none 0 0), .iface 126 (.ptr 577 (.lit 0))]) (memL [(2, ⟨true, .ints .u32 kL⟩), (9, ⟨true, .ints .u8 msg⟩), (17, ⟨true, .ints .u8 dst⟩), (577, ⟨false, .cells [.val (.string p)]⟩)])) ∧ (a ≤ 8160 →
 (List.length (List.take (l2 * 1) (List.drop 0 dst)) > 255 → ∀ q : ByteArray, K (.tup [.val (.slice none 0 0), .iface 126 (.ptr 577 (.lit 0))]) (memL [(2, ⟨true, .ints .u32 kL⟩), (9, ⟨true, .ints .u8 msg⟩), (17, ⟨true, .ints .u8 dst⟩), (577,
 ⟨false, .cells [.val (.string q)]⟩)]))) ∧ (a ≤ 8160 → (List.length (List.take (l2 * 1) (List.drop 0 dst)) ≤ 255 → ∀ j : List Int, j = expand (List.take (l * 1) (List.drop 0 msg)) (List.take (l2 * 1) (List.drop 0 dst)) (Int.toNat a) → ∀ f :
 List Int, f = j → (0 ≤ n ∧ n * 32 ≤ 140737488355328 ∧ n ≤ 140737488355328) ∧ ((∃ i : Prod Nat (List Int), (Prod.fst i ≤ Int.toNat n ∧ List.length (Prod.snd i) = Int.toNat n * 4 ∧ List.take (4 * Prod.fst i) (Prod.snd i) = hfW (fun ( r : Nat
 ) => mont (chN ex r)) (Prod.fst i)) ∧ ((Int.toNat a = Int.toNat a ∧ Int.toNat a = Int.toNat a) ∧ (Int.toNat n = Int.toNat n ∧ Int.toNat n = Int.toNat n) ∧ n = n ∧ 0 = ((Prod.fst i : Nat) : Int)) ∧ kL = kL ∧ f = f ∧ List.replicate
 (Int.toNat n * 4) (0 : Int) = Prod.snd i) ∧ ∀ b : Prod Nat (List Int), Prod.fst b ≤ Int.toNat n ∧ List.length (Prod.snd b) = Int.toNat n * 4 ∧ List.take (4 * Prod.fst b) (Prod.snd b) = hfW (fun ( s : Nat ) => mont (chN ex s)) (Prod.fst b)
 → (decide (((Prod.fst b : Nat) : Int) < n) = true → ((0 ≤ ((Prod.fst b : Nat) : Int) ∧ ((Prod.fst b : Nat) : Int) < ((Int.toNat n : Nat) : Int)) ∧ ∀ d, d = IntKind.wrap IntKind.i64 (((Prod.fst b : Nat) : Int) * 48) → ∀ k, k = IntKind.wrap
 IntKind.i64 (((Prod.fst b : Nat) : Int) + 1) → ∀ e, e = IntKind.wrap IntKind.i64 (k * 48) → ((0 ≤ e ∧ e ≤ ((Int.toNat a : Nat) : Int)) ∧ 0 ≤ d ∧ d ≤ ((Int.toNat e : Nat) : Int)) ∧ (Int.toNat ((Prod.fst b : Nat) : Int) * 4 + 4 ≤ List.length
 (Prod.snd b) ∧ (if Int.toNat a = Int.toNat d then (0 : Nat) else Int.toNat d * 1) + (Int.toNat e - Int.toNat d) * 1 ≤ f.length) ∧ ((List.length (List.take ((Int.toNat e - Int.toNat d) * 1) (List.drop (if Int.toNat a = Int.toNat d then (0 :
 Nat) else Int.toNat d * 1) f)) = Int.toNat e - Int.toNat d ∧ Int.toNat e - Int.toNat d ≠ 32 ∧ Int.toNat e - Int.toNat d < 1099511627776 ∧ Bytes (List.take ((Int.toNat e - Int.toNat d) * 1) (List.drop (if Int.toNat a = Int.toNat d then (0 :
 Nat) else Int.toNat d * 1) f))) ∧ ∀ g : Nat, g = mont (beN (List.take ((Int.toNat e - Int.toNat d) * 1) (List.drop (if Int.toNat a = Int.toNat d then (0 : Nat) else Int.toNat d * 1) f))) → (Int.toNat ((Prod.fst b : Nat) : Int) * 4 +
 List.length [lm g 0, lm g 1, lm g 2, lm g 3] ≤ List.length (Prod.snd b) ∧ ∀ m : List Int, m = splice (Prod.snd b) (Int.toNat ((Prod.fst b : Nat) : Int) * 4) [lm g 0, lm g 1, lm g 2, lm g 3] → ∀ o, o = IntKind.wrap IntKind.i64 (((Prod.fst b
 : Nat) : Int) + 1) → ∃ h : Prod Nat (List Int), (Prod.fst h ≤ Int.toNat n ∧ List.length (Prod.snd h) = Int.toNat n * 4 ∧ List.take (4 * Prod.fst h) (Prod.snd h) = hfW (fun ( t : Nat ) => mont (chN ex t)) (Prod.fst h)) ∧ (((Int.toNat a =
 Int.toNat a ∧ Int.toNat a = Int.toNat a) ∧ (Int.toNat n = Int.toNat n ∧ Int.toNat n = Int.toNat n) ∧ n = n ∧ o = ((Prod.fst h : Nat) : Int)) ∧ kL = kL ∧ f = f ∧ m = Prod.snd h) ∧ Int.toNat n - Prod.fst h < Int.toNat n - Prod.fst b)))) ∧
 (decide (((Prod.fst b : Nat) : Int) < n) = false → K (.tup [.slice 649 (.lit 0) (.sym (Int.toNat n)) (.sym (Int.toNat n)), .val .nilIface]) (memL [(2, ⟨true, .ints .u32 kL⟩), (577, ⟨false, .ints .u8 f⟩), (649, ⟨false, .ints .u64 (Prod.snd
 b)⟩)])))))) := by kernel_rfl
theorem vc_fhn (ex dst : List Int) (l2 c2 : Nat) (n : Int) (K : SV → Mem → Prop) : (execF cxFH (uFH ex n.toNat) Tryz.f22 64 [.val (.slice none 0 0), .slice 9 (.lit 0) (.sym l2) (.sym c2), .int .i64 (.sym n)] (memL [(2, ⟨true, .ints .u32
 kL⟩), (9, ⟨true, .ints .u8 dst⟩)]) K) = (∀ a, a = IntKind.wrap IntKind.i64 (n * 48) → 0 + l2 * 1 ≤ dst.length ∧ (kL = kL ∧ List.length (List.take (l2 * 1) (List.drop 0 dst)) = l2 ∧ l2 ≤ c2 ∧ Bytes (List.take (l2 * 1) (List.drop 0 dst)) ∧
 l2 ≤ 65536 ∧ 32 ≤ a ∧ a ≤ 65536) ∧ (a > 8160 → ∀ m : ByteArray, K (.tup [.val (.slice none 0 0), .iface 126 (.ptr 577 (.lit 0))]) (memL [(2, ⟨true, .ints .u32 kL⟩), (9, ⟨true, .ints .u8 dst⟩), (577, ⟨false, .cells [.val (.string m)]⟩)])) ∧
 (a ≤ 8160 → (List.length (List.take (l2 * 1) (List.drop 0 dst)) > 255 → ∀ o : ByteArray, K (.tup [.val (.slice none 0 0), .iface 126 (.ptr 577 (.lit 0))]) (memL [(2, ⟨true, .ints .u32 kL⟩), (9, ⟨true, .ints .u8 dst⟩), (577, ⟨false, .cells
 [.val (.string o)]⟩)]))) ∧ (a ≤ 8160 → (List.length (List.take (l2 * 1) (List.drop 0 dst)) ≤ 255 → ∀ i : List Int, i = expand [] (List.take (l2 * 1) (List.drop 0 dst)) (Int.toNat a) → ∀ e : List Int, e = i → (0 ≤ n ∧ n * 32 ≤
 140737488355328 ∧ n ≤ 140737488355328) ∧ ((∃ h : Prod Nat (List Int), (Prod.fst h ≤ Int.toNat n ∧ List.length (Prod.snd h) = Int.toNat n * 4 ∧ List.take (4 * Prod.fst h) (Prod.snd h) = hfW (fun ( p : Nat ) => mont (chN ex p)) (Prod.fst h))
 ∧ ((Int.toNat a = Int.toNat a ∧ Int.toNat a = Int.toNat a) ∧ (Int.toNat n = Int.toNat n ∧ Int.toNat n = Int.toNat n) ∧ n = n ∧ 0 = ((Prod.fst h : Nat) : Int)) ∧ kL = kL ∧ e = e ∧ List.replicate (Int.toNat n * 4) (0 : Int) = Prod.snd h) ∧ ∀
 b : Prod Nat (List Int), Prod.fst b ≤ Int.toNat n ∧ List.length (Prod.snd b) = Int.toNat n * 4 ∧ List.take (4 * Prod.fst b) (Prod.snd b) = hfW (fun ( q : Nat ) => mont (chN ex q)) (Prod.fst b) → (decide (((Prod.fst b : Nat) : Int) < n) =
 true → ((0 ≤ ((Prod.fst b : Nat) : Int) ∧ ((Prod.fst b : Nat) : Int) < ((Int.toNat n : Nat) : Int)) ∧ ∀ c, c = IntKind.wrap IntKind.i64 (((Prod.fst b : Nat) : Int) * 48) → ∀ j, j = IntKind.wrap IntKind.i64 (((Prod.fst b : Nat) : Int) + 1)
 → ∀ d, d = IntKind.wrap IntKind.i64 (j * 48) → ((0 ≤ d ∧ d ≤ ((Int.toNat a : Nat) : Int)) ∧ 0 ≤ c ∧ c ≤ ((Int.toNat d : Nat) : Int)) ∧ (Int.toNat ((Prod.fst b : Nat) : Int) * 4 + 4 ≤ List.length (Prod.snd b) ∧ (if Int.toNat a = Int.toNat c
 then (0 : Nat) else Int.toNat c * 1) + (Int.toNat d - Int.toNat c) * 1 ≤ e.length) ∧ ((List.length (List.take ((Int.toNat d - Int.toNat c) * 1) (List.drop (if Int.toNat a = Int.toNat c then (0 : Nat) else Int.toNat c * 1) e)) = Int.toNat d
 - Int.toNat c ∧ Int.toNat d - Int.toNat c ≠ 32 ∧ Int.toNat d - Int.toNat c < 1099511627776 ∧ Bytes (List.take ((Int.toNat d - Int.toNat c) * 1) (List.drop (if Int.toNat a = Int.toNat c then (0 : Nat) else Int.toNat c * 1) e))) ∧ ∀ f : Nat,
 f = mont (beN (List.take ((Int.toNat d - Int.toNat c) * 1) (List.drop (if Int.toNat a = Int.toNat c then (0 : Nat) else Int.toNat c * 1) e))) → (Int.toNat ((Prod.fst b : Nat) : Int) * 4 + List.length [lm f 0, lm f 1, lm f 2, lm f 3] ≤
 List.length (Prod.snd b) ∧ ∀ k : List Int, k = splice (Prod.snd b) (Int.toNat ((Prod.fst b : Nat) : Int) * 4) [lm f 0, lm f 1, lm f 2, lm f 3] → ∀ l, l = IntKind.wrap IntKind.i64 (((Prod.fst b : Nat) : Int) + 1) → ∃ g : Prod Nat (List
 Int), (Prod.fst g ≤ Int.toNat n ∧ List.length (Prod.snd g) = Int.toNat n * 4 ∧ List.take (4 * Prod.fst g) (Prod.snd g) = hfW (fun ( r : Nat ) => mont (chN ex r)) (Prod.fst g)) ∧ (((Int.toNat a = Int.toNat a ∧ Int.toNat a = Int.toNat a) ∧
 (Int.toNat n = Int.toNat n ∧ Int.toNat n = Int.toNat n) ∧ n = n ∧ l = ((Prod.fst g : Nat) : Int)) ∧ kL = kL ∧ e = e ∧ k = Prod.snd g) ∧ Int.toNat n - Prod.fst g < Int.toNat n - Prod.fst b)))) ∧ (decide (((Prod.fst b : Nat) : Int) < n) =
 false → K (.tup [.slice 649 (.lit 0) (.sym (Int.toNat n)) (.sym (Int.toNat n)), .val .nilIface]) (memL [(2, ⟨true, .ints .u32 kL⟩), (577, ⟨false, .ints .u8 e⟩), (649, ⟨false, .ints .u64 (Prod.snd b)⟩)])))))) := by kernel_rfl
theorem fh_step {w : List Int} {n i r : Nat} {f : Nat → Nat} (hi : i < n) (hwl : w.length = n * 4) (hw : w.take (4 * i) = hfW f i) (hr : r = f i) :
  (splice w (i * 4) [lm r 0, lm r 1, lm r 2, lm r 3]).length = n * 4 ∧ (splice w (i * 4) [lm r 0, lm r 1, lm r 2, lm r 3]).take (4 * (i + 1)) = hfW f (i + 1) := by
 rw [Nat.mul_comm i 4]
 refine ⟨?_, ?_⟩
 ·rw [splice_length (by simp only [List.length_cons, List.length_nil]; omega)]
  exact hwl
 ·have := take_splice_mid (x := w) (n := 4 * i) (q := [lm r 0, lm r 1, lm r 2, lm r 3]) (by omega)
  rw [show 4 * (i + 1) = 4 * i + [lm r 0, lm r 1, lm r 2, lm r 3].length by simp only [List.length_cons, List.length_nil]; omega, this, hw, hr]
  rfl
theorem fh_walk (msg dst : List Int) (l c l2 c2 : Nat) (n : Int) (K : SV → Mem → Prop) (h1 : msg.length = l) (h2 : dst.length = l2) (hc1 : l ≤ c) (hc2 : l2 ≤ c2) (b1 : Bytes msg) (b2 : Bytes dst) (m1 : l ≤ 65536) (m2 : l2 ≤ 65536) (n1 : 1 ≤ n) (n2 : n ≤ 170) (hup : KUp K)
  (hE : dst.length > 255 → ∀ s, K (.tup [.val (.slice none 0 0), .iface 126 (.ptr 577 (.lit 0))]) (memL [(577, ⟨false, .cells [.val (.string s)]⟩)]))
  (hS : dst.length ≤ 255 → ∀ ws, ws = hfW (fun j => mont (chN (expand msg dst (n * 48).toNat) j)) n.toNat → K (.tup [.slice 649 (.lit 0) (.sym n.toNat) (.sym n.toNat), .val .nilIface]) (memL [(649, ⟨false, .ints .u64 ws⟩)])) :
  execF cxFH (uFH (expand msg dst (n * 48).toNat) n.toNat) Tryz.f22 64 [.slice 9 (.lit 0) (.sym l) (.sym c), .slice 17 (.lit 0) (.sym l2) (.sym c2), .int .i64 (.sym n)] (memL [(2, ⟨true, .ints .u32 kL⟩), (9, ⟨true, .ints .u8 msg⟩), (17, ⟨true, .ints .u8 dst⟩)]) K := by
 have t1 : List.take (l * 1) (List.drop 0 msg) = msg := by rw [Nat.mul_one, List.drop_zero, ← h1, List.take_length]
 have t2 : List.take (l2 * 1) (List.drop 0 dst) = dst := by rw [Nat.mul_one, List.drop_zero, ← h2, List.take_length]
 rw [vc_fh]
 intro x0 h0
 rw [wrap64 (by omega) (by omega)] at h0
 simp only [t1, t2]
 refine ⟨⟨by omega, by omega⟩, ⟨trivial, h1, h2, hc1, hc2, b1, b2, m1, m2, by omega, by omega⟩, fun h => absurd h (by omega), fun _ h s => ?_, fun _ hd => ?_⟩
 ·exact hup.le (memL_sub [2, 9, 17, 577] rfl (by decide) (by
   intro x hx
   simp only [List.mem_cons, List.not_mem_nil, or_false] at hx ⊢
   simp [hx])) (hE h s)
 ·intro ys3 h3'
  intro ys4 h4
  have ey : ys4 = expand msg dst (n * 48).toNat := by rw [h4, h3', h0]
  refine ⟨⟨by omega, by omega, by omega⟩, ⟨(0, List.replicate (n.toNat * 4) 0), ⟨⟨Nat.zero_le _, by simp, by simp [hfW]⟩, by simp⟩⟩, ?_⟩
  rintro ⟨i, w⟩ ⟨hi, hwl, hw⟩
  dsimp only at hi hwl hw ⊢
  refine ⟨fun h => ?_, fun h => ?_⟩
  ·simp only [decide_eq_true_eq] at h
   refine ⟨⟨by omega, by omega⟩, ?_⟩
   rintro x9 h9 x10 h10 x11 h11
   rw [wrap64 (by omega) (by omega)] at h9 h10
   rw [wrap64 (by omega) (by omega)] at h11
   have e9 : x9.toNat = 48 * i := by omega
   have e11 : x11.toNat = 48 * i + 48 := by omega
   have e0 : x0.toNat = 48 * n.toNat := by omega
   have yl : ys4.length = 48 * n.toNat := by rw [ey, expand_length]; omega
   have hi' : i < n.toNat := by omega
   simp only [e9, e11, e0, Int.toNat_natCast, Nat.mul_one]
   rw [if_neg (by omega), show 48 * i + 48 - 48 * i = 48 by omega]
   refine ⟨⟨⟨by omega, by omega⟩, by omega, by omega⟩, ⟨by omega, by omega⟩, ⟨?_, by decide, by decide, ?_⟩, ?_⟩
   ·rw [List.length_take, List.length_drop]; omega
   ·rw [ey]
    exact fun z hz => expand_bytes _ _ _ z (List.mem_of_mem_drop (List.mem_of_mem_take hz))
   intro r12 h12
   refine ⟨by simp only [List.length_cons, List.length_nil]; omega, ?_⟩
   rintro ys13 h13 x14 h14
   rw [wrap64 (by omega) (by omega)] at h14
   obtain ⟨s1, s2⟩ := fh_step (r := r12) hi' hwl hw (by rw [h12, ← ey]; rfl)
   rw [← h13] at s1 s2
   refine ⟨(i + 1, ys13), ⟨hi', s1, s2⟩, ?_⟩
   repeat' apply And.intro
   all_goals first | rfl | trivial | (simp only; omega)
  ·simp only [decide_eq_false_iff_not] at h
   have hin : i = n.toNat := by omega
   have e : w = hfW (fun j => mont (chN (expand msg dst (n * 48).toNat) j)) n.toNat := by
    rw [hin, List.take_of_length_le (by omega)] at hw
    exact hw
   exact hup.le (memL_sub [2, 577, 649] rfl (by decide) (by
    intro x hx
    simp only [List.mem_cons, List.not_mem_nil, or_false] at hx ⊢
    simp [hx])) (hS hd w e)
theorem fhn_walk (dst : List Int) (l2 c2 : Nat) (n : Int) (K : SV → Mem → Prop) (h2 : dst.length = l2) (hc2 : l2 ≤ c2) (b2 : Bytes dst) (m2 : l2 ≤ 65536) (n1 : 1 ≤ n) (n2 : n ≤ 170) (hup : KUp K)
  (hE : dst.length > 255 → ∀ s, K (.tup [.val (.slice none 0 0), .iface 126 (.ptr 577 (.lit 0))]) (memL [(577, ⟨false, .cells [.val (.string s)]⟩)]))
  (hS : dst.length ≤ 255 → ∀ ws, ws = hfW (fun j => mont (chN (expand [] dst (n * 48).toNat) j)) n.toNat → K (.tup [.slice 649 (.lit 0) (.sym n.toNat) (.sym n.toNat), .val .nilIface]) (memL [(649, ⟨false, .ints .u64 ws⟩)])) :
  execF cxFH (uFH (expand [] dst (n * 48).toNat) n.toNat) Tryz.f22 64 [.val (.slice none 0 0), .slice 9 (.lit 0) (.sym l2) (.sym c2), .int .i64 (.sym n)] (memL [(2, ⟨true, .ints .u32 kL⟩), (9, ⟨true, .ints .u8 dst⟩)]) K := by
 have t2 : List.take (l2 * 1) (List.drop 0 dst) = dst := by rw [Nat.mul_one, List.drop_zero, ← h2, List.take_length]
 rw [vc_fhn]
 intro x0 h0
 rw [wrap64 (by omega) (by omega)] at h0
 simp only [t2]
 refine ⟨by omega, ⟨trivial, h2, hc2, b2, m2, by omega, by omega⟩, fun h => absurd h (by omega), fun _ h s => ?_, fun _ hd => ?_⟩
 ·exact hup.le (memL_sub [2, 9, 577] rfl (by decide) (by
   intro x hx
   simp only [List.mem_cons, List.not_mem_nil, or_false] at hx ⊢
   simp [hx])) (hE h s)
 ·intro ys3 h3'
  intro ys4 h4
  have ey : ys4 = expand [] dst (n * 48).toNat := by rw [h4, h3', h0]
  refine ⟨⟨by omega, by omega, by omega⟩, ⟨(0, List.replicate (n.toNat * 4) 0), ⟨⟨Nat.zero_le _, by simp, by simp [hfW]⟩, by simp⟩⟩, ?_⟩
  rintro ⟨i, w⟩ ⟨hi, hwl, hw⟩
  dsimp only at hi hwl hw ⊢
  refine ⟨fun h => ?_, fun h => ?_⟩
  ·simp only [decide_eq_true_eq] at h
   refine ⟨⟨by omega, by omega⟩, ?_⟩
   rintro x9 h9 x10 h10 x11 h11
   rw [wrap64 (by omega) (by omega)] at h9 h10
   rw [wrap64 (by omega) (by omega)] at h11
   have e9 : x9.toNat = 48 * i := by omega
   have e11 : x11.toNat = 48 * i + 48 := by omega
   have e0 : x0.toNat = 48 * n.toNat := by omega
   have yl : ys4.length = 48 * n.toNat := by rw [ey, expand_length]; omega
   have hi' : i < n.toNat := by omega
   simp only [e9, e11, e0, Int.toNat_natCast, Nat.mul_one]
   rw [if_neg (by omega), show 48 * i + 48 - 48 * i = 48 by omega]
   refine ⟨⟨⟨by omega, by omega⟩, by omega, by omega⟩, ⟨by omega, by omega⟩, ⟨?_, by decide, by decide, ?_⟩, ?_⟩
   ·rw [List.length_take, List.length_drop]; omega
   ·rw [ey]
    exact fun z hz => expand_bytes _ _ _ z (List.mem_of_mem_drop (List.mem_of_mem_take hz))
   intro r12 h12
   refine ⟨by simp only [List.length_cons, List.length_nil]; omega, ?_⟩
   rintro ys13 h13 x14 h14
   rw [wrap64 (by omega) (by omega)] at h14
   obtain ⟨s1, s2⟩ := fh_step (r := r12) hi' hwl hw (by rw [h12, ← ey]; rfl)
   rw [← h13] at s1 s2
   refine ⟨(i + 1, ys13), ⟨hi', s1, s2⟩, ?_⟩
   repeat' apply And.intro
   all_goals first | rfl | trivial | (simp only; omega)
  ·simp only [decide_eq_false_iff_not] at h
   have hin : i = n.toNat := by omega
   have e : w = hfW (fun j => mont (chN (expand [] dst (n * 48).toNat) j)) n.toNat := by
    rw [hin, List.take_of_length_le (by omega)] at hw
    exact hw
   exact hup.le (memL_sub [2, 577, 649] rfl (by decide) (by
    intro x hx
    simp only [List.mem_cons, List.not_mem_nil, or_false] at hx ⊢
    simp [hx])) (hS hd w e)
def fhK (msg dst : List Int) (n : Int) (K : SV → Mem → Prop) : Prop :=
 (dst.length > 255 → ∀ s, K (.tup [.val (.slice none 0 0), .iface 126 (.ptr 577 (.lit 0))]) (memL [(577, ⟨false, .cells [.val (.string s)]⟩)])) ∧
 (dst.length ≤ 255 → ∀ ws, ws = hfW (fun j => mont (chN (expand msg dst (n * 48).toNat) j)) n.toNat → K (.tup [.slice 649 (.lit 0) (.sym n.toNat) (.sym n.toNat), .val .nilIface]) (memL [(649, ⟨false, .ints .u64 ws⟩)]))
def gFH : G0 := fun args l K =>
 match args, l with
 | [.slice 9 (.lit 0) (.sym n1) (.sym c1), .slice 17 (.lit 0) (.sym n2) (.sym c2), .int .i64 (.sym n)], [(2, ⟨true, .ints .u32 ks⟩), (9, ⟨true, .ints .u8 msg⟩), (17, ⟨true, .ints .u8 dst⟩)] =>
  (ks = kL ∧ msg.length = n1 ∧ dst.length = n2 ∧ n1 ≤ c1 ∧ n2 ≤ c2 ∧ Bytes msg ∧ Bytes dst ∧ n1 ≤ 65536 ∧ n2 ≤ 65536 ∧ 1 ≤ n ∧ n ≤ 170) ∧ fhK msg dst n K
 | [.val (.slice none 0 0), .slice 9 (.lit 0) (.sym n2) (.sym c2), .int .i64 (.sym n)], [(2, ⟨true, .ints .u32 ks⟩), (9, ⟨true, .ints .u8 dst⟩)] =>
  (ks = kL ∧ dst.length = n2 ∧ n2 ≤ c2 ∧ Bytes dst ∧ n2 ≤ 65536 ∧ 1 ≤ n ∧ n ≤ 170) ∧ fhK [] dst n K
 | _, _ => False
theorem fhK_mono {msg dst : List Int} {n : Int} {K K' : SV → Mem → Prop} (hk : ∀ v m, K v m → K' v m) (h : fhK msg dst n K) : fhK msg dst n K' :=
 ⟨fun a s => hk _ _ (h.1 a s), fun a ys e => hk _ _ (h.2 a ys e)⟩
theorem fhK_live {msg dst : List Int} {n : Int} {K : SV → Mem → Prop} (h : fhK msg dst n K) : ∃ v m, K v m := by
 by_cases h2 : dst.length > 255
 ·exact ⟨_, _, h.1 h2 .empty⟩
 ·exact ⟨_, _, h.2 (by omega) _ rfl⟩
theorem fh_good : Good gFH := by
 constructor
 ·intro args l K K' hk h
  unfold gFH at h ⊢
  split at h
  ·exact ⟨h.1, fhK_mono hk h.2⟩
  ·exact ⟨h.1, fhK_mono hk h.2⟩
  ·exact h.elim
 ·intro args l K h
  unfold gFH at h
  split at h
  ·exact fhK_live h.2
  ·exact fhK_live h.2
  ·exact h.elim
theorem fh_ok (args : List SV) (l : List (Nat × Reg)) (K : SV → Mem → Prop) (hup : KUp K) (h : gFH args l K) : ∃ U, execF cxFH U Tryz.f22 64 args (memL l) K := by
 unfold gFH at h
 split at h
 ·rename_i n1 c1 n2 c2 n ks msg dst
  obtain ⟨⟨hk, h1, h2, h3, h4, h5, h6, h7, h8, h9, h10⟩, ha, hb⟩ := h
  subst hk
  exact ⟨_, fh_walk msg dst n1 c1 n2 c2 n K h1 h2 h3 h4 h5 h6 h7 h8 h9 h10 hup ha hb⟩
 ·rename_i n2 c2 n ks dst
  obtain ⟨⟨hk, h2, h4, h6, h8, h9, h10⟩, ha, hb⟩ := h
  subst hk
  exact ⟨_, fhn_walk dst n2 c2 n K h2 h4 h6 h8 h9 h10 hup ha hb⟩
 ·exact h.elim
def cFH : Ef Tryz.prog := mkE mixed 22 Tryz.func22 (by decide) (by kernel_rfl) [1] [.sl 1 true, .sl 1 true, .num] gFH fh_good fh_ok
def ag4 (a b c d : Int) : SV := .agg [.int .u64 (.sym a), .int .u64 (.sym b), .int .u64 (.sym c), .int .u64 (.sym d)]
def pv (l : List Int) : Nat → Int
 | 0 => 0
 | i + 1 => pv l i + l.getD i 0 * 18446744073709551616 ^ i
structure WI where
 i : Nat
 c : Int
 o : List Int
def liSum (a b : List Int) : LI where
 ι := WI
 keep := [2, 3, 4, 5, 6]
 keepR := [529]
 F := fun s => ⟨[(7, .int .u64 (.sym s.c)), (8, i64n s.i)], [(513, ⟨false, .ints .u64 a⟩), (521, ⟨false, .ints .u64 b⟩), (553, ⟨false, .ints .u64 s.o⟩)]⟩
 I := fun _ s => s.i ≤ 4 ∧ s.o.length = 4 ∧ (∀ x ∈ s.o, Wd x) ∧ 0 ≤ s.c ∧ s.c ≤ 1 ∧ pv s.o s.i + s.c * 18446744073709551616 ^ s.i = pv a s.i + pv b s.i
 μ := fun s => 4 - s.i
def liDif (a b : List Int) : LI where
 ι := WI
 keep := [2, 3, 4, 5]
 keepR := [529]
 F := fun s => ⟨[(6, .int .u64 (.sym s.c)), (7, i64n s.i)], [(513, ⟨false, .ints .u64 a⟩), (521, ⟨false, .ints .u64 b⟩), (545, ⟨false, .ints .u64 s.o⟩)]⟩
 I := fun _ s => s.i ≤ 4 ∧ s.o.length = 4 ∧ (∀ x ∈ s.o, Wd x) ∧ 0 ≤ s.c ∧ s.c ≤ 1 ∧ pv s.o s.i = pv a s.i - pv b s.i + s.c * 18446744073709551616 ^ s.i
 μ := fun s => 4 - s.i
theorem vc_less (a0 a1 a2 a3 b0 b1 b2 b3 : Int) (K : SV → Mem → Prop) : (execF cx0 u9 Tryz.f45 64 [ag4 a0 a1 a2 a3, ag4 b0 b1 b2 b3] (memL []) K) = (((a3 != b3) = true → K (.bool (.sym (decide (a3 < b3)))) (memL [(513, ⟨false, .cells [.int
 .u64 (.sym a0), .int .u64 (.sym a1), .int .u64 (.sym a2), .int .u64 (.sym a3)]⟩), (521, ⟨false, .cells [.int .u64 (.sym b0), .int .u64 (.sym b1), .int .u64 (.sym b2), .int .u64 (.sym b3)]⟩)])) ∧ ((a3 != b3) = false → ((a2 != b2) = true → K
 (.bool (.sym (decide (a2 < b2)))) (memL [(513, ⟨false, .cells [.int .u64 (.sym a0), .int .u64 (.sym a1), .int .u64 (.sym a2), .int .u64 (.sym a3)]⟩), (521, ⟨false, .cells [.int .u64 (.sym b0), .int .u64 (.sym b1), .int .u64 (.sym b2), .int
 .u64 (.sym b3)]⟩)])) ∧ ((a2 != b2) = false → ((a1 != b1) = true → K (.bool (.sym (decide (a1 < b1)))) (memL [(513, ⟨false, .cells [.int .u64 (.sym a0), .int .u64 (.sym a1), .int .u64 (.sym a2), .int .u64 (.sym a3)]⟩), (521, ⟨false, .cells
 [.int .u64 (.sym b0), .int .u64 (.sym b1), .int .u64 (.sym b2), .int .u64 (.sym b3)]⟩)])) ∧ ((a1 != b1) = false → ((a0 != b0) = true → K (.bool (.sym (decide (a0 < b0)))) (memL [(513, ⟨false, .cells [.int .u64 (.sym a0), .int .u64 (.sym
 a1), .int .u64 (.sym a2), .int .u64 (.sym a3)]⟩), (521, ⟨false, .cells [.int .u64 (.sym b0), .int .u64 (.sym b1), .int .u64 (.sym b2), .int .u64 (.sym b3)]⟩)])) ∧ ((a0 != b0) = false → K (.bool (.lit false)) (memL [(513, ⟨false, .cells
 [.int .u64 (.sym a0), .int .u64 (.sym a1), .int .u64 (.sym a2), .int .u64 (.sym a3)]⟩), (521, ⟨false, .cells [.int .u64 (.sym b0), .int .u64 (.sym b1), .int .u64 (.sym b2), .int .u64 (.sym b3)]⟩)])))))) := by kernel_rfl
def rLs : R0 := fun args l =>
 match args, l with
 | [.agg [.int .u64 (.sym a0), .int .u64 (.sym a1), .int .u64 (.sym a2), .int .u64 (.sym a3)], .agg [.int .u64 (.sym b0), .int .u64 (.sym b1), .int .u64 (.sym b2), .int .u64 (.sym b3)]], [] =>
  some (some ((Wd a0 ∧ Wd a1 ∧ Wd a2 ∧ Wd a3) ∧ Wd b0 ∧ Wd b1 ∧ Wd b2 ∧ Wd b3), .bool (.sym (decide (V4 a0 a1 a2 a3 < V4 b0 b1 b2 b3))))
 | _, _ => none
theorem ls_ok (args : List SV) (l : List (Nat × Reg)) (p : Ob) (v : SV) (h : rLs args l = some (p, v)) (hp : p.ok) : ∃ U, execF cx0 U Tryz.f45 64 args (memL l) fun v' _ => ∀ β u, Den β v' u → Den β v u := by
 refine ⟨u9, ?_⟩
 unfold rLs at h
 split at h
 ·rename_i a0 a1 a2 a3 b0 b1 b2 b3
  simp only [Option.some.injEq, Prod.mk.injEq] at h
  obtain ⟨rfl, rfl⟩ := h
  obtain ⟨⟨ha0, ha1, ha2, ha3⟩, hb0, hb1, hb2, hb3⟩ : (Wd a0 ∧ Wd a1 ∧ Wd a2 ∧ Wd a3) ∧ Wd b0 ∧ Wd b1 ∧ Wd b2 ∧ Wd b3 := hp
  unfold Wd at *
  have := vc_less a0 a1 a2 a3 b0 b1 b2 b3 fun v' _ => ∀ β u, Den β v' u → Den β (.bool (.sym (decide (V4 a0 a1 a2 a3 < V4 b0 b1 b2 b3)))) u
  unfold ag4 at this
  rw [this]
  simp only [bne_iff_ne, ne_eq, bne_eq_false_iff_eq]
  repeat' first
   | exact den_f (by unfold V4; omega)
   | exact den_s (by unfold V4; omega)
   | apply And.intro
   | intro _
 ·cases h
def cLs : Rd Tryz.prog := mkQ mixed 45 Tryz.func45 (by decide) (by kernel_rfl) [] [.num, .num] rLs ls_ok
theorem vc_pp (K : SV → Mem → Prop) : execF cx0 u9 Tryz.f21 64 [] (memL []) K = K (.agg [.int .u64 (.lit 4332616871279656263), .int .u64 (.lit 10917124144477883021), .int .u64 (.lit 13281191951274694749), .int .u64 (.lit
 3486998266802970665)]) (memL [(513, ⟨false, .cells [.int .u64 (.lit 4332616871279656263), .int .u64 (.lit 10917124144477883021), .int .u64 (.lit 13281191951274694749), .int .u64 (.lit 3486998266802970665)]⟩)]) := by kernel_rfl
def rPP : R0 := fun args l =>
 match args, l with
 | [], [] => some (none, .agg [.int .u64 (.lit 4332616871279656263), .int .u64 (.lit 10917124144477883021), .int .u64 (.lit 13281191951274694749), .int .u64 (.lit 3486998266802970665)])
 | _, _ => none
theorem pp_ok (args : List SV) (l : List (Nat × Reg)) (p : Ob) (v : SV) (h : rPP args l = some (p, v)) (_ : p.ok) : ∃ U, execF cx0 U Tryz.f21 64 args (memL l) fun v' _ => v' = v := by
 refine ⟨u9, ?_⟩
 unfold rPP at h
 split at h
 ·simp only [Option.some.injEq, Prod.mk.injEq] at h
  obtain ⟨rfl, rfl⟩ := h
  rw [vc_pp]
 ·cases h
def cPP : Rd Tryz.prog := mkR mixed 21 Tryz.func21 (by decide) (by kernel_rfl) [] [] rPP pp_ok
theorem vc_wsum (a0 a1 a2 a3 b0 b1 b2 b3 : Int) (K : SV → Mem → Prop) : (execF cx0 (fun n => if n = 0 then .inv (liSum [a0,a1,a2,a3] [b0,b1,b2,b3]) else .un 0) Tryz.f64 64 [ag4 a0 a1 a2 a3, ag4 b0 b1 b2 b3] (memL []) K) = ((∃ f : WI, (WI.i
 f ≤ 4 ∧ List.length (WI.o f) = 4 ∧ (∀ r : Int, List.Mem r (WI.o f) → Wd r) ∧ 0 ≤ WI.c f ∧ WI.c f ≤ 1 ∧ pv (WI.o f) (WI.i f) + WI.c f * (18446744073709551616 : Int) ^ WI.i f = pv [a0, a1, a2, a3] (WI.i f) + pv [b0, b1, b2, b3] (WI.i f)) ∧
 (0 = WI.c f ∧ 0 = ((WI.i f : Nat) : Int)) ∧ [a0, a1, a2, a3] = [a0, a1, a2, a3] ∧ [b0, b1, b2, b3] = [b0, b1, b2, b3] ∧ [(0 : Int), (0 : Int), (0 : Int), (0 : Int)] = WI.o f) ∧ ∀ a : WI, WI.i a ≤ 4 ∧ List.length (WI.o a) = 4 ∧ (∀ s : Int,
 List.Mem s (WI.o a) → Wd s) ∧ 0 ≤ WI.c a ∧ WI.c a ≤ 1 ∧ pv (WI.o a) (WI.i a) + WI.c a * (18446744073709551616 : Int) ^ WI.i a = pv [a0, a1, a2, a3] (WI.i a) + pv [b0, b1, b2, b3] (WI.i a) → (decide (((WI.i a : Nat) : Int) < 4) = true → (0
 ≤ ((WI.i a : Nat) : Int) ∧ ((WI.i a : Nat) : Int) < 4) ∧ (Int.toNat ((WI.i a : Nat) : Int) * 1 + 1 ≤ List.length [a0, a1, a2, a3] ∧ ∀ t : Int, t = List.getD [a0, a1, a2, a3] (Int.toNat ((WI.i a : Nat) : Int) * 1) (0 : Int) → (0 ≤ ((WI.i a
 : Nat) : Int) ∧ ((WI.i a : Nat) : Int) < 4) ∧ (Int.toNat ((WI.i a : Nat) : Int) * 1 + 1 ≤ List.length [b0, b1, b2, b3] ∧ ∀ u : Int, u = List.getD [b0, b1, b2, b3] (Int.toNat ((WI.i a : Nat) : Int) * 1) (0 : Int) → ∀ g, g = IntKind.wrap
 IntKind.u64 (t + u) → (0 ≤ ((WI.i a : Nat) : Int) ∧ ((WI.i a : Nat) : Int) < 4) ∧ (Int.toNat ((WI.i a : Nat) : Int) * 1 + 1 ≤ List.length [a0, a1, a2, a3] ∧ ∀ j : Int, j = List.getD [a0, a1, a2, a3] (Int.toNat ((WI.i a : Nat) : Int) * 1)
 (0 : Int) → (decide (g < j) = true → ∀ h, h = IntKind.wrap IntKind.u64 (g + WI.c a) → (0 ≤ ((WI.i a : Nat) : Int) ∧ ((WI.i a : Nat) : Int) < 4) ∧ Int.toNat ((WI.i a : Nat) : Int) * 1 < List.length (WI.o a) ∧ (0 ≤ ((WI.i a : Nat) : Int) ∧
 ((WI.i a : Nat) : Int) < 4) ∧ (Int.toNat ((WI.i a : Nat) : Int) * 1 + 1 ≤ List.length (List.set (WI.o a) (Int.toNat ((WI.i a : Nat) : Int) * 1) h) ∧ ∀ k : Int, k = List.getD (List.set (WI.o a) (Int.toNat ((WI.i a : Nat) : Int) * 1) h)
 (Int.toNat ((WI.i a : Nat) : Int) * 1) (0 : Int) → (decide (k < g) = true → ∀ v, v = IntKind.wrap IntKind.i64 (((WI.i a : Nat) : Int) + 1) → ∃ b : WI, (WI.i b ≤ 4 ∧ List.length (WI.o b) = 4 ∧ (∀ w : Int, List.Mem w (WI.o b) → Wd w) ∧ 0 ≤
 WI.c b ∧ WI.c b ≤ 1 ∧ pv (WI.o b) (WI.i b) + WI.c b * (18446744073709551616 : Int) ^ WI.i b = pv [a0, a1, a2, a3] (WI.i b) + pv [b0, b1, b2, b3] (WI.i b)) ∧ ((1 = WI.c b ∧ v = ((WI.i b : Nat) : Int)) ∧ [a0, a1, a2, a3] = [a0, a1, a2, a3] ∧
 [b0, b1, b2, b3] = [b0, b1, b2, b3] ∧ List.set (WI.o a) (Int.toNat ((WI.i a : Nat) : Int) * 1) h = WI.o b) ∧ 4 - WI.i b < 4 - WI.i a) ∧ (decide (k < g) = false → ∀ x, x = IntKind.wrap IntKind.i64 (((WI.i a : Nat) : Int) + 1) → ∃ c : WI,
 (WI.i c ≤ 4 ∧ List.length (WI.o c) = 4 ∧ (∀ y : Int, List.Mem y (WI.o c) → Wd y) ∧ 0 ≤ WI.c c ∧ WI.c c ≤ 1 ∧ pv (WI.o c) (WI.i c) + WI.c c * (18446744073709551616 : Int) ^ WI.i c = pv [a0, a1, a2, a3] (WI.i c) + pv [b0, b1, b2, b3] (WI.i
 c)) ∧ ((1 = WI.c c ∧ x = ((WI.i c : Nat) : Int)) ∧ [a0, a1, a2, a3] = [a0, a1, a2, a3] ∧ [b0, b1, b2, b3] = [b0, b1, b2, b3] ∧ List.set (WI.o a) (Int.toNat ((WI.i a : Nat) : Int) * 1) h = WI.o c) ∧ 4 - WI.i c < 4 - WI.i a))) ∧ (decide (g <
 j) = false → ∀ i, i = IntKind.wrap IntKind.u64 (g + WI.c a) → (0 ≤ ((WI.i a : Nat) : Int) ∧ ((WI.i a : Nat) : Int) < 4) ∧ Int.toNat ((WI.i a : Nat) : Int) * 1 < List.length (WI.o a) ∧ (0 ≤ ((WI.i a : Nat) : Int) ∧ ((WI.i a : Nat) : Int) <
 4) ∧ (Int.toNat ((WI.i a : Nat) : Int) * 1 + 1 ≤ List.length (List.set (WI.o a) (Int.toNat ((WI.i a : Nat) : Int) * 1) i) ∧ ∀ l : Int, l = List.getD (List.set (WI.o a) (Int.toNat ((WI.i a : Nat) : Int) * 1) i) (Int.toNat ((WI.i a : Nat) :
 Int) * 1) (0 : Int) → (decide (l < g) = true → ∀ z, z = IntKind.wrap IntKind.i64 (((WI.i a : Nat) : Int) + 1) → ∃ d : WI, (WI.i d ≤ 4 ∧ List.length (WI.o d) = 4 ∧ (∀ A : Int, List.Mem A (WI.o d) → Wd A) ∧ 0 ≤ WI.c d ∧ WI.c d ≤ 1 ∧ pv (WI.o
 d) (WI.i d) + WI.c d * (18446744073709551616 : Int) ^ WI.i d = pv [a0, a1, a2, a3] (WI.i d) + pv [b0, b1, b2, b3] (WI.i d)) ∧ ((1 = WI.c d ∧ z = ((WI.i d : Nat) : Int)) ∧ [a0, a1, a2, a3] = [a0, a1, a2, a3] ∧ [b0, b1, b2, b3] = [b0, b1,
 b2, b3] ∧ List.set (WI.o a) (Int.toNat ((WI.i a : Nat) : Int) * 1) i = WI.o d) ∧ 4 - WI.i d < 4 - WI.i a) ∧ (decide (l < g) = false → ∀ B, B = IntKind.wrap IntKind.i64 (((WI.i a : Nat) : Int) + 1) → ∃ e : WI, (WI.i e ≤ 4 ∧ List.length
 (WI.o e) = 4 ∧ (∀ C : Int, List.Mem C (WI.o e) → Wd C) ∧ 0 ≤ WI.c e ∧ WI.c e ≤ 1 ∧ pv (WI.o e) (WI.i e) + WI.c e * (18446744073709551616 : Int) ^ WI.i e = pv [a0, a1, a2, a3] (WI.i e) + pv [b0, b1, b2, b3] (WI.i e)) ∧ ((0 = WI.c e ∧ B =
 ((WI.i e : Nat) : Int)) ∧ [a0, a1, a2, a3] = [a0, a1, a2, a3] ∧ [b0, b1, b2, b3] = [b0, b1, b2, b3] ∧ List.set (WI.o a) (Int.toNat ((WI.i a : Nat) : Int) * 1) i = WI.o e) ∧ 4 - WI.i e < 4 - WI.i a))))))) ∧ (decide (((WI.i a : Nat) : Int) <
 4) = false → (4 ≤ List.length (WI.o a) ∧ ∀ m : Int, m = List.getD (WI.o a) 0 (0 : Int) → ∀ o : Int, o = List.getD (WI.o a) 1 (0 : Int) → ∀ p : Int, p = List.getD (WI.o a) 2 (0 : Int) → ∀ q : Int, q = List.getD (WI.o a) 3 (0 : Int) → K
 (.tup [.agg [.int .u64 (.sym m), .int .u64 (.sym o), .int .u64 (.sym p), .int .u64 (.sym q)], .bool (.sym (WI.c a == 1))]) (memL [(513, ⟨false, .ints .u64 [a0, a1, a2, a3]⟩), (521, ⟨false, .ints .u64 [b0, b1, b2, b3]⟩), (529, ⟨false,
 .cells [.int .u64 (.sym m), .int .u64 (.sym o), .int .u64 (.sym p), .int .u64 (.sym q)]⟩), (553, ⟨false, .ints .u64 (WI.o a)⟩)])))) := by kernel_rfl
theorem pv_set (o : List Int) (i : Nat) (y : Int) : ∀ j, j ≤ i → pv (o.set i y) j = pv o j
 | 0, _ => rfl
 | j + 1, h => by
  unfold pv
  rw [pv_set o i y j (by omega), List.getD_eq_getElem?_getD, List.getD_eq_getElem?_getD, List.getElem?_set_ne (by omega)]
theorem pv_set1 {o : List Int} {i : Nat} (y : Int) (h : i < o.length) : pv (o.set i y) (i + 1) = pv o i + y * 18446744073709551616 ^ i := by
 show pv (o.set i y) i + (o.set i y).getD i 0 * 18446744073709551616 ^ i = _
 rw [pv_set o i y i (Nat.le_refl _), List.getD_eq_getElem?_getD, List.getElem?_set_self h]
 rfl
theorem pow_fact {P pO pA pB y c c' ai bi : Int} (e : pO + c * P = pA + pB) (h : y + c' * 18446744073709551616 = ai + bi + c) :
  pO + y * P + c' * (P * 18446744073709551616) = pA + ai * P + (pB + bi * P) := by
 have h2 : (y + c' * 18446744073709551616) * P = (ai + bi + c) * P := by rw [h]
 rw [Int.add_mul, Int.add_mul, Int.add_mul] at h2
 have h3 : c' * (P * 18446744073709551616) = c' * 18446744073709551616 * P := by rw [Int.mul_comm P, Int.mul_assoc]
 rw [h3]
 omega
theorem wd_set {o : List Int} {i : Nat} {y : Int} (h : ∀ x ∈ o, Wd x) (hy : Wd y) : ∀ x ∈ o.set i y, Wd x := by
 intro x hx
 rcases List.mem_or_eq_of_mem_set hx with h1 | h1
 ·exact h x h1
 ·rw [h1]; exact hy
theorem wd_get {a : List Int} (h : ∀ x ∈ a, Wd x) {i : Nat} : Wd (a.getD i 0) := by
 rw [List.getD_eq_getElem?_getD]
 cases e : a[i]? with
 | none => exact wd0
 | some x => exact h x (List.mem_of_getElem? e)
theorem sum_step {a b o : List Int} {c c' : Int} {i : Nat} {y : Int} (hi : i < o.length) (e : pv o i + c * 18446744073709551616 ^ i = pv a i + pv b i) (h : y + c' * 18446744073709551616 = a.getD i 0 + b.getD i 0 + c) :
  pv (o.set i y) (i + 1) + c' * 18446744073709551616 ^ (i + 1) = pv a (i + 1) + pv b (i + 1) := by
 rw [pv_set1 y hi, Int.pow_succ]
 exact pow_fact e h
theorem pv4 (a b c d : Int) : pv [a, b, c, d] 4 = V4 a b c d := by
 unfold V4
 simp only [pv, List.getD_cons_zero, List.getD_cons_succ]
 omega
theorem wsum_walk (a0 a1 a2 a3 b0 b1 b2 b3 : Int) (K : SV → Mem → Prop) (ha : ∀ x ∈ [a0, a1, a2, a3], Wd x) (hb : ∀ x ∈ [b0, b1, b2, b3], Wd x)
  (hK : ∀ o0 o1 o2 o3 c m, Wd o0 → Wd o1 → Wd o2 → Wd o3 → 0 ≤ c → c ≤ 1 → V4 o0 o1 o2 o3 + c * 115792089237316195423570985008687907853269984665640564039457584007913129639936 = V4 a0 a1 a2 a3 + V4 b0 b1 b2 b3 →
   K (.tup [ag4 o0 o1 o2 o3, .bool (.sym (c == 1))]) m) :
  execF cx0 (fun n => if n = 0 then .inv (liSum [a0,a1,a2,a3] [b0,b1,b2,b3]) else .un 0) Tryz.f64 64 [ag4 a0 a1 a2 a3, ag4 b0 b1 b2 b3] (memL []) K := by
 rw [vc_wsum]
 generalize hA : [a0, a1, a2, a3] = A at ha ⊢
 generalize hB : [b0, b1, b2, b3] = B at hb ⊢
 have lA : A.length = 4 := by rw [← hA]; rfl
 have lB : B.length = 4 := by rw [← hB]; rfl
 refine ⟨⟨⟨0, 0, [0, 0, 0, 0]⟩, ⟨Nat.zero_le _, rfl, ?_, Int.le_refl _, by decide, rfl⟩, ⟨rfl, rfl⟩, rfl, rfl, rfl⟩, ?_⟩
 ·intro x hx
  have hx : x ∈ [0, 0, 0, 0] := hx
  simp only [List.mem_cons, List.not_mem_nil, or_false, or_self] at hx
  rw [hx]
  exact wd0
 rintro ⟨i, c, o⟩ ⟨hi, ho, hw, hc0, hc1, e⟩
 dsimp only at hi ho hw hc0 hc1 e ⊢
 have hw : ∀ x ∈ o, Wd x := hw
 refine ⟨fun h => ?_, fun h => ?_⟩
 ·simp only [decide_eq_true_eq] at h
  simp only [Int.toNat_natCast, Nat.mul_one]
  have hai := wd_get ha (i := i)
  have hbi := wd_get hb (i := i)
  have ho' : i < o.length := by omega
  refine ⟨⟨by omega, by omega⟩, by omega, ?_⟩
  rintro x4 h4
  refine ⟨⟨by omega, by omega⟩, by omega, ?_⟩
  rintro x5 h5 x6 h6
  rw [wu64] at h6
  refine ⟨⟨by omega, by omega⟩, by omega, ?_⟩
  rintro x7 h7
  rw [← h4] at hai h7
  rw [← h5] at hbi
  rw [h7]
  unfold Wd at hai hbi
  have fin : ∀ y c' : Int, Wd y → 0 ≤ c' → c' ≤ 1 → y + c' * 18446744073709551616 = x4 + x5 + c → ∀ x10, x10 = IntKind.i64.wrap ((i : Int) + 1) →
    ∃ w : WI, ((w.i ≤ 4 ∧ w.o.length = 4 ∧ (∀ x, List.Mem x w.o → Wd x) ∧ 0 ≤ w.c ∧ w.c ≤ 1 ∧ pv w.o w.i + w.c * 18446744073709551616 ^ w.i = pv A w.i + pv B w.i) ∧ (((c' = w.c ∧ x10 = ((w.i : Nat) : Int)) ∧ True ∧ True ∧ o.set i y = w.o) ∧ 4 - w.i < 4 - i)) := by
   intro y c' hy h0 h1 hs x10 h10
   rw [wrap64 (by omega) (by omega)] at h10
   refine ⟨⟨i + 1, c', o.set i y⟩, ⟨by simp only; omega, by simp only [List.length_set]; exact ho, wd_set hw hy, h0, h1, sum_step ho' e (by rw [hs, h4, h5])⟩, ⟨⟨rfl, h10.trans (by simp only; omega)⟩, trivial, trivial, rfl⟩, by simp only; omega⟩
  refine ⟨fun hlt => ?_, fun hlt => ?_⟩
  all_goals
   simp only [decide_eq_true_eq, decide_eq_false_iff_not] at hlt
   rintro x8 h8
   rw [wu64] at h8
   have hy : Wd x8 := by unfold Wd; omega
   refine ⟨⟨by omega, by omega⟩, by omega, ⟨by omega, by omega⟩, by simp only [List.length_set]; omega, ?_⟩
   rintro x9 h9
   rw [List.getD_eq_getElem?_getD, List.getElem?_set_self ho', Option.getD_some] at h9
   rw [h9]
   refine ⟨fun hl2 => ?_, fun hl2 => ?_⟩
   all_goals
    simp only [decide_eq_true_eq, decide_eq_false_iff_not] at hl2
    refine fin x8 _ hy ?_ ?_ ?_
    all_goals omega
 ·simp only [decide_eq_false_iff_not] at h
  have h4 : i = 4 := by omega
  refine ⟨by omega, ?_⟩
  rintro _ rfl _ rfl _ rfl _ rfl
  rw [h4, ← hA, ← hB, pv4, pv4] at e
  match o, ho, hw, e with
  | [o0, o1, o2, o3], _, hw, e =>
   rw [pv4] at e
   exact hK o0 o1 o2 o3 c _ (hw _ (by simp)) (hw _ (by simp)) (hw _ (by simp)) (hw _ (by simp)) hc0 hc1 (e.trans rfl)
theorem wds {a b c d : Int} (h : Wd a ∧ Wd b ∧ Wd c ∧ Wd d) : ∀ x ∈ [a, b, c, d], Wd x := by
 obtain ⟨h0, h1, h2, h3⟩ := h
 intro x hx
 simp only [List.mem_cons, List.not_mem_nil, or_false] at hx
 rcases hx with rfl | rfl | rfl | rfl <;> assumption
def w256 (x : Int) : Nat := (x % 115792089237316195423570985008687907853269984665640564039457584007913129639936).toNat
theorem w256_of {o0 o1 o2 o3 c s : Int} (h0 : Wd o0) (h1 : Wd o1) (h2 : Wd o2) (h3 : Wd o3) (e : V4 o0 o1 o2 o3 + c * 115792089237316195423570985008687907853269984665640564039457584007913129639936 = s) :
  o0 = lm (w256 s) 0 ∧ o1 = lm (w256 s) 1 ∧ o2 = lm (w256 s) 2 ∧ o3 = lm (w256 s) 3 := by
 refine lm_of h0 h1 h2 h3 ?_
 have n0 := V4_nonneg h0 h1 h2 h3
 have n1 := V4_lt h0 h1 h2 h3
 unfold w256
 omega
def rWs : R0 := fun args l =>
 match args, l with
 | [.agg [.int .u64 (.sym a0), .int .u64 (.sym a1), .int .u64 (.sym a2), .int .u64 (.sym a3)], .agg [.int .u64 (.sym b0), .int .u64 (.sym b1), .int .u64 (.sym b2), .int .u64 (.sym b3)]], [] =>
  some (some ((Wd a0 ∧ Wd a1 ∧ Wd a2 ∧ Wd a3) ∧ Wd b0 ∧ Wd b1 ∧ Wd b2 ∧ Wd b3),
   .tup [ag4 (lm (w256 (V4 a0 a1 a2 a3 + V4 b0 b1 b2 b3)) 0) (lm (w256 (V4 a0 a1 a2 a3 + V4 b0 b1 b2 b3)) 1) (lm (w256 (V4 a0 a1 a2 a3 + V4 b0 b1 b2 b3)) 2) (lm (w256 (V4 a0 a1 a2 a3 + V4 b0 b1 b2 b3)) 3),
    .bool (.sym (decide (115792089237316195423570985008687907853269984665640564039457584007913129639936 ≤ V4 a0 a1 a2 a3 + V4 b0 b1 b2 b3)))])
 | _, _ => none
theorem ws_ok (args : List SV) (l : List (Nat × Reg)) (p : Ob) (v : SV) (h : rWs args l = some (p, v)) (hp : p.ok) : ∃ U, execF cx0 U Tryz.f64 64 args (memL l) fun v' _ => v' = v := by
 unfold rWs at h
 split at h
 ·rename_i a0 a1 a2 a3 b0 b1 b2 b3
  simp only [Option.some.injEq, Prod.mk.injEq] at h
  obtain ⟨rfl, rfl⟩ := h
  obtain ⟨ha, hb⟩ : (Wd a0 ∧ Wd a1 ∧ Wd a2 ∧ Wd a3) ∧ Wd b0 ∧ Wd b1 ∧ Wd b2 ∧ Wd b3 := hp
  refine ⟨_, wsum_walk a0 a1 a2 a3 b0 b1 b2 b3 _ (wds ha) (wds hb) fun o0 o1 o2 o3 c m h0 h1 h2 h3 hc0 hc1 e => ?_⟩
  obtain ⟨e0, e1, e2, e3⟩ := w256_of h0 h1 h2 h3 e
  have n0 := V4_nonneg h0 h1 h2 h3
  have n1 := V4_lt h0 h1 h2 h3
  have hc : (c == 1) = decide (115792089237316195423570985008687907853269984665640564039457584007913129639936 ≤ V4 a0 a1 a2 a3 + V4 b0 b1 b2 b3) := by
   rw [← e]
   by_cases h : c = 1
   ·rw [h]
    simp only [beq_self_eq_true]
    exact (decide_eq_true (by omega)).symm
   ·have hc : c = 0 := by omega
    rw [hc]
    exact (decide_eq_false (by omega)).symm
  rw [hc, ← e0, ← e1, ← e2, ← e3]
 ·cases h
def cWs : Rd Tryz.prog := mkR mixed 64 Tryz.func64 (by decide) (by kernel_rfl) [] [.num, .num] rWs ws_ok
theorem vc_wdif (a0 a1 a2 a3 b0 b1 b2 b3 : Int) (K : SV → Mem → Prop) : (execF cx0 (fun n => if n = 0 then .inv (liDif [a0,a1,a2,a3] [b0,b1,b2,b3]) else .un 0) Tryz.f46 64 [ag4 a0 a1 a2 a3, ag4 b0 b1 b2 b3] (memL []) K) = ((∃ f : WI, (WI.i
 f ≤ 4 ∧ List.length (WI.o f) = 4 ∧ (∀ q : Int, List.Mem q (WI.o f) → Wd q) ∧ 0 ≤ WI.c f ∧ WI.c f ≤ 1 ∧ pv (WI.o f) (WI.i f) = pv [a0, a1, a2, a3] (WI.i f) - pv [b0, b1, b2, b3] (WI.i f) + WI.c f * (18446744073709551616 : Int) ^ WI.i f) ∧
 (0 = WI.c f ∧ 0 = ((WI.i f : Nat) : Int)) ∧ [a0, a1, a2, a3] = [a0, a1, a2, a3] ∧ [b0, b1, b2, b3] = [b0, b1, b2, b3] ∧ [(0 : Int), (0 : Int), (0 : Int), (0 : Int)] = WI.o f) ∧ ∀ a : WI, WI.i a ≤ 4 ∧ List.length (WI.o a) = 4 ∧ (∀ r : Int,
 List.Mem r (WI.o a) → Wd r) ∧ 0 ≤ WI.c a ∧ WI.c a ≤ 1 ∧ pv (WI.o a) (WI.i a) = pv [a0, a1, a2, a3] (WI.i a) - pv [b0, b1, b2, b3] (WI.i a) + WI.c a * (18446744073709551616 : Int) ^ WI.i a → (decide (((WI.i a : Nat) : Int) < 4) = true → (0
 ≤ ((WI.i a : Nat) : Int) ∧ ((WI.i a : Nat) : Int) < 4) ∧ (Int.toNat ((WI.i a : Nat) : Int) * 1 + 1 ≤ List.length [a0, a1, a2, a3] ∧ ∀ s : Int, s = List.getD [a0, a1, a2, a3] (Int.toNat ((WI.i a : Nat) : Int) * 1) (0 : Int) → (0 ≤ ((WI.i a
 : Nat) : Int) ∧ ((WI.i a : Nat) : Int) < 4) ∧ (Int.toNat ((WI.i a : Nat) : Int) * 1 + 1 ≤ List.length [b0, b1, b2, b3] ∧ ∀ t : Int, t = List.getD [b0, b1, b2, b3] (Int.toNat ((WI.i a : Nat) : Int) * 1) (0 : Int) → ∀ g, g = IntKind.wrap
 IntKind.u64 (s - t) → (0 ≤ ((WI.i a : Nat) : Int) ∧ ((WI.i a : Nat) : Int) < 4) ∧ (Int.toNat ((WI.i a : Nat) : Int) * 1 + 1 ≤ List.length [a0, a1, a2, a3] ∧ ∀ h : Int, h = List.getD [a0, a1, a2, a3] (Int.toNat ((WI.i a : Nat) : Int) * 1)
 (0 : Int) → (0 ≤ ((WI.i a : Nat) : Int) ∧ ((WI.i a : Nat) : Int) < 4) ∧ (Int.toNat ((WI.i a : Nat) : Int) * 1 + 1 ≤ List.length [b0, b1, b2, b3] ∧ ∀ i : Int, i = List.getD [b0, b1, b2, b3] (Int.toNat ((WI.i a : Nat) : Int) * 1) (0 : Int) →
 (decide (h < i) = true → ∀ j, j = IntKind.wrap IntKind.u64 (g - WI.c a) → (0 ≤ ((WI.i a : Nat) : Int) ∧ ((WI.i a : Nat) : Int) < 4) ∧ Int.toNat ((WI.i a : Nat) : Int) * 1 < List.length (WI.o a) ∧ (decide (g < WI.c a) = true → ∀ u, u =
 IntKind.wrap IntKind.i64 (((WI.i a : Nat) : Int) + 1) → ∃ b : WI, (WI.i b ≤ 4 ∧ List.length (WI.o b) = 4 ∧ (∀ v : Int, List.Mem v (WI.o b) → Wd v) ∧ 0 ≤ WI.c b ∧ WI.c b ≤ 1 ∧ pv (WI.o b) (WI.i b) = pv [a0, a1, a2, a3] (WI.i b) - pv [b0,
 b1, b2, b3] (WI.i b) + WI.c b * (18446744073709551616 : Int) ^ WI.i b) ∧ ((1 = WI.c b ∧ u = ((WI.i b : Nat) : Int)) ∧ [a0, a1, a2, a3] = [a0, a1, a2, a3] ∧ [b0, b1, b2, b3] = [b0, b1, b2, b3] ∧ List.set (WI.o a) (Int.toNat ((WI.i a : Nat)
 : Int) * 1) j = WI.o b) ∧ 4 - WI.i b < 4 - WI.i a) ∧ (decide (g < WI.c a) = false → ∀ w, w = IntKind.wrap IntKind.i64 (((WI.i a : Nat) : Int) + 1) → ∃ c : WI, (WI.i c ≤ 4 ∧ List.length (WI.o c) = 4 ∧ (∀ x : Int, List.Mem x (WI.o c) → Wd x)
 ∧ 0 ≤ WI.c c ∧ WI.c c ≤ 1 ∧ pv (WI.o c) (WI.i c) = pv [a0, a1, a2, a3] (WI.i c) - pv [b0, b1, b2, b3] (WI.i c) + WI.c c * (18446744073709551616 : Int) ^ WI.i c) ∧ ((1 = WI.c c ∧ w = ((WI.i c : Nat) : Int)) ∧ [a0, a1, a2, a3] = [a0, a1, a2,
 a3] ∧ [b0, b1, b2, b3] = [b0, b1, b2, b3] ∧ List.set (WI.o a) (Int.toNat ((WI.i a : Nat) : Int) * 1) j = WI.o c) ∧ 4 - WI.i c < 4 - WI.i a)) ∧ (decide (h < i) = false → ∀ k, k = IntKind.wrap IntKind.u64 (g - WI.c a) → (0 ≤ ((WI.i a : Nat)
 : Int) ∧ ((WI.i a : Nat) : Int) < 4) ∧ Int.toNat ((WI.i a : Nat) : Int) * 1 < List.length (WI.o a) ∧ (decide (g < WI.c a) = true → ∀ y, y = IntKind.wrap IntKind.i64 (((WI.i a : Nat) : Int) + 1) → ∃ d : WI, (WI.i d ≤ 4 ∧ List.length (WI.o
 d) = 4 ∧ (∀ z : Int, List.Mem z (WI.o d) → Wd z) ∧ 0 ≤ WI.c d ∧ WI.c d ≤ 1 ∧ pv (WI.o d) (WI.i d) = pv [a0, a1, a2, a3] (WI.i d) - pv [b0, b1, b2, b3] (WI.i d) + WI.c d * (18446744073709551616 : Int) ^ WI.i d) ∧ ((1 = WI.c d ∧ y = ((WI.i d
 : Nat) : Int)) ∧ [a0, a1, a2, a3] = [a0, a1, a2, a3] ∧ [b0, b1, b2, b3] = [b0, b1, b2, b3] ∧ List.set (WI.o a) (Int.toNat ((WI.i a : Nat) : Int) * 1) k = WI.o d) ∧ 4 - WI.i d < 4 - WI.i a) ∧ (decide (g < WI.c a) = false → ∀ A, A =
 IntKind.wrap IntKind.i64 (((WI.i a : Nat) : Int) + 1) → ∃ e : WI, (WI.i e ≤ 4 ∧ List.length (WI.o e) = 4 ∧ (∀ B : Int, List.Mem B (WI.o e) → Wd B) ∧ 0 ≤ WI.c e ∧ WI.c e ≤ 1 ∧ pv (WI.o e) (WI.i e) = pv [a0, a1, a2, a3] (WI.i e) - pv [b0,
 b1, b2, b3] (WI.i e) + WI.c e * (18446744073709551616 : Int) ^ WI.i e) ∧ ((0 = WI.c e ∧ A = ((WI.i e : Nat) : Int)) ∧ [a0, a1, a2, a3] = [a0, a1, a2, a3] ∧ [b0, b1, b2, b3] = [b0, b1, b2, b3] ∧ List.set (WI.o a) (Int.toNat ((WI.i a : Nat)
 : Int) * 1) k = WI.o e) ∧ 4 - WI.i e < 4 - WI.i a))))))) ∧ (decide (((WI.i a : Nat) : Int) < 4) = false → (4 ≤ List.length (WI.o a) ∧ ∀ l : Int, l = List.getD (WI.o a) 0 (0 : Int) → ∀ m : Int, m = List.getD (WI.o a) 1 (0 : Int) → ∀ o :
 Int, o = List.getD (WI.o a) 2 (0 : Int) → ∀ p : Int, p = List.getD (WI.o a) 3 (0 : Int) → K (.agg [.int .u64 (.sym l), .int .u64 (.sym m), .int .u64 (.sym o), .int .u64 (.sym p)]) (memL [(513, ⟨false, .ints .u64 [a0, a1, a2, a3]⟩), (521,
 ⟨false, .ints .u64 [b0, b1, b2, b3]⟩), (529, ⟨false, .cells [.int .u64 (.sym l), .int .u64 (.sym m), .int .u64 (.sym o), .int .u64 (.sym p)]⟩), (545, ⟨false, .ints .u64 (WI.o a)⟩)])))) := by kernel_rfl
theorem pow_fact2 {P pO pA pB y c c' ai bi : Int} (e : pO = pA - pB + c * P) (h : y = ai - bi - c + c' * 18446744073709551616) :
  pO + y * P = pA + ai * P - (pB + bi * P) + c' * (P * 18446744073709551616) := by
 have h2 : y * P = (ai - bi - c + c' * 18446744073709551616) * P := by rw [h]
 rw [Int.add_mul, Int.sub_mul, Int.sub_mul] at h2
 have h3 : c' * (P * 18446744073709551616) = c' * 18446744073709551616 * P := by rw [Int.mul_comm P, Int.mul_assoc]
 rw [h3]
 omega
theorem dif_step {a b o : List Int} {c c' : Int} {i : Nat} {y : Int} (hi : i < o.length) (e : pv o i = pv a i - pv b i + c * 18446744073709551616 ^ i) (h : y = a.getD i 0 - b.getD i 0 - c + c' * 18446744073709551616) :
  pv (o.set i y) (i + 1) = pv a (i + 1) - pv b (i + 1) + c' * 18446744073709551616 ^ (i + 1) := by
 rw [pv_set1 y hi, Int.pow_succ]
 exact pow_fact2 e h
theorem wdif_walk (a0 a1 a2 a3 b0 b1 b2 b3 : Int) (K : SV → Mem → Prop) (ha : ∀ x ∈ [a0, a1, a2, a3], Wd x) (hb : ∀ x ∈ [b0, b1, b2, b3], Wd x)
  (hK : ∀ o0 o1 o2 o3 c m, Wd o0 → Wd o1 → Wd o2 → Wd o3 → V4 o0 o1 o2 o3 = V4 a0 a1 a2 a3 - V4 b0 b1 b2 b3 + c * 115792089237316195423570985008687907853269984665640564039457584007913129639936 →
   K (ag4 o0 o1 o2 o3) m) :
  execF cx0 (fun n => if n = 0 then .inv (liDif [a0,a1,a2,a3] [b0,b1,b2,b3]) else .un 0) Tryz.f46 64 [ag4 a0 a1 a2 a3, ag4 b0 b1 b2 b3] (memL []) K := by
 rw [vc_wdif]
 generalize hA : [a0, a1, a2, a3] = A at ha ⊢
 generalize hB : [b0, b1, b2, b3] = B at hb ⊢
 have lA : A.length = 4 := by rw [← hA]; rfl
 have lB : B.length = 4 := by rw [← hB]; rfl
 refine ⟨⟨⟨0, 0, [0, 0, 0, 0]⟩, ⟨Nat.zero_le _, rfl, ?_, Int.le_refl _, by decide, rfl⟩, ⟨rfl, rfl⟩, rfl, rfl, rfl⟩, ?_⟩
 ·intro x hx
  have hx : x ∈ [0, 0, 0, 0] := hx
  simp only [List.mem_cons, List.not_mem_nil, or_false, or_self] at hx
  rw [hx]
  exact wd0
 rintro ⟨i, c, o⟩ ⟨hi, ho, hw, hc0, hc1, e⟩
 dsimp only at hi ho hw hc0 hc1 e ⊢
 have hw : ∀ x ∈ o, Wd x := hw
 refine ⟨fun h => ?_, fun h => ?_⟩
 ·simp only [decide_eq_true_eq] at h
  simp only [Int.toNat_natCast, Nat.mul_one]
  have hai := wd_get ha (i := i)
  have hbi := wd_get hb (i := i)
  have ho' : i < o.length := by omega
  refine ⟨⟨by omega, by omega⟩, by omega, ?_⟩
  rintro x4 h4
  refine ⟨⟨by omega, by omega⟩, by omega, ?_⟩
  rintro x5 h5 x6 h6
  rw [wu64] at h6
  refine ⟨⟨by omega, by omega⟩, by omega, ?_⟩
  rintro x7 h7
  refine ⟨⟨by omega, by omega⟩, by omega, ?_⟩
  rintro x8 h8
  rw [← h4] at hai h7
  rw [← h5] at hbi h8
  rw [h7, h8]
  unfold Wd at hai hbi
  have fin : ∀ y c' : Int, Wd y → 0 ≤ c' → c' ≤ 1 → y = x4 - x5 - c + c' * 18446744073709551616 → ∀ x10, x10 = IntKind.i64.wrap ((i : Int) + 1) →
    ∃ w : WI, ((w.i ≤ 4 ∧ w.o.length = 4 ∧ (∀ x, List.Mem x w.o → Wd x) ∧ 0 ≤ w.c ∧ w.c ≤ 1 ∧ pv w.o w.i = pv A w.i - pv B w.i + w.c * 18446744073709551616 ^ w.i) ∧ (((c' = w.c ∧ x10 = ((w.i : Nat) : Int)) ∧ True ∧ True ∧ o.set i y = w.o) ∧ 4 - w.i < 4 - i)) := by
   intro y c' hy h0 h1 hs x10 h10
   rw [wrap64 (by omega) (by omega)] at h10
   refine ⟨⟨i + 1, c', o.set i y⟩, ⟨by simp only; omega, by simp only [List.length_set]; exact ho, wd_set hw hy, h0, h1, dif_step ho' e (by rw [hs, h4, h5])⟩, ⟨⟨rfl, h10.trans (by simp only; omega)⟩, trivial, trivial, rfl⟩, by simp only; omega⟩
  refine ⟨fun hlt => ?_, fun hlt => ?_⟩
  all_goals
   simp only [decide_eq_true_eq, decide_eq_false_iff_not] at hlt
   rintro x9 h9
   rw [wu64] at h9
   have hy : Wd x9 := by unfold Wd; omega
   refine ⟨⟨by omega, by omega⟩, by omega, ?_⟩
   refine ⟨fun hl2 => ?_, fun hl2 => ?_⟩
   all_goals
    simp only [decide_eq_true_eq, decide_eq_false_iff_not] at hl2
    refine fin x9 _ hy ?_ ?_ ?_
    all_goals omega
 ·simp only [decide_eq_false_iff_not] at h
  have h4 : i = 4 := by omega
  refine ⟨by omega, ?_⟩
  rintro _ rfl _ rfl _ rfl _ rfl
  rw [h4, ← hA, ← hB, pv4, pv4] at e
  match o, ho, hw, e with
  | [o0, o1, o2, o3], _, hw, e =>
   rw [pv4] at e
   exact hK o0 o1 o2 o3 c _ (hw _ (by simp)) (hw _ (by simp)) (hw _ (by simp)) (hw _ (by simp)) (e.trans rfl)
def rWd : R0 := fun args l =>
 match args, l with
 | [.agg [.int .u64 (.sym a0), .int .u64 (.sym a1), .int .u64 (.sym a2), .int .u64 (.sym a3)], .agg [.int .u64 (.sym b0), .int .u64 (.sym b1), .int .u64 (.sym b2), .int .u64 (.sym b3)]], [] =>
  some (some ((Wd a0 ∧ Wd a1 ∧ Wd a2 ∧ Wd a3) ∧ Wd b0 ∧ Wd b1 ∧ Wd b2 ∧ Wd b3),
   ag4 (lm (w256 (V4 a0 a1 a2 a3 - V4 b0 b1 b2 b3)) 0) (lm (w256 (V4 a0 a1 a2 a3 - V4 b0 b1 b2 b3)) 1) (lm (w256 (V4 a0 a1 a2 a3 - V4 b0 b1 b2 b3)) 2) (lm (w256 (V4 a0 a1 a2 a3 - V4 b0 b1 b2 b3)) 3))
 | _, _ => none
theorem wd_ok (args : List SV) (l : List (Nat × Reg)) (p : Ob) (v : SV) (h : rWd args l = some (p, v)) (hp : p.ok) : ∃ U, execF cx0 U Tryz.f46 64 args (memL l) fun v' _ => v' = v := by
 unfold rWd at h
 split at h
 ·rename_i a0 a1 a2 a3 b0 b1 b2 b3
  simp only [Option.some.injEq, Prod.mk.injEq] at h
  obtain ⟨rfl, rfl⟩ := h
  obtain ⟨ha, hb⟩ : (Wd a0 ∧ Wd a1 ∧ Wd a2 ∧ Wd a3) ∧ Wd b0 ∧ Wd b1 ∧ Wd b2 ∧ Wd b3 := hp
  refine ⟨_, wdif_walk a0 a1 a2 a3 b0 b1 b2 b3 _ (wds ha) (wds hb) fun o0 o1 o2 o3 c m h0 h1 h2 h3 e => ?_⟩
  obtain ⟨e0, e1, e2, e3⟩ := w256_of (c := -c) (s := V4 a0 a1 a2 a3 - V4 b0 b1 b2 b3) h0 h1 h2 h3 (by rw [e, Int.neg_mul]; omega)
  rw [← e0, ← e1, ← e2, ← e3]
 ·cases h
def cWd : Rd Tryz.prog := mkR mixed 46 Tryz.func46 (by decide) (by kernel_rfl) [] [.num, .num] rWd wd_ok
def cxAm : Cx Tryz.prog := { rds := [cWs, cLs, cWd], efs := [], eqs := [] }
theorem vc_am (a0 a1 a2 a3 b0 b1 b2 b3 m0 m1 m2 m3 : Int) (K : SV → Mem → Prop) : (execF cxAm u9 Tryz.f37 64 [ag4 a0 a1 a2 a3, ag4 b0 b1 b2 b3, ag4 m0 m1 m2 m3] (memL []) K) = (∀ a, a = a0 → ∀ b, b = a1 → ∀ c, c = a2 → ∀ d, d = a3 → ∀ e, e
 = b0 → ∀ f, f = b1 → ∀ g, g = b2 → ∀ h, h = b3 → ((Wd a ∧ Wd b ∧ Wd c ∧ Wd d) ∧ Wd e ∧ Wd f ∧ Wd g ∧ Wd h) ∧ (decide (115792089237316195423570985008687907853269984665640564039457584007913129639936 ≤ V4 a b c d + V4 e f g h) = true → ∀ i, i
 = lm (w256 (V4 a b c d + V4 e f g h)) 0 → ∀ j, j = lm (w256 (V4 a b c d + V4 e f g h)) 1 → ∀ k, k = lm (w256 (V4 a b c d + V4 e f g h)) 2 → ∀ l, l = lm (w256 (V4 a b c d + V4 e f g h)) 3 → ∀ m, m = m0 → ∀ n, n = m1 → ∀ o, o = m2 → ∀ p, p =
 m3 → (((Wd i ∧ Wd j ∧ Wd k ∧ Wd l) ∧ Wd m ∧ Wd n ∧ Wd o ∧ Wd p) ∧ ∀ G, G = lm (w256 (V4 i j k l - V4 m n o p)) 0 → ∀ H, H = lm (w256 (V4 i j k l - V4 m n o p)) 1 → ∀ I, I = lm (w256 (V4 i j k l - V4 m n o p)) 2 → ∀ J, J = lm (w256 (V4 i j
 k l - V4 m n o p)) 3 → K (.agg [.int .u64 (.sym G), .int .u64 (.sym H), .int .u64 (.sym I), .int .u64 (.sym J)]) (memL [(513, ⟨false, .cells [.int .u64 (.sym a0), .int .u64 (.sym a1), .int .u64 (.sym a2), .int .u64 (.sym a3)]⟩), (521,
 ⟨false, .cells [.int .u64 (.sym b0), .int .u64 (.sym b1), .int .u64 (.sym b2), .int .u64 (.sym b3)]⟩), (529, ⟨false, .cells [.int .u64 (.sym m0), .int .u64 (.sym m1), .int .u64 (.sym m2), .int .u64 (.sym m3)]⟩), (537, ⟨false, .cells [.int
 .u64 (.sym G), .int .u64 (.sym H), .int .u64 (.sym I), .int .u64 (.sym J)]⟩), (593, ⟨false, .cells [.int .u64 (.sym (lm (w256 (V4 a b c d + V4 e f g h)) 0)), .int .u64 (.sym (lm (w256 (V4 a b c d + V4 e f g h)) 1)), .int .u64 (.sym (lm
 (w256 (V4 a b c d + V4 e f g h)) 2)), .int .u64 (.sym (lm (w256 (V4 a b c d + V4 e f g h)) 3))]⟩)]))) ∧ (decide (115792089237316195423570985008687907853269984665640564039457584007913129639936 ≤ V4 a b c d + V4 e f g h) = false → ∀ y, y =
 lm (w256 (V4 a b c d + V4 e f g h)) 0 → ∀ z, z = lm (w256 (V4 a b c d + V4 e f g h)) 1 → ∀ A, A = lm (w256 (V4 a b c d + V4 e f g h)) 2 → ∀ B, B = lm (w256 (V4 a b c d + V4 e f g h)) 3 → ∀ C, C = m0 → ∀ D, D = m1 → ∀ E, E = m2 → ∀ F, F =
 m3 → ((Wd y ∧ Wd z ∧ Wd A ∧ Wd B) ∧ Wd C ∧ Wd D ∧ Wd E ∧ Wd F) ∧ (Bool.not (decide (V4 y z A B < V4 C D E F)) = true → ∀ q, q = lm (w256 (V4 a b c d + V4 e f g h)) 0 → ∀ r, r = lm (w256 (V4 a b c d + V4 e f g h)) 1 → ∀ s, s = lm (w256 (V4
 a b c d + V4 e f g h)) 2 → ∀ t, t = lm (w256 (V4 a b c d + V4 e f g h)) 3 → ∀ u, u = m0 → ∀ v, v = m1 → ∀ w, w = m2 → ∀ x, x = m3 → (((Wd q ∧ Wd r ∧ Wd s ∧ Wd t) ∧ Wd u ∧ Wd v ∧ Wd w ∧ Wd x) ∧ ∀ L, L = lm (w256 (V4 q r s t - V4 u v w x)) 0
 → ∀ M, M = lm (w256 (V4 q r s t - V4 u v w x)) 1 → ∀ N, N = lm (w256 (V4 q r s t - V4 u v w x)) 2 → ∀ O, O = lm (w256 (V4 q r s t - V4 u v w x)) 3 → K (.agg [.int .u64 (.sym L), .int .u64 (.sym M), .int .u64 (.sym N), .int .u64 (.sym O)])
 (memL [(513, ⟨false, .cells [.int .u64 (.sym a0), .int .u64 (.sym a1), .int .u64 (.sym a2), .int .u64 (.sym a3)]⟩), (521, ⟨false, .cells [.int .u64 (.sym b0), .int .u64 (.sym b1), .int .u64 (.sym b2), .int .u64 (.sym b3)]⟩), (529, ⟨false,
 .cells [.int .u64 (.sym m0), .int .u64 (.sym m1), .int .u64 (.sym m2), .int .u64 (.sym m3)]⟩), (537, ⟨false, .cells [.int .u64 (.sym L), .int .u64 (.sym M), .int .u64 (.sym N), .int .u64 (.sym O)]⟩), (593, ⟨false, .cells [.int .u64 (.sym
 (lm (w256 (V4 a b c d + V4 e f g h)) 0)), .int .u64 (.sym (lm (w256 (V4 a b c d + V4 e f g h)) 1)), .int .u64 (.sym (lm (w256 (V4 a b c d + V4 e f g h)) 2)), .int .u64 (.sym (lm (w256 (V4 a b c d + V4 e f g h)) 3))]⟩)]))) ∧ (Bool.not
 (decide (V4 y z A B < V4 C D E F)) = false → ∀ Q, Q = lm (w256 (V4 a b c d + V4 e f g h)) 0 → ∀ R, R = lm (w256 (V4 a b c d + V4 e f g h)) 1 → ∀ S, S = lm (w256 (V4 a b c d + V4 e f g h)) 2 → ∀ T, T = lm (w256 (V4 a b c d + V4 e f g h)) 3
 → K (.agg [.int .u64 (.sym Q), .int .u64 (.sym R), .int .u64 (.sym S), .int .u64 (.sym T)]) (memL [(513, ⟨false, .cells [.int .u64 (.sym a0), .int .u64 (.sym a1), .int .u64 (.sym a2), .int .u64 (.sym a3)]⟩), (521, ⟨false, .cells [.int .u64
 (.sym b0), .int .u64 (.sym b1), .int .u64 (.sym b2), .int .u64 (.sym b3)]⟩), (529, ⟨false, .cells [.int .u64 (.sym m0), .int .u64 (.sym m1), .int .u64 (.sym m2), .int .u64 (.sym m3)]⟩), (537, ⟨false, .cells [.int .u64 (.sym Q), .int .u64
 (.sym R), .int .u64 (.sym S), .int .u64 (.sym T)]⟩), (593, ⟨false, .cells [.int .u64 (.sym (lm (w256 (V4 a b c d + V4 e f g h)) 0)), .int .u64 (.sym (lm (w256 (V4 a b c d + V4 e f g h)) 1)), .int .u64 (.sym (lm (w256 (V4 a b c d + V4 e f g
 h)) 2)), .int .u64 (.sym (lm (w256 (V4 a b c d + V4 e f g h)) 3))]⟩)])))) := by kernel_rfl
theorem w256_lt (s : Int) : w256 s < 2 ^ 256 := by unfold w256; omega
theorem w256_V4 (s : Int) : V4 (lm (w256 s) 0) (lm (w256 s) 1) (lm (w256 s) 2) (lm (w256 s) 3) = (w256 s : Int) := lm_val (w256_lt s)
theorem am_sub {S M : Int} (h0 : M ≤ S) (h1 : S < 2 * M) : S % M = S - M := by
 rw [← Int.sub_emod_right, Int.emod_eq_of_lt (by omega) (by omega)]
theorem am1 {S M : Int} (hM : M < 115792089237316195423570985008687907853269984665640564039457584007913129639936) (h1 : S < 2 * M) (h2 : 115792089237316195423570985008687907853269984665640564039457584007913129639936 ≤ S) : w256 ((w256 S : Int) - M) = (S % M).toNat := by
 rw [am_sub (by omega) h1]
 unfold w256
 omega
theorem am2 {S M : Int} (h0 : 0 ≤ S) (h1 : S < 2 * M) (h2 : ¬ 115792089237316195423570985008687907853269984665640564039457584007913129639936 ≤ S) (h3 : ¬ (w256 S : Int) < M) : w256 ((w256 S : Int) - M) = (S % M).toNat := by
 have : (w256 S : Int) = S := by unfold w256; omega
 rw [this] at h3 ⊢
 rw [am_sub (by omega) h1]
 unfold w256
 omega
theorem am3 {S M : Int} (h0 : 0 ≤ S) (h2 : ¬ 115792089237316195423570985008687907853269984665640564039457584007913129639936 ≤ S) (h3 : (w256 S : Int) < M) : w256 S = (S % M).toNat := by
 have : (w256 S : Int) = S := by unfold w256; omega
 rw [this] at h3
 rw [Int.emod_eq_of_lt h0 h3]
 omega
def rAm : R0 := fun args l =>
 match args, l with
 | [.agg [.int .u64 (.sym a0), .int .u64 (.sym a1), .int .u64 (.sym a2), .int .u64 (.sym a3)], .agg [.int .u64 (.sym b0), .int .u64 (.sym b1), .int .u64 (.sym b2), .int .u64 (.sym b3)], .agg [.int .u64 (.sym m0), .int .u64 (.sym m1), .int .u64 (.sym m2), .int .u64 (.sym m3)]], [] =>
  some (some (((Wd a0 ∧ Wd a1 ∧ Wd a2 ∧ Wd a3) ∧ (Wd b0 ∧ Wd b1 ∧ Wd b2 ∧ Wd b3) ∧ Wd m0 ∧ Wd m1 ∧ Wd m2 ∧ Wd m3) ∧ V4 a0 a1 a2 a3 < V4 m0 m1 m2 m3 ∧ V4 b0 b1 b2 b3 < V4 m0 m1 m2 m3),
   ag4 (lm ((V4 a0 a1 a2 a3 + V4 b0 b1 b2 b3) % V4 m0 m1 m2 m3).toNat 0) (lm ((V4 a0 a1 a2 a3 + V4 b0 b1 b2 b3) % V4 m0 m1 m2 m3).toNat 1) (lm ((V4 a0 a1 a2 a3 + V4 b0 b1 b2 b3) % V4 m0 m1 m2 m3).toNat 2) (lm ((V4 a0 a1 a2 a3 + V4 b0 b1 b2 b3) % V4 m0 m1 m2 m3).toNat 3))
 | _, _ => none
theorem am_ok (args : List SV) (l : List (Nat × Reg)) (p : Ob) (v : SV) (h : rAm args l = some (p, v)) (hp : p.ok) : ∃ U, execF cxAm U Tryz.f37 64 args (memL l) fun v' _ => v' = v := by
 unfold rAm at h
 split at h
 ·rename_i a0 a1 a2 a3 b0 b1 b2 b3 m0 m1 m2 m3
  simp only [Option.some.injEq, Prod.mk.injEq] at h
  obtain ⟨rfl, rfl⟩ := h
  obtain ⟨⟨ha, hb, hm⟩, hA, hB⟩ : ((Wd a0 ∧ Wd a1 ∧ Wd a2 ∧ Wd a3) ∧ (Wd b0 ∧ Wd b1 ∧ Wd b2 ∧ Wd b3) ∧ Wd m0 ∧ Wd m1 ∧ Wd m2 ∧ Wd m3) ∧ V4 a0 a1 a2 a3 < V4 m0 m1 m2 m3 ∧ V4 b0 b1 b2 b3 < V4 m0 m1 m2 m3 := hp
  have nA := V4_nonneg ha.1 ha.2.1 ha.2.2.1 ha.2.2.2
  have nB := V4_nonneg hb.1 hb.2.1 hb.2.2.1 hb.2.2.2
  have lM := V4_lt hm.1 hm.2.1 hm.2.2.1 hm.2.2.2
  have W : ∀ s i, Wd (lm s i) := lm_wd
  refine ⟨u9, ?_⟩
  have := vc_am a0 a1 a2 a3 b0 b1 b2 b3 m0 m1 m2 m3 fun v' _ => v' = ag4 (lm ((V4 a0 a1 a2 a3 + V4 b0 b1 b2 b3) % V4 m0 m1 m2 m3).toNat 0) (lm ((V4 a0 a1 a2 a3 + V4 b0 b1 b2 b3) % V4 m0 m1 m2 m3).toNat 1) (lm ((V4 a0 a1 a2 a3 + V4 b0 b1 b2 b3) % V4 m0 m1 m2 m3).toNat 2) (lm ((V4 a0 a1 a2 a3 + V4 b0 b1 b2 b3) % V4 m0 m1 m2 m3).toNat 3)
  unfold ag4 at this
  refine this.mpr ?_
  clear this
  rintro _ rfl _ rfl _ rfl _ rfl _ rfl _ rfl _ rfl _ rfl
  refine ⟨⟨ha, hb⟩, fun h => ?_, fun h => ?_⟩
  ·simp only [decide_eq_true_eq] at h
   rintro _ rfl _ rfl _ rfl _ rfl _ rfl _ rfl _ rfl _ rfl
   refine ⟨⟨⟨W _ _, W _ _, W _ _, W _ _⟩, hm⟩, ?_⟩
   rintro _ rfl _ rfl _ rfl _ rfl
   rw [w256_V4, am1 lM (by omega) h]
  ·simp only [decide_eq_false_iff_not] at h
   rintro _ rfl _ rfl _ rfl _ rfl _ rfl _ rfl _ rfl _ rfl
   refine ⟨⟨⟨W _ _, W _ _, W _ _, W _ _⟩, hm⟩, fun h2 => ?_, fun h2 => ?_⟩
   ·rw [w256_V4] at h2
    rintro _ rfl _ rfl _ rfl _ rfl _ rfl _ rfl _ rfl _ rfl
    refine ⟨⟨⟨W _ _, W _ _, W _ _, W _ _⟩, hm⟩, ?_⟩
    rintro _ rfl _ rfl _ rfl _ rfl
    rw [w256_V4, am2 (by omega) (by omega) h (by simpa using h2)]
   ·rw [w256_V4] at h2
    rintro _ rfl _ rfl _ rfl _ rfl
    rw [am3 (by omega) h (by simpa using h2)]
 ·cases h
def cAm : Rd Tryz.prog := mkR mixed 37 Tryz.func37 (by decide) (by kernel_rfl) [] [.num, .num, .num] rAm am_ok
def cxAd : Cx Tryz.prog := { rds := [cPP, cAm], efs := [], eqs := [] }
theorem vc_ad (a0 a1 a2 a3 b0 b1 b2 b3 : Int) (K : SV → Mem → Prop) : (execF cxAd u9 Tryz.f16 64 [ag4 a0 a1 a2 a3, ag4 b0 b1 b2 b3] (memL []) K) = (∀ a, a = a0 → ∀ b, b = a1 → ∀ c, c = a2 → ∀ d, d = a3 → ∀ e, e = b0 → ∀ f, f = b1 → ∀ g, g =
 b2 → ∀ h, h = b3 → ((((Wd a ∧ Wd b ∧ Wd c ∧ Wd d) ∧ (Wd e ∧ Wd f ∧ Wd g ∧ Wd h) ∧ Wd (4332616871279656263 : Int) ∧ Wd (10917124144477883021 : Int) ∧ Wd (13281191951274694749 : Int) ∧ Wd (3486998266802970665 : Int)) ∧ V4 a b c d <
 21888242871839275222246405745257275088696311157297823662689037894645226208583 ∧ V4 e f g h < 21888242871839275222246405745257275088696311157297823662689037894645226208583) ∧ ∀ i, i = lm (Int.toNat ((V4 a b c d + V4 e f g h) %
 21888242871839275222246405745257275088696311157297823662689037894645226208583)) 0 → ∀ j, j = lm (Int.toNat ((V4 a b c d + V4 e f g h) % 21888242871839275222246405745257275088696311157297823662689037894645226208583)) 1 → ∀ k, k = lm
 (Int.toNat ((V4 a b c d + V4 e f g h) % 21888242871839275222246405745257275088696311157297823662689037894645226208583)) 2 → ∀ l, l = lm (Int.toNat ((V4 a b c d + V4 e f g h) %
 21888242871839275222246405745257275088696311157297823662689037894645226208583)) 3 → K (.agg [.int .u64 (.sym i), .int .u64 (.sym j), .int .u64 (.sym k), .int .u64 (.sym l)]) (memL [(513, ⟨false, .cells [.int .u64 (.sym a0), .int .u64 (.sym
 a1), .int .u64 (.sym a2), .int .u64 (.sym a3)]⟩), (521, ⟨false, .cells [.int .u64 (.sym b0), .int .u64 (.sym b1), .int .u64 (.sym b2), .int .u64 (.sym b3)]⟩), (529, ⟨false, .cells [.int .u64 (.sym i), .int .u64 (.sym j), .int .u64 (.sym
 k), .int .u64 (.sym l)]⟩)]))) := by kernel_rfl
def rAd : R0 := fun args l =>
 match args, l with
 | [.agg [.int .u64 (.sym a0), .int .u64 (.sym a1), .int .u64 (.sym a2), .int .u64 (.sym a3)], .agg [.int .u64 (.sym b0), .int .u64 (.sym b1), .int .u64 (.sym b2), .int .u64 (.sym b3)]], [] =>
  some (some (((Wd a0 ∧ Wd a1 ∧ Wd a2 ∧ Wd a3) ∧ (Wd b0 ∧ Wd b1 ∧ Wd b2 ∧ Wd b3)) ∧ V4 a0 a1 a2 a3 < 21888242871839275222246405745257275088696311157297823662689037894645226208583 ∧ V4 b0 b1 b2 b3 < 21888242871839275222246405745257275088696311157297823662689037894645226208583),
   ag4 (lm ((V4 a0 a1 a2 a3 + V4 b0 b1 b2 b3) % 21888242871839275222246405745257275088696311157297823662689037894645226208583).toNat 0) (lm ((V4 a0 a1 a2 a3 + V4 b0 b1 b2 b3) % 21888242871839275222246405745257275088696311157297823662689037894645226208583).toNat 1) (lm ((V4 a0 a1 a2 a3 + V4 b0 b1 b2 b3) % 21888242871839275222246405745257275088696311157297823662689037894645226208583).toNat 2) (lm ((V4 a0 a1 a2 a3 + V4 b0 b1 b2 b3) % 21888242871839275222246405745257275088696311157297823662689037894645226208583).toNat 3))
 | _, _ => none
theorem ad_ok (args : List SV) (l : List (Nat × Reg)) (p : Ob) (v : SV) (h : rAd args l = some (p, v)) (hp : p.ok) : ∃ U, execF cxAd U Tryz.f16 64 args (memL l) fun v' _ => v' = v := by
 unfold rAd at h
 split at h
 ·rename_i a0 a1 a2 a3 b0 b1 b2 b3
  simp only [Option.some.injEq, Prod.mk.injEq] at h
  obtain ⟨rfl, rfl⟩ := h
  obtain ⟨⟨ha, hb⟩, hA, hB⟩ : ((Wd a0 ∧ Wd a1 ∧ Wd a2 ∧ Wd a3) ∧ (Wd b0 ∧ Wd b1 ∧ Wd b2 ∧ Wd b3)) ∧ V4 a0 a1 a2 a3 < 21888242871839275222246405745257275088696311157297823662689037894645226208583 ∧ V4 b0 b1 b2 b3 < 21888242871839275222246405745257275088696311157297823662689037894645226208583 := hp
  refine ⟨u9, ?_⟩
  have := vc_ad a0 a1 a2 a3 b0 b1 b2 b3 fun v' _ => v' = ag4 (lm ((V4 a0 a1 a2 a3 + V4 b0 b1 b2 b3) % 21888242871839275222246405745257275088696311157297823662689037894645226208583).toNat 0) (lm ((V4 a0 a1 a2 a3 + V4 b0 b1 b2 b3) % 21888242871839275222246405745257275088696311157297823662689037894645226208583).toNat 1) (lm ((V4 a0 a1 a2 a3 + V4 b0 b1 b2 b3) % 21888242871839275222246405745257275088696311157297823662689037894645226208583).toNat 2) (lm ((V4 a0 a1 a2 a3 + V4 b0 b1 b2 b3) % 21888242871839275222246405745257275088696311157297823662689037894645226208583).toNat 3)
  unfold ag4 at this
  refine this.mpr ?_
  clear this
  rintro _ rfl _ rfl _ rfl _ rfl _ rfl _ rfl _ rfl _ rfl
  refine ⟨⟨⟨ha, hb, wdq0, wdq1, wdq2, wdq3⟩, hA, hB⟩, ?_⟩
  rintro _ rfl _ rfl _ rfl _ rfl
  rfl
 ·cases h
def cAd : Rd Tryz.prog := mkR mixed 16 Tryz.func16 (by decide) (by kernel_rfl) [] [.num, .num] rAd ad_ok
def cxMm : Cx Tryz.prog := { rds := [cLs, cWd], efs := [], eqs := [] }
def dv : List Int → Int
 | [] => 0
 | d :: l => d + 4294967296 * dv l
structure MoI where
 i : Nat
 d : List Int
def lowD (x : Nat) (i : Nat) : Int := ((x % 4294967296 ^ i : Nat) : Int)
def digs (d : List Int) (n : Nat) : Prop := d.length = 17 ∧ (∀ x ∈ d, 0 ≤ x ∧ x < 4294967296) ∧ ∀ j, n ≤ j → d.getD j 0 = 0
def liMo (a b : List Int) (x y : Nat) : LI where
 ι := MoI
 keep := [3, 4, 5, 6, 7]
 keepR := [529, 537]
 F := fun s => ⟨[(8, i64n s.i)], [(513, ⟨false, .ints .u64 a⟩), (521, ⟨false, .ints .u64 b⟩), (553, ⟨false, .ints .u64 s.d⟩)]⟩
 I := fun _ s => s.i ≤ 8 ∧ digs s.d (s.i + 8) ∧ dv s.d = lowD x s.i * y
 μ := fun s => 8 - s.i
structure MiI where
 k : Nat
 c : Int
 d : List Int
def liMi (y : Nat) : LI where
 ι := MiI
 keep := [3, 4, 5, 6, 7, 8, 9]
 keepR := [513, 521, 529, 537]
 F := fun s => ⟨[(10, .int .u64 (.sym s.c)), (11, i64n s.k)], [(553, ⟨false, .ints .u64 s.d⟩)]⟩
 I := fun st s => s.k ≤ 8 ∧ digs s.d ((st.int 8).toNat + 8) ∧ 0 ≤ s.c ∧ s.c < 4294967296 ∧ dv s.d + s.c * 4294967296 ^ ((st.int 8).toNat + s.k) = dv (st.reg 553) + st.int 9 * lowD y s.k * 4294967296 ^ (st.int 8).toNat
 μ := fun s => 8 - s.k
structure MsI where
 n : Nat
 r : Nat
def liMs (M : Nat) : LI where
 ι := MsI
 keep := [5, 6, 7, 14]
 keepR := [529, 537, 553]
 F := fun s => ⟨[(15, .int .i64 (.sym ((s.n : Nat) - 1)))], [(601, ⟨false, e4 s.r⟩)]⟩
 I := fun st s => s.n ≤ 512 ∧ s.r = (dv (st.reg 553)).toNat / 2 ^ s.n % M
 μ := fun s => s.n
def uMm (a b : List Int) (X Y M : Nat) : Nat → Lp := fun n => match n with | 0 => .inv (liMo a b X Y) | 2 => .inv (liMi Y) | 4 => .inv (liMs M) | _ => .un 4
end Go.Sx
namespace Go.Sx
open Go
theorem dv_set : ∀ (d : List Int) (p : Nat) (v : Int), p < d.length → dv (d.set p v) = dv d + (v - d.getD p 0) * 4294967296 ^ p
 | [], _, _, h => absurd h (Nat.not_lt_zero _)
 | x :: l, 0, v, _ => by
  show v + 4294967296 * dv l = x + 4294967296 * dv l + (v - x) * 4294967296 ^ 0
  rw [Int.pow_zero, Int.mul_one]
  omega
 | x :: l, p + 1, v, h => by
  have ih := dv_set l p v (by simpa using h)
  show x + 4294967296 * dv (l.set p v) = x + 4294967296 * dv l + (v - l.getD p 0) * 4294967296 ^ (p + 1)
  rw [ih, Int.pow_succ, Int.mul_add]
  have : (v - l.getD p 0) * (4294967296 ^ p * 4294967296) = 4294967296 * ((v - l.getD p 0) * 4294967296 ^ p) := by
   rw [← Int.mul_assoc, Int.mul_comm]
  rw [this]
  omega
theorem lowD_succ (x i : Nat) : lowD x (i + 1) = lowD x i + ((x / 4294967296 ^ i % 4294967296 : Nat) : Int) * 4294967296 ^ i := by
 unfold lowD
 rw [Nat.mod_pow_succ, Int.natCast_add, Int.natCast_mul, Int.mul_comm, Int.natCast_pow]
 rfl
theorem lowD_zero (x : Nat) : lowD x 0 = 0 := by
 unfold lowD
 rw [Nat.pow_zero, Nat.mod_one]
 rfl
theorem lowD_all {x : Nat} (h : x < 2 ^ 256) : lowD x 8 = x := by
 unfold lowD
 rw [Nat.mod_eq_of_lt h]
theorem dv_nonneg : ∀ {d : List Int}, (∀ x ∈ d, 0 ≤ x ∧ x < 4294967296) → 0 ≤ dv d
 | [], _ => Int.le_refl _
 | x :: l, h => by
  have := dv_nonneg (d := l) fun y hy => h y (List.mem_cons_of_mem _ hy)
  have := (h x List.mem_cons_self).1
  show 0 ≤ x + 4294967296 * dv l
  omega
theorem dv_getD : ∀ {d : List Int}, (∀ x ∈ d, 0 ≤ x ∧ x < 4294967296) → ∀ p, (d.getD p 0 : Int) = (((dv d).toNat / 4294967296 ^ p % 4294967296 : Nat) : Int)
 | [], _, p => by
  show (0 : Int) = ((0 / 4294967296 ^ p % 4294967296 : Nat) : Int)
  rw [Nat.zero_div]
  rfl
 | x :: l, h, 0 => by
  have h0 := dv_nonneg (d := l) fun y hy => h y (List.mem_cons_of_mem _ hy)
  have h1 := h x List.mem_cons_self
  show x = (((x + 4294967296 * dv l).toNat / 4294967296 ^ 0 % 4294967296 : Nat) : Int)
  rw [Nat.pow_zero, Nat.div_one]
  omega
 | x :: l, h, p + 1 => by
  have h0 := dv_nonneg (d := l) fun y hy => h y (List.mem_cons_of_mem _ hy)
  have h1 := h x List.mem_cons_self
  have ih := dv_getD (d := l) (fun y hy => h y (List.mem_cons_of_mem _ hy)) p
  show l.getD p 0 = (((x + 4294967296 * dv l).toNat / 4294967296 ^ (p + 1) % 4294967296 : Nat) : Int)
  rw [ih, Nat.pow_succ', ← Nat.div_div_eq_div_mul]
  have : (x + 4294967296 * dv l).toNat / 4294967296 = (dv l).toNat := by omega
  rw [this]
theorem half_of {x i : Nat} : (x / 18446744073709551616 ^ (i / 2) % 18446744073709551616) / 2 ^ (32 * (i % 2)) % 4294967296 = x / 4294967296 ^ i % 4294967296 := by
 have e : 4294967296 ^ i = 18446744073709551616 ^ (i / 2) * 2 ^ (32 * (i % 2)) := by
  rw [show (18446744073709551616 : Nat) = 2 ^ 64 by decide, show (4294967296 : Nat) = 2 ^ 32 by decide, ← Nat.pow_mul, ← Nat.pow_mul, ← Nat.pow_add]
  congr 1
  omega
 rw [e, ← Nat.div_div_eq_div_mul]
 generalize x / 18446744073709551616 ^ (i / 2) = q
 rcases Nat.mod_two_eq_zero_or_one i with h | h
 ·rw [h]; simp only [Nat.mul_zero, Nat.pow_zero, Nat.div_one]; omega
 ·rw [h]; simp only [Nat.mul_one, Nat.reducePow]; omega
theorem prod_eq {d t P dvi : Int} : dvi + (t % 4294967296 - d) * P + (t / 4294967296) * (P * 4294967296) = dvi + (t - d) * P := by
 have h : (t / 4294967296) * (P * 4294967296) = (t / 4294967296 * 4294967296) * P := by rw [Int.mul_comm P, Int.mul_assoc]
 rw [h, Int.add_assoc, ← Int.add_mul]
 congr 2
 omega
theorem bit_of {D n : Nat} : (D / 4294967296 ^ (n / 32) % 4294967296) / 2 ^ (n % 32) % 2 = D / 2 ^ n % 2 := by
 have e : 2 ^ n = 4294967296 ^ (n / 32) * 2 ^ (n % 32) := by
  rw [show (4294967296 : Nat) = 2 ^ 32 by decide, ← Nat.pow_mul, ← Nat.pow_add]
  congr 1
  omega
 rw [e, ← Nat.div_div_eq_div_mul]
 generalize D / 4294967296 ^ (n / 32) = q
 have hs : n % 32 < 32 := Nat.mod_lt _ (by decide)
 generalize n % 32 = s at hs
 have e2 : (4294967296 : Nat) = 2 ^ s * (2 * 2 ^ (31 - s)) := by
  rw [← Nat.pow_succ', ← Nat.pow_add, show s + (31 - s + 1) = 32 by omega]
 rw [e2, Nat.mod_mul_right_div_self, Nat.mod_mul_right_mod]
theorem rest_succ {D n M : Nat} (hM : 0 < M) : (2 * (D / 2 ^ (n + 1) % M) + D / 2 ^ n % 2) % M = D / 2 ^ n % M := by
 have e : D / 2 ^ n = 2 * (D / 2 ^ (n + 1)) + D / 2 ^ n % 2 := by
  rw [Nat.pow_succ, ← Nat.div_div_eq_div_mul]
  omega
 conv => rhs; rw [e]
 rw [Nat.add_mod, Nat.mul_mod, Nat.mod_mod, ← Nat.mul_mod, ← Nat.add_mod]
end Go.Sx
namespace Go.Sx
open Go
set_option maxRecDepth 100000
theorem elW_getD (X : Nat) : ∀ k, k < 4 → [lm X 0, lm X 1, lm X 2, lm X 3].getD k 0 = lm X k
 | 0, _ => rfl
 | 1, _ => rfl
 | 2, _ => rfl
 | 3, _ => rfl
 | k + 4, h => absurd h (by omega)
theorem dig_of {X i : Nat} (hi : i < 8) {x2 x3 x4 x5 x6 x7 : Int} (h2 : x2 = IntKind.i64.wrap (Int.tdiv (i : Int) 2)) (h3 : x3 = [lm X 0, lm X 1, lm X 2, lm X 3].getD (x2.toNat * 1) 0) (h4 : x4 = Int.tmod (i : Int) 2) (h5 : x5 = IntKind.i64.wrap (32 * x4))
  (h6 : x6 = shrv .u64 x3 x5.toNat) (h7 : x7 = Int.tmod x6 4294967296) : (0 ≤ x2 ∧ x2 < 4) ∧ 0 ≤ x5 ∧ x7 = ((X / 4294967296 ^ i % 4294967296 : Nat) : Int) := by
 rw [Int.tdiv_eq_ediv_of_nonneg (by omega), wrap64 (by omega) (by omega)] at h2
 rw [Int.tmod_eq_emod_of_nonneg (by omega)] at h4
 rw [wrap64 (by omega) (by omega)] at h5
 have e2 : x2.toNat = i / 2 := by omega
 have e5 : x5.toNat = 32 * (i % 2) := by omega
 rw [e2, Nat.mul_one, elW_getD X _ (by omega)] at h3
 rw [e5, h3, shr64 (lm_wd _ _).1 (by omega)] at h6
 have e6 : x6 = ((X / 18446744073709551616 ^ (i / 2) % 18446744073709551616 / 2 ^ (32 * (i % 2)) : Nat) : Int) := by
  rw [h6]
  unfold lm
  rw [Int.natCast_ediv, Int.natCast_pow]
  rfl
 rw [Int.tmod_eq_emod_of_nonneg (by rw [e6]; exact Int.natCast_nonneg _)] at h7
 refine ⟨by omega, by omega, ?_⟩
 rw [h7, e6, ← half_of]
 rfl
theorem mul_lt32 {x y : Int} (hx : 0 ≤ x ∧ x < 4294967296) (hy : 0 ≤ y ∧ y < 4294967296) : 0 ≤ x * y ∧ x * y ≤ 18446744065119617025 := by
 refine ⟨Int.mul_nonneg hx.1 hy.1, ?_⟩
 have h1 : x * y ≤ 4294967295 * y := Int.mul_le_mul_of_nonneg_right (by omega) hy.1
 omega
theorem digs_get {d : List Int} {n : Nat} (h : digs d n) (j : Nat) : 0 ≤ d.getD j 0 ∧ d.getD j 0 < 4294967296 := by
 rw [List.getD_eq_getElem?_getD]
 cases e : d[j]? with
 | none => exact ⟨Int.le_refl _, by decide⟩
 | some x => exact h.2.1 x (List.mem_of_getElem? e)
theorem digs_set {d : List Int} {n p : Nat} {v : Int} (h : digs d n) (hv : 0 ≤ v ∧ v < 4294967296) (hp : p < n) : digs (d.set p v) n := by
 refine ⟨by rw [List.length_set]; exact h.1, ?_, ?_⟩
 ·intro x hx
  rcases List.mem_or_eq_of_mem_set hx with h1 | h1
  ·exact h.2.1 x h1
  ·rw [h1]; exact hv
 ·intro j hj
  rw [List.getD_eq_getElem?_getD, List.getElem?_set_ne (by omega), ← List.getD_eq_getElem?_getD]
  exact h.2.2 j hj
theorem in_step {d : List Int} {i k n Y : Nat} {c x y x16 x17 x18 x19 x20 x21 x22 x23 D0 : Int} (hd : digs d n) (hn : n = i + 8) (hi : i < 8) (hk : k < 8) (hc0 : 0 ≤ c) (hc1 : c < 4294967296) (hx : 0 ≤ x ∧ x < 4294967296)
  (hy : y = ((Y / 4294967296 ^ k % 4294967296 : Nat) : Int)) (e : dv d + c * 4294967296 ^ (i + k) = D0 + x * lowD Y k * 4294967296 ^ i)
  (h16 : x16 = IntKind.i64.wrap ((i : Int) + (k : Int))) (h17 : x17 = d.getD (x16.toNat * 1) 0) (h18 : x18 = IntKind.u64.wrap (x * y)) (h19 : x19 = IntKind.u64.wrap (x17 + x18)) (h20 : x20 = IntKind.u64.wrap (x19 + c))
  (h21 : x21 = IntKind.i64.wrap ((i : Int) + (k : Int))) (h22 : x22 = Int.tmod x20 4294967296) (h23 : x23 = IntKind.u64.wrap (Int.tdiv x20 4294967296)) :
  (0 ≤ x16 ∧ x16 < 17) ∧ x16.toNat * 1 + 1 ≤ d.length ∧ (0 ≤ x21 ∧ x21 < 17) ∧ x21.toNat * 1 < d.length ∧ digs (d.set (x21.toNat * 1) x22) n ∧ 0 ≤ x23 ∧ x23 < 4294967296 ∧
   dv (d.set (x21.toNat * 1) x22) + x23 * 4294967296 ^ (i + (k + 1)) = D0 + x * lowD Y (k + 1) * 4294967296 ^ i := by
 rw [wrap64 (by omega) (by omega)] at h16 h21
 have e16 : x16.toNat = i + k := by omega
 have e21 : x21.toNat = i + k := by omega
 rw [e16, Nat.mul_one] at h17
 have g := digs_get hd (i + k)
 rw [← h17] at g
 have hy' : 0 ≤ y ∧ y < 4294967296 := by rw [hy]; omega
 obtain ⟨p0, p1⟩ := mul_lt32 hx hy'
 rw [wu64] at h18 h19 h20 h23
 generalize hp : x * y = p at h18 p0 p1
 have t : x20 = x17 + p + c := by omega
 rw [Int.tmod_eq_emod_of_nonneg (by omega)] at h22
 rw [Int.tdiv_eq_ediv_of_nonneg (by omega)] at h23
 have h23' : x23 = x20 / 4294967296 := by omega
 have hl := hd.1
 have h22b : 0 ≤ x22 ∧ x22 < 4294967296 := by omega
 refine ⟨by omega, by omega, by omega, by omega, ?_, by omega, by omega, ?_⟩
 ·rw [e21, Nat.mul_one]
  exact digs_set hd h22b (by omega)
 ·rw [e21, Nat.mul_one, dv_set d (i + k) x22 (by omega), ← h17, h22, h23', show i + (k + 1) = i + k + 1 by omega, Int.pow_succ, prod_eq, lowD_succ, ← hy, t,
   show x17 + p + c - x17 = p + c by omega, ← hp, Int.mul_add, Int.add_mul, Int.add_mul]
  have e3 : x * (y * 4294967296 ^ k) * 4294967296 ^ i = x * y * 4294967296 ^ (i + k) := by
   rw [Int.pow_add, ← Int.mul_assoc x y, Int.mul_assoc (x * y), Int.mul_comm (4294967296 ^ k)]
  rw [e3]
  omega
theorem shl1 (x : Int) : shlv .u64 x 1 = x * 2 % 18446744073709551616 := by
 unfold shlv
 rw [wu64, show min 1 IntKind.u64.bits = 1 by simp [IntKind.bits], Int.pow_one]
theorem shr63 {x : Int} (h : 0 ≤ x) : shrv .u64 x 63 = x / 9223372036854775808 := by
 rw [shr64 h (by omega)]
 rfl
theorem dbl_eq {a0 a1 a2 a3 b y0 y1 y2 y3 h : Int} (w0 : Wd a0) (w1 : Wd a1) (w2 : Wd a2) (w3 : Wd a3) (hb : 0 ≤ b ∧ b < 2) (e0 : y0 = (a0 * 2 % 18446744073709551616 + b) % 18446744073709551616)
  (e1 : y1 = (a1 * 2 % 18446744073709551616 + a0 / 9223372036854775808) % 18446744073709551616) (e2 : y2 = (a2 * 2 % 18446744073709551616 + a1 / 9223372036854775808) % 18446744073709551616)
  (e3 : y3 = (a3 * 2 % 18446744073709551616 + a2 / 9223372036854775808) % 18446744073709551616) (eh : h = a3 / 9223372036854775808) :
  (Wd y0 ∧ Wd y1 ∧ Wd y2 ∧ Wd y3) ∧ (h = 0 ∨ h = 1) ∧ V4 y0 y1 y2 y3 + h * 115792089237316195423570985008687907853269984665640564039457584007913129639936 = 2 * V4 a0 a1 a2 a3 + b := by
 unfold Wd at *
 have f0 : y0 = a0 * 2 + b - (a0 / 9223372036854775808) * 18446744073709551616 := by omega
 have f1 : y1 = a1 * 2 + a0 / 9223372036854775808 - (a1 / 9223372036854775808) * 18446744073709551616 := by omega
 have f2 : y2 = a2 * 2 + a1 / 9223372036854775808 - (a2 / 9223372036854775808) * 18446744073709551616 := by omega
 have f3 : y3 = a3 * 2 + a2 / 9223372036854775808 - (a3 / 9223372036854775808) * 18446744073709551616 := by omega
 refine ⟨by omega, by omega, ?_⟩
 rw [f0, f1, f2, f3, eh]
 unfold V4
 generalize a0 / 9223372036854775808 = c0
 generalize a1 / 9223372036854775808 = c1
 generalize a2 / 9223372036854775808 = c2
 generalize a3 / 9223372036854775808 = c3
 omega
theorem ms_step {D M p r : Nat} {y0 y1 y2 y3 h : Int} (hM : 0 < M) (hlM : M < 115792089237316195423570985008687907853269984665640564039457584007913129639936) (hr : r = D / 2 ^ (p + 1) % M) (w : Wd y0 ∧ Wd y1 ∧ Wd y2 ∧ Wd y3) (hh : h = 0 ∨ h = 1)
  (e : V4 y0 y1 y2 y3 + h * 115792089237316195423570985008687907853269984665640564039457584007913129639936 = 2 * (r : Int) + ((D / 2 ^ p % 2 : Nat) : Int)) :
  ((h = 1 ∨ ¬ V4 y0 y1 y2 y3 < M) → w256 (V4 y0 y1 y2 y3 - M) = D / 2 ^ p % M) ∧ (h = 0 → V4 y0 y1 y2 y3 < M → y0 = lm (D / 2 ^ p % M) 0 ∧ y1 = lm (D / 2 ^ p % M) 1 ∧ y2 = lm (D / 2 ^ p % M) 2 ∧ y3 = lm (D / 2 ^ p % M) 3) := by
 obtain ⟨w0, w1, w2, w3⟩ := w
 have rs := rest_succ (D := D) (n := p) hM
 have hlt : r < M := by rw [hr]; exact Nat.mod_lt _ hM
 rw [← hr] at rs
 rw [← rs]
 have hb : D / 2 ^ p % 2 < 2 := Nat.mod_lt _ (by decide)
 generalize D / 2 ^ p % 2 = b at *
 have n0 := V4_nonneg w0 w1 w2 w3
 have n1 := V4_lt w0 w1 w2 w3
 constructor
 ·intro hc
  have hge : M ≤ 2 * r + b := by omega
  rw [Nat.mod_eq_sub_mod hge, Nat.mod_eq_of_lt (by omega)]
  unfold w256
  omega
 ·intro h0 hc
  have : 2 * r + b < M := by omega
  rw [Nat.mod_eq_of_lt this]
  exact lm_of w0 w1 w2 w3 (by omega)
theorem ms_zero {D M n x : Nat} (h : D = x) (hlt : x < 2 ^ n) : 0 = D / 2 ^ n % M := by
 rw [h, Nat.div_eq_of_lt hlt, Nat.zero_mod]
theorem bit_fetch {d : List Int} {n : Nat} (hd : ∀ x ∈ d, 0 ≤ x ∧ x < 4294967296) (hn : 1 ≤ n) (hn2 : n ≤ 512) {x42 x43 x44 x45 x46 : Int} (h42 : x42 = IntKind.i64.wrap (Int.tdiv ((n : Int) - 1) 32)) (h43 : x43 = d.getD (x42.toNat * 1) 0)
  (h44 : x44 = Int.tmod ((n : Int) - 1) 32) (h45 : x45 = shrv .u64 x43 x44.toNat) (h46 : x46 = Int.tmod x45 2) :
  (0 ≤ x42 ∧ x42 < 17) ∧ 0 ≤ x44 ∧ x46 = (((dv d).toNat / 2 ^ (n - 1) % 2 : Nat) : Int) := by
 rw [Int.tdiv_eq_ediv_of_nonneg (by omega), wrap64 (by omega) (by omega)] at h42
 rw [Int.tmod_eq_emod_of_nonneg (by omega)] at h44
 have e42 : x42.toNat = (n - 1) / 32 := by omega
 have e44 : x44.toNat = (n - 1) % 32 := by omega
 rw [e42, Nat.mul_one, dv_getD hd] at h43
 rw [e44, h43, shr64 (Int.natCast_nonneg _) (by omega)] at h45
 have e45 : x45 = ((((dv d).toNat / 4294967296 ^ ((n - 1) / 32) % 4294967296) / 2 ^ ((n - 1) % 32) : Nat) : Int) := by
  rw [h45, Int.natCast_ediv, Int.natCast_pow]
  rfl
 rw [Int.tmod_eq_emod_of_nonneg (by rw [e45]; exact Int.natCast_nonneg _)] at h46
 refine ⟨by omega, by omega, ?_⟩
 rw [h46, e45, ← bit_of]
 rfl
end Go.Sx
namespace Go.Sx
open Go Go.Proofs
set_option maxRecDepth 100000
theorem vc_mm (X Y M : Nat) (a0 a1 a2 a3 b0 b1 b2 b3 m0 m1 m2 m3 : Int) (K : SV → Mem → Prop) : (execF cxMm (uMm [a0,a1,a2,a3] [b0,b1,b2,b3] X Y M) Tryz.f38 64 [ag4 a0 a1 a2 a3, ag4 b0 b1 b2 b3, ag4 m0 m1 m2 m3] (memL []) K) = ((∃ l : MoI,
 (MoI.i l ≤ 8 ∧ digs (MoI.d l) (MoI.i l + 8) ∧ dv (MoI.d l) = lowD X (MoI.i l) * ((Y : Nat) : Int)) ∧ 0 = ((MoI.i l : Nat) : Int) ∧ (m0 = m0 ∧ m1 = m1 ∧ m2 = m2 ∧ m3 = m3) ∧ [a0, a1, a2, a3] = [a0, a1, a2, a3] ∧ [b0, b1, b2, b3] = [b0, b1,
 b2, b3] ∧ [(0 : Int), (0 : Int), (0 : Int), (0 : Int), (0 : Int), (0 : Int), (0 : Int), (0 : Int), (0 : Int), (0 : Int), (0 : Int), (0 : Int), (0 : Int), (0 : Int), (0 : Int), (0 : Int), (0 : Int)] = MoI.d l) ∧ ∀ a : MoI, MoI.i a ≤ 8 ∧
 digs (MoI.d a) (MoI.i a + 8) ∧ dv (MoI.d a) = lowD X (MoI.i a) * ((Y : Nat) : Int) → (decide (((MoI.i a : Nat) : Int) < 8) = true → ∀ C, C = IntKind.wrap IntKind.i64 (Int.tdiv ((MoI.i a : Nat) : Int) (2 : Int)) → (0 ≤ C ∧ C < 4) ∧
 (Int.toNat C * 1 + 1 ≤ List.length [a0, a1, a2, a3] ∧ ∀ x3 : Int, x3 = List.getD [a0, a1, a2, a3] (Int.toNat C * 1) (0 : Int) → ∀ x4, x4 = Int.tmod ((MoI.i a : Nat) : Int) (2 : Int) → ∀ x5, x5 = IntKind.wrap IntKind.i64 (32 * x4) → (0 ≤ x5
 ∧ ∀ x6, x6 = shrv .u64 x3 (Int.toNat x5) → ∀ f, f = Int.tmod x6 (4294967296 : Int) → ((∃ e : MiI, (MiI.k e ≤ 8 ∧ digs (MiI.d e) (Int.toNat ((MoI.i a : Nat) : Int) + 8) ∧ 0 ≤ MiI.c e ∧ MiI.c e < 4294967296 ∧ dv (MiI.d e) + MiI.c e *
 (4294967296 : Int) ^ (Int.toNat ((MoI.i a : Nat) : Int) + MiI.k e) = dv (MoI.d a) + f * lowD Y (MiI.k e) * (4294967296 : Int) ^ Int.toNat ((MoI.i a : Nat) : Int)) ∧ (((MoI.i a : Nat) : Int) = ((MoI.i a : Nat) : Int) ∧ f = f ∧ 0 = MiI.c e ∧
 0 = ((MiI.k e : Nat) : Int)) ∧ [a0, a1, a2, a3] = [a0, a1, a2, a3] ∧ [b0, b1, b2, b3] = [b0, b1, b2, b3] ∧ (m0 = m0 ∧ m1 = m1 ∧ m2 = m2 ∧ m3 = m3) ∧ MoI.d a = MiI.d e) ∧ ∀ c : MiI, MiI.k c ≤ 8 ∧ digs (MiI.d c) (Int.toNat ((MoI.i a : Nat) :
 Int) + 8) ∧ 0 ≤ MiI.c c ∧ MiI.c c < 4294967296 ∧ dv (MiI.d c) + MiI.c c * (4294967296 : Int) ^ (Int.toNat ((MoI.i a : Nat) : Int) + MiI.k c) = dv (MoI.d a) + f * lowD Y (MiI.k c) * (4294967296 : Int) ^ Int.toNat ((MoI.i a : Nat) : Int) →
 (decide (((MiI.k c : Nat) : Int) < 8) = true → ∀ D, D = IntKind.wrap IntKind.i64 (Int.tdiv ((MiI.k c : Nat) : Int) (2 : Int)) → (0 ≤ D ∧ D < 4) ∧ (Int.toNat D * 1 + 1 ≤ List.length [b0, b1, b2, b3] ∧ ∀ an : Int, an = List.getD [b0, b1, b2,
 b3] (Int.toNat D * 1) (0 : Int) → ∀ ao, ao = Int.tmod ((MiI.k c : Nat) : Int) (2 : Int) → ∀ ac, ac = IntKind.wrap IntKind.i64 (32 * ao) → (0 ≤ ac ∧ ∀ ap, ap = shrv .u64 an (Int.toNat ac) → ∀ aq, aq = Int.tmod ap (4294967296 : Int) → ∀ E, E
 = IntKind.wrap IntKind.i64 (((MoI.i a : Nat) : Int) + ((MiI.k c : Nat) : Int)) → (0 ≤ E ∧ E < 17) ∧ (Int.toNat E * 1 + 1 ≤ List.length (MiI.d c) ∧ ∀ ar : Int, ar = List.getD (MiI.d c) (Int.toNat E * 1) (0 : Int) → ∀ au, au = IntKind.wrap
 IntKind.u64 (f * aq) → ∀ av, av = IntKind.wrap IntKind.u64 (ar + au) → ∀ ad, ad = IntKind.wrap IntKind.u64 (av + MiI.c c) → ∀ F, F = IntKind.wrap IntKind.i64 (((MoI.i a : Nat) : Int) + ((MiI.k c : Nat) : Int)) → ∀ aw, aw = Int.tmod ad
 (4294967296 : Int) → (0 ≤ F ∧ F < 17) ∧ (Int.toNat F * 1 < List.length (MiI.d c) ∧ ∀ ax, ax = IntKind.wrap IntKind.u64 (Int.tdiv ad (4294967296 : Int)) → ∀ ay, ay = IntKind.wrap IntKind.i64 (((MiI.k c : Nat) : Int) + 1) → ∃ d : MiI, (MiI.k
 d ≤ 8 ∧ digs (MiI.d d) (Int.toNat ((MoI.i a : Nat) : Int) + 8) ∧ 0 ≤ MiI.c d ∧ MiI.c d < 4294967296 ∧ dv (MiI.d d) + MiI.c d * (4294967296 : Int) ^ (Int.toNat ((MoI.i a : Nat) : Int) + MiI.k d) = dv (MoI.d a) + f * lowD Y (MiI.k d) *
 (4294967296 : Int) ^ Int.toNat ((MoI.i a : Nat) : Int)) ∧ ((((MoI.i a : Nat) : Int) = ((MoI.i a : Nat) : Int) ∧ f = f ∧ ax = MiI.c d ∧ ay = ((MiI.k d : Nat) : Int)) ∧ [a0, a1, a2, a3] = [a0, a1, a2, a3] ∧ [b0, b1, b2, b3] = [b0, b1, b2,
 b3] ∧ (m0 = m0 ∧ m1 = m1 ∧ m2 = m2 ∧ m3 = m3) ∧ List.set (MiI.d c) (Int.toNat F * 1) aw = MiI.d d) ∧ 8 - MiI.k d < 8 - MiI.k c))))) ∧ (decide (((MiI.k c : Nat) : Int) < 8) = false → ∀ G, G = IntKind.wrap IntKind.i64 (((MoI.i a : Nat) :
 Int) + 8) → (0 ≤ G ∧ G < 17) ∧ (Int.toNat G * 1 < List.length (MiI.d c) ∧ ∀ az, az = IntKind.wrap IntKind.i64 (((MoI.i a : Nat) : Int) + 1) → ∃ j : MoI, (MoI.i j ≤ 8 ∧ digs (MoI.d j) (MoI.i j + 8) ∧ dv (MoI.d j) = lowD X (MoI.i j) * ((Y :
 Nat) : Int)) ∧ (az = ((MoI.i j : Nat) : Int) ∧ (m0 = m0 ∧ m1 = m1 ∧ m2 = m2 ∧ m3 = m3) ∧ [a0, a1, a2, a3] = [a0, a1, a2, a3] ∧ [b0, b1, b2, b3] = [b0, b1, b2, b3] ∧ List.set (MiI.d c) (Int.toNat G * 1) (MiI.c c) = MoI.d j) ∧ 8 - MoI.i j <
 8 - MoI.i a)))))) ∧ (decide (((MoI.i a : Nat) : Int) < 8) = false → ((∃ k : MsI, (MsI.n k ≤ 512 ∧ MsI.r k = Int.toNat (dv (MoI.d a)) / (2 : Nat) ^ MsI.n k % M) ∧ 511 = ((MsI.n k : Nat) : Int) - 1 ∧ (m0 = m0 ∧ m1 = m1 ∧ m2 = m2 ∧ m3 = m3) ∧
 MoI.d a = MoI.d a ∧ 0 = lm (MsI.r k) 0 ∧ 0 = lm (MsI.r k) 1 ∧ 0 = lm (MsI.r k) 2 ∧ 0 = lm (MsI.r k) 3) ∧ ∀ b : MsI, MsI.n b ≤ 512 ∧ MsI.r b = Int.toNat (dv (MoI.d a)) / (2 : Nat) ^ MsI.n b % M → (decide (((MsI.n b : Nat) : Int) - 1 ≥ 0) =
 true → ∀ ae, ae = shrv .u64 (lm (MsI.r b) 3) 63 → ∀ a4, a4 = shlv .u64 (lm (MsI.r b) 3) 1 → ∀ a5, a5 = shrv .u64 (lm (MsI.r b) 2) 63 → ∀ H, H = IntKind.wrap IntKind.u64 (a4 + a5) → ∀ a6, a6 = shlv .u64 (lm (MsI.r b) 2) 1 → ∀ a7, a7 = shrv
 .u64 (lm (MsI.r b) 1) 63 → ∀ I, I = IntKind.wrap IntKind.u64 (a6 + a7) → ∀ a8, a8 = shlv .u64 (lm (MsI.r b) 1) 1 → ∀ a9, a9 = shrv .u64 (lm (MsI.r b) 0) 63 → ∀ J, J = IntKind.wrap IntKind.u64 (a8 + a9) → ∀ ba, ba = shlv .u64 (lm (MsI.r b)
 0) 1 → ∀ L, L = IntKind.wrap IntKind.i64 (Int.tdiv (((MsI.n b : Nat) : Int) - 1) (32 : Int)) → (0 ≤ L ∧ L < 17) ∧ (Int.toNat L * 1 + 1 ≤ List.length (MoI.d a) ∧ ∀ bb : Int, bb = List.getD (MoI.d a) (Int.toNat L * 1) (0 : Int) → ∀ af, af =
 Int.tmod (((MsI.n b : Nat) : Int) - 1) (32 : Int) → (0 ≤ af ∧ ∀ bc, bc = shrv .u64 bb (Int.toNat af) → ∀ bd, bd = Int.tmod bc (2 : Int) → ∀ N, N = IntKind.wrap IntKind.u64 (ba + bd) → ((ae == 1) = true → ∀ m, m = N → ∀ n, n = J → ∀ o, o =
 I → ∀ p, p = H → ∀ q, q = m0 → ∀ r, r = m1 → ∀ s, s = m2 → ∀ t, t = m3 → (((Wd m ∧ Wd n ∧ Wd o ∧ Wd p) ∧ Wd q ∧ Wd r ∧ Wd s ∧ Wd t) ∧ ∀ be, be = lm (w256 (V4 m n o p - V4 q r s t)) 0 → ∀ bf, bf = lm (w256 (V4 m n o p - V4 q r s t)) 1 → ∀
 bg, bg = lm (w256 (V4 m n o p - V4 q r s t)) 2 → ∀ bh, bh = lm (w256 (V4 m n o p - V4 q r s t)) 3 → ∀ bi, bi = IntKind.wrap IntKind.i64 (((MsI.n b : Nat) : Int) - 1 - 1) → ∃ g : MsI, (MsI.n g ≤ 512 ∧ MsI.r g = Int.toNat (dv (MoI.d a)) / (2
 : Nat) ^ MsI.n g % M) ∧ (bi = ((MsI.n g : Nat) : Int) - 1 ∧ (m0 = m0 ∧ m1 = m1 ∧ m2 = m2 ∧ m3 = m3) ∧ MoI.d a = MoI.d a ∧ be = lm (MsI.r g) 0 ∧ bf = lm (MsI.r g) 1 ∧ bg = lm (MsI.r g) 2 ∧ bh = lm (MsI.r g) 3) ∧ MsI.n g < MsI.n b)) ∧ ((ae
 == 1) = false → ∀ O, O = N → ∀ Q, Q = J → ∀ R, R = I → ∀ S, S = H → ∀ T, T = m0 → ∀ V, V = m1 → ∀ Z, Z = m2 → ∀ aa, aa = m3 → ((Wd O ∧ Wd Q ∧ Wd R ∧ Wd S) ∧ Wd T ∧ Wd V ∧ Wd Z ∧ Wd aa) ∧ (Bool.not (decide (V4 O Q R S < V4 T V Z aa)) = true
 → ∀ u, u = N → ∀ v, v = J → ∀ w, w = I → ∀ x, x = H → ∀ y, y = m0 → ∀ z, z = m1 → ∀ A, A = m2 → ∀ B, B = m3 → (((Wd u ∧ Wd v ∧ Wd w ∧ Wd x) ∧ Wd y ∧ Wd z ∧ Wd A ∧ Wd B) ∧ ∀ bj, bj = lm (w256 (V4 u v w x - V4 y z A B)) 0 → ∀ bk, bk = lm
 (w256 (V4 u v w x - V4 y z A B)) 1 → ∀ bl, bl = lm (w256 (V4 u v w x - V4 y z A B)) 2 → ∀ bm, bm = lm (w256 (V4 u v w x - V4 y z A B)) 3 → ∀ bn, bn = IntKind.wrap IntKind.i64 (((MsI.n b : Nat) : Int) - 1 - 1) → ∃ h : MsI, (MsI.n h ≤ 512 ∧
 MsI.r h = Int.toNat (dv (MoI.d a)) / (2 : Nat) ^ MsI.n h % M) ∧ (bn = ((MsI.n h : Nat) : Int) - 1 ∧ (m0 = m0 ∧ m1 = m1 ∧ m2 = m2 ∧ m3 = m3) ∧ MoI.d a = MoI.d a ∧ bj = lm (MsI.r h) 0 ∧ bk = lm (MsI.r h) 1 ∧ bl = lm (MsI.r h) 2 ∧ bm = lm
 (MsI.r h) 3) ∧ MsI.n h < MsI.n b)) ∧ (Bool.not (decide (V4 O Q R S < V4 T V Z aa)) = false → ∀ bo, bo = IntKind.wrap IntKind.i64 (((MsI.n b : Nat) : Int) - 1 - 1) → ∃ i : MsI, (MsI.n i ≤ 512 ∧ MsI.r i = Int.toNat (dv (MoI.d a)) / (2 : Nat)
 ^ MsI.n i % M) ∧ (bo = ((MsI.n i : Nat) : Int) - 1 ∧ (m0 = m0 ∧ m1 = m1 ∧ m2 = m2 ∧ m3 = m3) ∧ MoI.d a = MoI.d a ∧ N = lm (MsI.r i) 0 ∧ J = lm (MsI.r i) 1 ∧ I = lm (MsI.r i) 2 ∧ H = lm (MsI.r i) 3) ∧ MsI.n i < MsI.n b))))) ∧ (decide
 (((MsI.n b : Nat) : Int) - 1 ≥ 0) = false → ∀ ag, ag = lm (MsI.r b) 0 → ∀ ah, ah = lm (MsI.r b) 1 → ∀ ai, ai = lm (MsI.r b) 2 → ∀ aj, aj = lm (MsI.r b) 3 → K (.agg [.int .u64 (.sym ag), .int .u64 (.sym ah), .int .u64 (.sym ai), .int .u64
 (.sym aj)]) (memL [(529, ⟨false, .cells [.int .u64 (.sym m0), .int .u64 (.sym m1), .int .u64 (.sym m2), .int .u64 (.sym m3)]⟩), (537, ⟨false, .cells [.int .u64 (.sym ag), .int .u64 (.sym ah), .int .u64 (.sym ai), .int .u64 (.sym aj)]⟩),
 (553, ⟨false, .ints .u64 (MoI.d a)⟩), (601, ⟨false, .cells [.int .u64 (.sym (lm (MsI.r b) 0)), .int .u64 (.sym (lm (MsI.r b) 1)), .int .u64 (.sym (lm (MsI.r b) 2)), .int .u64 (.sym (lm (MsI.r b) 3))]⟩)]))))) := by kernel_rfl
theorem mm_walk (X Y M : Nat) (a0 a1 a2 a3 b0 b1 b2 b3 m0 m1 m2 m3 : Int) (K : SV → Mem → Prop) (ha : Ws a0 a1 a2 a3 X) (hb : Ws b0 b1 b2 b3 Y) (hm : Ws m0 m1 m2 m3 M) (hM : 0 < M)
  (hK : ∀ r m', r = X * Y % M → K (ag4 (lm r 0) (lm r 1) (lm r 2) (lm r 3)) m') :
  execF cxMm (uMm [a0,a1,a2,a3] [b0,b1,b2,b3] X Y M) Tryz.f38 64 [ag4 a0 a1 a2 a3, ag4 b0 b1 b2 b3, ag4 m0 m1 m2 m3] (memL []) K := by
 obtain ⟨rfl, rfl, rfl, rfl, hX⟩ := ha
 obtain ⟨rfl, rfl, rfl, rfl, hY⟩ := hb
 rw [vc_mm]
 refine ⟨⟨⟨0, List.replicate 17 0⟩, ?_⟩, ?_⟩
 ·refine ⟨⟨Nat.zero_le _, ⟨by simp, ?_, ?_⟩, ?_⟩, rfl, ⟨rfl, rfl, rfl, rfl⟩, rfl, rfl, rfl⟩
  ·intro x hx
   rw [List.eq_of_mem_replicate hx]
   decide
  ·intro j _
   rw [List.getD_eq_getElem?_getD, List.getElem?_replicate]
   split <;> rfl
  ·rw [lowD_zero, Int.zero_mul]
   rfl
 rintro ⟨i, d⟩ ⟨hi, hd, e⟩
 dsimp only at hi hd e ⊢
 refine ⟨fun h => ?_, fun h => ?_⟩
 ·simp only [decide_eq_true_eq] at h
  have hi' : i < 8 := by omega
  rintro x2 h2
  have q2 := h2
  rw [Int.tdiv_eq_ediv_of_nonneg (by omega), wrap64 (by omega) (by omega)] at q2
  refine ⟨by omega, by simp only [List.length_cons, List.length_nil]; omega, ?_⟩
  rintro x3 h3 x4 h4 x5 h5
  have q := fun x6 x7 h6 h7 => dig_of (X := X) hi' (x6 := x6) (x7 := x7) h2 h3 h4 h5 h6 h7
  refine ⟨(q _ _ rfl rfl).2.1, ?_⟩
  rintro x6 h6 x7 h7
  have hx7 := (q _ _ h6 h7).2.2
  refine ⟨⟨⟨0, 0, d⟩, ?_⟩, ?_⟩
  ·refine ⟨⟨Nat.zero_le _, by rw [Int.toNat_natCast]; exact hd, Int.le_refl _, by show (0 : Int) < 4294967296; decide, by rw [lowD_zero]; simp⟩, ⟨rfl, rfl, rfl, rfl⟩, rfl, rfl, ⟨rfl, rfl, rfl, rfl⟩, rfl⟩
  rintro ⟨k, c, d'⟩ ⟨hk, hd', hc0, hc1, e'⟩
  dsimp only at hk hd' hc0 hc1 e' ⊢
  rw [Int.toNat_natCast] at hd' e'
  simp only [Int.toNat_natCast]
  refine ⟨fun h => ?_, fun h => ?_⟩
  ·simp only [decide_eq_true_eq] at h
   have hk' : k < 8 := by omega
   rintro x10 h10
   have q10 := h10
   rw [Int.tdiv_eq_ediv_of_nonneg (by omega), wrap64 (by omega) (by omega)] at q10
   refine ⟨by omega, by simp only [List.length_cons, List.length_nil]; omega, ?_⟩
   rintro x11 h11 x12 h12 x13 h13
   have r := fun x14 x15 h14 h15 => dig_of (X := Y) hk' (x6 := x14) (x7 := x15) h10 h11 h12 h13 h14 h15
   refine ⟨(r _ _ rfl rfl).2.1, ?_⟩
   rintro x14 h14 x15 h15
   have hx15 := (r _ _ h14 h15).2.2
   have st := fun x16 x17 x18 x19 x20 x21 x22 x23 h16 h17 h18 h19 h20 h21 h22 h23 => in_step (x16 := x16) (x17 := x17) (x18 := x18) (x19 := x19) (x20 := x20) (x21 := x21) (x22 := x22) (x23 := x23) hd' rfl hi' hk' hc0 hc1 (by rw [hx7]; omega) hx15 e' h16 h17 h18 h19 h20 h21 h22 h23
   rintro x16 h16
   have s0 := st x16 _ _ _ _ x16 _ _ h16 rfl rfl rfl rfl h16 rfl rfl
   refine ⟨s0.1, s0.2.1, ?_⟩
   rintro x17 h17 x18 h18 x19 h19 x20 h20 x21 h21 x22 h22
   have s1 := st x16 x17 x18 x19 x20 x21 x22 _ h16 h17 h18 h19 h20 h21 h22 rfl
   refine ⟨s1.2.2.1, s1.2.2.2.1, ?_⟩
   rintro x23 h23 x24 h24
   rw [wrap64 (by omega) (by omega)] at h24
   obtain ⟨_, _, _, _, u1, u2, u3, u4⟩ := st x16 x17 x18 x19 x20 x21 x22 x23 h16 h17 h18 h19 h20 h21 h22 h23
   refine ⟨⟨k + 1, x23, d'.set (x21.toNat * 1) x22⟩, ⟨hk', u1, u2, u3, u4⟩, ?_⟩
   repeat' apply And.intro
   all_goals first | rfl | trivial | (simp only; omega)
  ·simp only [decide_eq_false_iff_not] at h
   have hk' : k = 8 := by omega
   rintro x26 h26
   rw [wrap64 (by omega) (by omega)] at h26
   have e26 : x26.toNat = i + 8 := by omega
   have hl := hd'.1
   refine ⟨by omega, by omega, ?_⟩
   rintro x27 h27
   rw [wrap64 (by omega) (by omega)] at h27
   rw [e26, Nat.mul_one]
   refine ⟨⟨i + 1, d'.set (i + 8) c⟩, ⟨hi', ?_, ?_⟩, ?_⟩
   ·exact digs_set ⟨hd'.1, hd'.2.1, fun j hj => hd'.2.2 j (by simp only at hj; omega)⟩ ⟨hc0, hc1⟩ (by simp only; omega)
   ·show dv (d'.set (i + 8) c) = lowD X (i + 1) * (Y : Int)
    rw [dv_set d' (i + 8) c (by omega), hd'.2.2 (i + 8) (Nat.le_refl _), Int.sub_zero, lowD_succ, ← hx7, Int.add_mul, ← e]
    rw [hk', lowD_all hY] at e'
    rw [e', Int.mul_right_comm]
   ·repeat' apply And.intro
    all_goals first | rfl | trivial | (simp only; omega)
 ·simp only [decide_eq_false_iff_not] at h
  have h8 : i = 8 := by omega
  rw [h8, lowD_all hX] at e
  have hD : (dv d).toNat = X * Y := by rw [e, ← Int.natCast_mul, Int.toNat_natCast]
  have hlt : X * Y < 2 ^ 512 := Nat.lt_of_lt_of_le (Nat.mul_lt_mul'' hX hY) (by decide +kernel)
  have mw := hm.wd
  have mv := hm.val
  have ml := hm.lt
  refine ⟨⟨⟨512, 0⟩, ⟨Nat.le_refl _, ?_⟩, rfl, ⟨rfl, rfl, rfl, rfl⟩, rfl, ?_⟩, ?_⟩
  ·dsimp only
   rw [hD, Nat.div_eq_of_lt hlt, Nat.zero_mod]
  ·have z0 : ∀ i, lm 0 i = 0 := fun i => by
    unfold lm
    simp
   simp only [z0]
   exact ⟨trivial, trivial, trivial, trivial⟩
  rintro ⟨n, r⟩ ⟨hn, hr⟩
  dsimp only at hn hr ⊢
  refine ⟨fun h => ?_, fun h => ?_⟩
  ·simp only [decide_eq_true_eq] at h
   have hr' := hr
   obtain ⟨p, rfl⟩ : ∃ p, n = p + 1 := ⟨n - 1, by omega⟩
   have hlt : r < M := by rw [hr]; exact Nat.mod_lt _ hM
   rintro x31 h31 x32 h32 x33 h33 x34 h34 x35 h35 x36 h36 x37 h37 x38 h38 x39 h39 x40 h40 x41 h41 x42 h42
   have bf := fun x43 x44 x45 x46 => bit_fetch (x43 := x43) (x44 := x44) (x45 := x45) (x46 := x46) hd.2.1 (by omega) hn h42
   have b0 := (bf _ _ _ _ rfl rfl rfl rfl).1
   refine ⟨b0, by have := hd.1; omega, ?_⟩
   rintro x43 h43 x44 h44
   refine ⟨(bf x43 x44 _ _ h43 h44 rfl rfl).2.1, ?_⟩
   rintro x45 h45 x46 h46 x47 h47
   obtain ⟨_, _, e46⟩ := bf x43 x44 x45 x46 h43 h44 h45 h46
   rw [shl1] at h32 h35 h38 h41
   rw [shr63 (lm_wd _ _).1] at h31 h33 h36 h39
   rw [wu64] at h34 h37 h40 h47
   subst h32 h33 h35 h36 h38 h39 h41
   have hb : 0 ≤ x46 ∧ x46 < 2 := by rw [e46]; omega
   obtain ⟨yw, yh, ye⟩ := dbl_eq (lm_wd _ _) (lm_wd _ _) (lm_wd _ _) (lm_wd _ _) hb h47 h40 h37 h34 h31
   rw [lm_val (by omega), e46, Nat.add_sub_cancel, hD] at ye
   rw [hD] at hr
   obtain ⟨s1, s2⟩ := ms_step hM ml hr yw yh ye
   have mval : V4 m0 m1 m2 m3 = (M : Int) := mv
   have fin : ∀ z0 z1 z2 z3 x : Int, x = IntKind.i64.wrap (((((p + 1 : Nat)) : Int) - 1) - 1) → z0 = lm (X * Y / 2 ^ p % M) 0 → z1 = lm (X * Y / 2 ^ p % M) 1 → z2 = lm (X * Y / 2 ^ p % M) 2 → z3 = lm (X * Y / 2 ^ p % M) 3 →
     ∃ w : MsI, (w.n ≤ 512 ∧ w.r = (dv d).toNat / 2 ^ w.n % M) ∧ ((x = ((w.n : Nat) : Int) - 1 ∧ (m0 = m0 ∧ m1 = m1 ∧ m2 = m2 ∧ m3 = m3) ∧ d = d ∧ z0 = lm w.r 0 ∧ z1 = lm w.r 1 ∧ z2 = lm w.r 2 ∧ z3 = lm w.r 3) ∧ w.n < p + 1) := by
    intro z0 z1 z2 z3 x hx e0 e1 e2 e3
    rw [wrap64 (by omega) (by omega)] at hx
    exact ⟨⟨p, X * Y / 2 ^ p % M⟩, ⟨by simp only; omega, by simp only; rw [hD]⟩, ⟨by simp only; omega, ⟨rfl, rfl, rfl, rfl⟩, rfl, e0, e1, e2, e3⟩, by simp only; omega⟩
   refine ⟨fun hh => ?_, fun hh => ?_⟩
   ·rintro x48 h48 x49 h49 x50 h50 x51 h51 x52 h52 x53 h53 x54 h54 x55 h55
    rw [h48, h49, h50, h51, h52, h53, h54, h55]
    refine ⟨⟨yw, mw⟩, ?_⟩
    rintro x56 h56 x57 h57 x58 h58 x59 h59 x60 h60
    have q := s1 (.inl (by simpa using hh))
    rw [mval, q] at h56 h57 h58 h59
    exact fin _ _ _ _ _ h60 h56 h57 h58 h59
   ·rintro x48 h48 x49 h49 x50 h50 x51 h51 x52 h52 x53 h53 x54 h54 x55 h55
    rw [h48, h49, h50, h51, h52, h53, h54, h55]
    refine ⟨⟨yw, mw⟩, fun hq => ?_, fun hq => ?_⟩
    ·rintro x48 h48 x49 h49 x50 h50 x51 h51 x52 h52 x53 h53 x54 h54 x55 h55
     rw [h48, h49, h50, h51, h52, h53, h54, h55]
     refine ⟨⟨yw, mw⟩, ?_⟩
     rintro x56 h56 x57 h57 x58 h58 x59 h59 x60 h60
     have q := s1 (.inr (by rw [← mval]; simpa using hq))
     rw [mval, q] at h56 h57 h58 h59
     exact fin _ _ _ _ _ h60 h56 h57 h58 h59
    ·rintro x60 h60
     have h0 : x31 = 0 := by
      have : ¬ x31 = 1 := by simpa using hh
      omega
     obtain ⟨e0, e1, e2, e3⟩ := s2 h0 (by rw [← mval]; simpa using hq)
     exact fin _ _ _ _ _ h60 e0 e1 e2 e3
  ·simp only [decide_eq_false_iff_not] at h
   have hn0 : n = 0 := by omega
   rintro _ rfl _ rfl _ rfl _ rfl
   exact hK r _ (by rw [hr, hn0, hD, Nat.pow_zero, Nat.div_one])
theorem Ws.of {a b c d : Int} (h : Wd a ∧ Wd b ∧ Wd c ∧ Wd d) : Ws a b c d (V4 a b c d).toNat := by
 obtain ⟨h0, h1, h2, h3⟩ := h
 have n0 := V4_nonneg h0 h1 h2 h3
 have n1 := V4_lt h0 h1 h2 h3
 obtain ⟨e0, e1, e2, e3⟩ := lm_of h0 h1 h2 h3 (x := (V4 a b c d).toNat) (by omega)
 exact ⟨e0, e1, e2, e3, by omega⟩
def rMm : R0 := fun args l =>
 match args, l with
 | [.agg [.int .u64 (.sym a0), .int .u64 (.sym a1), .int .u64 (.sym a2), .int .u64 (.sym a3)], .agg [.int .u64 (.sym b0), .int .u64 (.sym b1), .int .u64 (.sym b2), .int .u64 (.sym b3)], .agg [.int .u64 (.sym m0), .int .u64 (.sym m1), .int .u64 (.sym m2), .int .u64 (.sym m3)]], [] =>
  some (some (((Wd a0 ∧ Wd a1 ∧ Wd a2 ∧ Wd a3) ∧ (Wd b0 ∧ Wd b1 ∧ Wd b2 ∧ Wd b3) ∧ (Wd m0 ∧ Wd m1 ∧ Wd m2 ∧ Wd m3)) ∧ 0 < V4 m0 m1 m2 m3),
   ag4 (lm ((V4 a0 a1 a2 a3).toNat * (V4 b0 b1 b2 b3).toNat % (V4 m0 m1 m2 m3).toNat) 0) (lm ((V4 a0 a1 a2 a3).toNat * (V4 b0 b1 b2 b3).toNat % (V4 m0 m1 m2 m3).toNat) 1) (lm ((V4 a0 a1 a2 a3).toNat * (V4 b0 b1 b2 b3).toNat % (V4 m0 m1 m2 m3).toNat) 2) (lm ((V4 a0 a1 a2 a3).toNat * (V4 b0 b1 b2 b3).toNat % (V4 m0 m1 m2 m3).toNat) 3))
 | _, _ => none
theorem mm_ok (args : List SV) (l : List (Nat × Reg)) (p : Ob) (v : SV) (h : rMm args l = some (p, v)) (hp : p.ok) : ∃ U, execF cxMm U Tryz.f38 64 args (memL l) fun v' _ => v' = v := by
 unfold rMm at h
 split at h
 ·rename_i a0 a1 a2 a3 b0 b1 b2 b3 m0 m1 m2 m3
  simp only [Option.some.injEq, Prod.mk.injEq] at h
  obtain ⟨rfl, rfl⟩ := h
  obtain ⟨⟨ha, hb, hm⟩, hM⟩ : ((Wd a0 ∧ Wd a1 ∧ Wd a2 ∧ Wd a3) ∧ (Wd b0 ∧ Wd b1 ∧ Wd b2 ∧ Wd b3) ∧ (Wd m0 ∧ Wd m1 ∧ Wd m2 ∧ Wd m3)) ∧ 0 < V4 m0 m1 m2 m3 := hp
  refine ⟨_, mm_walk _ _ _ a0 a1 a2 a3 b0 b1 b2 b3 m0 m1 m2 m3 _ (Ws.of ha) (Ws.of hb) (Ws.of hm) (by omega) fun r m' hr => ?_⟩
  rw [hr]
 ·cases h
def cMm : Rd Tryz.prog := mkR mixed 38 Tryz.func38 (by decide) (by kernel_rfl) [] [.num, .num, .num] rMm mm_ok
def cxMl : Cx Tryz.prog := { rds := [cPP, cMm], efs := [], eqs := [] }
theorem vc_ml (a0 a1 a2 a3 b0 b1 b2 b3 : Int) (K : SV → Mem → Prop) : (execF cxMl u9 Tryz.f17 64 [ag4 a0 a1 a2 a3, ag4 b0 b1 b2 b3] (memL []) K) = (∀ a, a = a0 → ∀ b, b = a1 → ∀ c, c = a2 → ∀ d, d = a3 → ∀ e, e = b0 → ∀ f, f = b1 → ∀ g, g =
 b2 → ∀ h, h = b3 → ((((Wd a ∧ Wd b ∧ Wd c ∧ Wd d) ∧ (Wd e ∧ Wd f ∧ Wd g ∧ Wd h) ∧ Wd (4332616871279656263 : Int) ∧ Wd (10917124144477883021 : Int) ∧ Wd (13281191951274694749 : Int) ∧ Wd (3486998266802970665 : Int)) ∧ (0 : Int) <
 (21888242871839275222246405745257275088696311157297823662689037894645226208583 : Int)) ∧ ∀ i, i = lm (Int.toNat (V4 a b c d) * Int.toNat (V4 e f g h) % 21888242871839275222246405745257275088696311157297823662689037894645226208583) 0 → ∀ j,
 j = lm (Int.toNat (V4 a b c d) * Int.toNat (V4 e f g h) % 21888242871839275222246405745257275088696311157297823662689037894645226208583) 1 → ∀ k, k = lm (Int.toNat (V4 a b c d) * Int.toNat (V4 e f g h) %
 21888242871839275222246405745257275088696311157297823662689037894645226208583) 2 → ∀ l, l = lm (Int.toNat (V4 a b c d) * Int.toNat (V4 e f g h) % 21888242871839275222246405745257275088696311157297823662689037894645226208583) 3 → K (.agg
 [.int .u64 (.sym i), .int .u64 (.sym j), .int .u64 (.sym k), .int .u64 (.sym l)]) (memL [(513, ⟨false, .cells [.int .u64 (.sym a0), .int .u64 (.sym a1), .int .u64 (.sym a2), .int .u64 (.sym a3)]⟩), (521, ⟨false, .cells [.int .u64 (.sym
 b0), .int .u64 (.sym b1), .int .u64 (.sym b2), .int .u64 (.sym b3)]⟩), (529, ⟨false, .cells [.int .u64 (.sym i), .int .u64 (.sym j), .int .u64 (.sym k), .int .u64 (.sym l)]⟩)]))) := by kernel_rfl
def rMl : R0 := fun args l =>
 match args, l with
 | [.agg [.int .u64 (.sym a0), .int .u64 (.sym a1), .int .u64 (.sym a2), .int .u64 (.sym a3)], .agg [.int .u64 (.sym b0), .int .u64 (.sym b1), .int .u64 (.sym b2), .int .u64 (.sym b3)]], [] =>
  some (some ((Wd a0 ∧ Wd a1 ∧ Wd a2 ∧ Wd a3) ∧ (Wd b0 ∧ Wd b1 ∧ Wd b2 ∧ Wd b3)),
   ag4 (lm ((V4 a0 a1 a2 a3).toNat * (V4 b0 b1 b2 b3).toNat % 21888242871839275222246405745257275088696311157297823662689037894645226208583) 0) (lm ((V4 a0 a1 a2 a3).toNat * (V4 b0 b1 b2 b3).toNat % 21888242871839275222246405745257275088696311157297823662689037894645226208583) 1) (lm ((V4 a0 a1 a2 a3).toNat * (V4 b0 b1 b2 b3).toNat % 21888242871839275222246405745257275088696311157297823662689037894645226208583) 2) (lm ((V4 a0 a1 a2 a3).toNat * (V4 b0 b1 b2 b3).toNat % 21888242871839275222246405745257275088696311157297823662689037894645226208583) 3))
 | _, _ => none
theorem ml_ok (args : List SV) (l : List (Nat × Reg)) (p : Ob) (v : SV) (h : rMl args l = some (p, v)) (hp : p.ok) : ∃ U, execF cxMl U Tryz.f17 64 args (memL l) fun v' _ => v' = v := by
 unfold rMl at h
 split at h
 ·rename_i a0 a1 a2 a3 b0 b1 b2 b3
  simp only [Option.some.injEq, Prod.mk.injEq] at h
  obtain ⟨rfl, rfl⟩ := h
  obtain ⟨ha, hb⟩ : (Wd a0 ∧ Wd a1 ∧ Wd a2 ∧ Wd a3) ∧ (Wd b0 ∧ Wd b1 ∧ Wd b2 ∧ Wd b3) := hp
  refine ⟨u9, ?_⟩
  have := vc_ml a0 a1 a2 a3 b0 b1 b2 b3 fun v' _ => v' = ag4 (lm ((V4 a0 a1 a2 a3).toNat * (V4 b0 b1 b2 b3).toNat % 21888242871839275222246405745257275088696311157297823662689037894645226208583) 0) (lm ((V4 a0 a1 a2 a3).toNat * (V4 b0 b1 b2 b3).toNat % 21888242871839275222246405745257275088696311157297823662689037894645226208583) 1) (lm ((V4 a0 a1 a2 a3).toNat * (V4 b0 b1 b2 b3).toNat % 21888242871839275222246405745257275088696311157297823662689037894645226208583) 2) (lm ((V4 a0 a1 a2 a3).toNat * (V4 b0 b1 b2 b3).toNat % 21888242871839275222246405745257275088696311157297823662689037894645226208583) 3)
  unfold ag4 at this
  refine this.mpr ?_
  clear this
  rintro _ rfl _ rfl _ rfl _ rfl _ rfl _ rfl _ rfl _ rfl
  refine ⟨⟨⟨ha, hb, wdq0, wdq1, wdq2, wdq3⟩, by decide⟩, ?_⟩
  rintro _ rfl _ rfl _ rfl _ rfl
  rfl
 ·cases h
def cMl : Rd Tryz.prog := mkR mixed 17 Tryz.func17 (by decide) (by kernel_rfl) [] [.num, .num] rMl ml_ok
def mulC (a0 a1 a2 a3 b0 b1 b2 b3 : Int) (K : Int → Int → Int → Int → Prop) : Prop := ∃ x y, (Ws a0 a1 a2 a3 x ∧ El b0 b1 b2 b3 y) ∧ ∀ r, r = mmul x y → ∀ y0 y1 y2 y3, El y0 y1 y2 y3 r → K y0 y1 y2 y3
theorem mulC_mono {a0 a1 a2 a3 b0 b1 b2 b3 : Int} {K K' : Int → Int → Int → Int → Prop} (hk : ∀ a b c d, K a b c d → K' a b c d) (h : mulC a0 a1 a2 a3 b0 b1 b2 b3 K) : mulC a0 a1 a2 a3 b0 b1 b2 b3 K' := by
 obtain ⟨x, y, h1, h2⟩ := h
 exact ⟨x, y, h1, fun r hr y0 y1 y2 y3 hy => hk _ _ _ _ (h2 r hr y0 y1 y2 y3 hy)⟩
theorem mulC_live {a0 a1 a2 a3 b0 b1 b2 b3 : Int} {K : Int → Int → Int → Int → Prop} (h : mulC a0 a1 a2 a3 b0 b1 b2 b3 K) : ∃ a b c d, K a b c d := by
 obtain ⟨x, y, h1, h2⟩ := h
 exact ⟨_, _, _, _, h2 _ rfl _ _ _ _ (El.of (mmul_lt _ _))⟩
theorem mulC_of {a0 a1 a2 a3 b0 b1 b2 b3 : Int} {K : Int → Int → Int → Int → Prop} (h : mulC a0 a1 a2 a3 b0 b1 b2 b3 K) : MulP a0 a1 a2 a3 b0 b1 b2 b3 K := by
 obtain ⟨x, y, ⟨h1, h2⟩, h3⟩ := h
 exact MulP.of h1 h2 fun r hr => h3 r hr _ _ _ _ (El.of (by rw [hr]; exact mmul_lt _ _))
def addC (a0 a1 a2 a3 b0 b1 b2 b3 : Int) (K : Int → Int → Int → Int → Prop) : Prop := ∃ x y, (El a0 a1 a2 a3 x ∧ El b0 b1 b2 b3 y) ∧ ∀ r, r = (x + y) % qN → ∀ y0 y1 y2 y3, El y0 y1 y2 y3 r → K y0 y1 y2 y3
theorem addC_mono {a0 a1 a2 a3 b0 b1 b2 b3 : Int} {K K' : Int → Int → Int → Int → Prop} (hk : ∀ a b c d, K a b c d → K' a b c d) (h : addC a0 a1 a2 a3 b0 b1 b2 b3 K) : addC a0 a1 a2 a3 b0 b1 b2 b3 K' := by
 obtain ⟨x, y, h1, h2⟩ := h
 exact ⟨x, y, h1, fun r hr y0 y1 y2 y3 hy => hk _ _ _ _ (h2 r hr y0 y1 y2 y3 hy)⟩
theorem addC_live {a0 a1 a2 a3 b0 b1 b2 b3 : Int} {K : Int → Int → Int → Int → Prop} (h : addC a0 a1 a2 a3 b0 b1 b2 b3 K) : ∃ a b c d, K a b c d := by
 obtain ⟨x, y, h1, h2⟩ := h
 exact ⟨_, _, _, _, h2 _ rfl _ _ _ _ (El.of (Nat.mod_lt _ (by decide)))⟩
theorem addC_of {a0 a1 a2 a3 b0 b1 b2 b3 : Int} {K : Int → Int → Int → Int → Prop} (h : addC a0 a1 a2 a3 b0 b1 b2 b3 K) : AddP a0 a1 a2 a3 b0 b1 b2 b3 K := by
 obtain ⟨x, y, ⟨h1, h2⟩, h3⟩ := h
 exact AddP.of h1 h2 fun r hr => h3 r hr _ _ _ _ (El.of (by rw [hr]; exact Nat.mod_lt _ (by decide)))
def SubP (a0 a1 a2 a3 b0 b1 b2 b3 : Int) (K : Int → Int → Int → Int → Prop) : Prop :=
 SubS a0 b0 0 fun s0 k0 => SubS a1 b1 k0 fun s1 k1 => SubS a2 b2 k1 fun s2 k2 => SubS a3 b3 k2 fun s3 k3 =>
  ((k3 != 0) = true → AddS s0 4332616871279656263 0 fun t0 j0 => AddS s1 10917124144477883021 j0 fun t1 j1 => AddS s2 13281191951274694749 j1 fun t2 j2 => AddS s3 3486998266802970665 j2 fun t3 _ => K t0 t1 t2 t3) ∧
  ((k3 != 0) = false → K s0 s1 s2 s3)
theorem subp_eq {a0 a1 a2 a3 b0 b1 b2 b3 s0 s1 s2 s3 k0 k1 k2 k3 : Int} (e0 : s0 = a0 - b0 - 0 + k0 * 18446744073709551616) (e1 : s1 = a1 - b1 - k0 + k1 * 18446744073709551616)
  (e2 : s2 = a2 - b2 - k1 + k2 * 18446744073709551616) (e3 : s3 = a3 - b3 - k2 + k3 * 18446744073709551616) : V4 s0 s1 s2 s3 = V4 a0 a1 a2 a3 - V4 b0 b1 b2 b3 + k3 * 115792089237316195423570985008687907853269984665640564039457584007913129639936 := by
 unfold V4
 omega
def subN (x y : Nat) : Nat := (x + (qN - y)) % qN
theorem sub_fin {x y : Nat} {s0 s1 s2 s3 k3 t0 t1 t2 t3 j3 : Int} (hx : x < qN) (hy : y < qN) (ws : Wd s0 ∧ Wd s1 ∧ Wd s2 ∧ Wd s3) (hk0 : 0 ≤ k3) (hk1 : k3 ≤ 1)
  (e : V4 s0 s1 s2 s3 = (x : Int) - y + k3 * 115792089237316195423570985008687907853269984665640564039457584007913129639936) :
  (k3 = 0 → V4 s0 s1 s2 s3 = ((subN x y : Nat) : Int)) ∧
  (k3 ≠ 0 → (Wd t0 ∧ Wd t1 ∧ Wd t2 ∧ Wd t3) → V4 t0 t1 t2 t3 + j3 * 115792089237316195423570985008687907853269984665640564039457584007913129639936 = V4 s0 s1 s2 s3 + 21888242871839275222246405745257275088696311157297823662689037894645226208583 → 0 ≤ j3 → j3 ≤ 1 → V4 t0 t1 t2 t3 = ((subN x y : Nat) : Int)) := by
 obtain ⟨w0, w1, w2, w3⟩ := ws
 have n0 := V4_nonneg w0 w1 w2 w3
 have n1 := V4_lt w0 w1 w2 w3
 unfold subN
 constructor
 ·intro h
  have : (x + (qN - y)) % qN = x - y := by
   rw [show x + (qN - y) = (x - y) + qN by omega, Nat.add_mod_right, Nat.mod_eq_of_lt (by omega)]
  rw [this]
  unfold qN at *
  omega
 ·rintro h ⟨v0, v1, v2, v3⟩ et l0 l1
  have m0 := V4_nonneg v0 v1 v2 v3
  have m1 := V4_lt v0 v1 v2 v3
  have hk : k3 = 1 := by omega
  subst hk
  have hxy : x < y := by omega
  have : (x + (qN - y)) % qN = x + (qN - y) := Nat.mod_eq_of_lt (by omega)
  rw [this]
  unfold qN at *
  omega
theorem SubP.of {a0 a1 a2 a3 b0 b1 b2 b3 : Int} {x y : Nat} {K : Int → Int → Int → Int → Prop} (hx : El a0 a1 a2 a3 x) (hy : El b0 b1 b2 b3 y) (hK : ∀ r, r = subN x y → K (lm r 0) (lm r 1) (lm r 2) (lm r 3)) : SubP a0 a1 a2 a3 b0 b1 b2 b3 K := by
 obtain ⟨ha0, ha1, ha2, ha3⟩ := hx.wd
 obtain ⟨hb0, hb1, hb2, hb3⟩ := hy.wd
 refine SubS.of ha0 hb0 (Int.le_refl _) (by decide) fun s0 k0 c0 c1 c2 c3 => ?_
 refine SubS.of ha1 hb1 c1 c2 fun s1 k1 d0 d1 d2 d3 => ?_
 refine SubS.of ha2 hb2 d1 d2 fun s2 k2 e0 e1 e2 e3 => ?_
 refine SubS.of ha3 hb3 e1 e2 fun s3 k3 f0 f1 f2 f3 => ?_
 have e := subp_eq c3 d3 e3 f3
 rw [hx.val, hy.val] at e
 have fin := fun t0 t1 t2 t3 j3 => sub_fin (t0 := t0) (t1 := t1) (t2 := t2) (t3 := t3) (j3 := j3) hx.lt hy.lt ⟨c0, d0, e0, f0⟩ f1 f2 e
 have done : ∀ z0 z1 z2 z3 : Int, Wd z0 → Wd z1 → Wd z2 → Wd z3 → V4 z0 z1 z2 z3 = ((subN x y : Nat) : Int) → K z0 z1 z2 z3 := fun z0 z1 z2 z3 w0 w1 w2 w3 hz => by
  obtain ⟨q0, q1, q2, q3⟩ := lm_of w0 w1 w2 w3 hz
  rw [q0, q1, q2, q3]
  exact hK _ rfl
 refine ⟨fun h => ?_, fun h => ?_⟩
 ·have hk : k3 ≠ 0 := by simpa using h
  refine AddS.of c0 wdq0 (Int.le_refl _) (by decide) fun t0 j0 g0 g1 g2 g3 => ?_
  refine AddS.of d0 wdq1 g1 g2 fun t1 j1 h0 h1 h2 h3 => ?_
  refine AddS.of e0 wdq2 h1 h2 fun t2 j2 i0 i1 i2 i3 => ?_
  refine AddS.of f0 wdq3 i1 i2 fun t3 j3 l0 l1 l2 l3 => ?_
  exact done _ _ _ _ g0 h0 i0 l0 ((fin t0 t1 t2 t3 j3).2 hk ⟨g0, h0, i0, l0⟩ (addp_eq g3 h3 i3 l3) l1 l2)
 ·have hk : k3 = 0 := by simpa using h
  exact done _ _ _ _ c0 d0 e0 f0 ((fin 0 0 0 0 0).1 hk)
def subC (a0 a1 a2 a3 b0 b1 b2 b3 : Int) (K : Int → Int → Int → Int → Prop) : Prop := ∃ x y, (El a0 a1 a2 a3 x ∧ El b0 b1 b2 b3 y) ∧ ∀ r, r = subN x y → ∀ y0 y1 y2 y3, El y0 y1 y2 y3 r → K y0 y1 y2 y3
theorem subC_mono {a0 a1 a2 a3 b0 b1 b2 b3 : Int} {K K' : Int → Int → Int → Int → Prop} (hk : ∀ a b c d, K a b c d → K' a b c d) (h : subC a0 a1 a2 a3 b0 b1 b2 b3 K) : subC a0 a1 a2 a3 b0 b1 b2 b3 K' := by
 obtain ⟨x, y, h1, h2⟩ := h
 exact ⟨x, y, h1, fun r hr y0 y1 y2 y3 hy => hk _ _ _ _ (h2 r hr y0 y1 y2 y3 hy)⟩
theorem subC_live {a0 a1 a2 a3 b0 b1 b2 b3 : Int} {K : Int → Int → Int → Int → Prop} (h : subC a0 a1 a2 a3 b0 b1 b2 b3 K) : ∃ a b c d, K a b c d := by
 obtain ⟨x, y, h1, h2⟩ := h
 exact ⟨_, _, _, _, h2 _ rfl _ _ _ _ (El.of (Nat.mod_lt _ (by decide)))⟩
theorem subC_of {a0 a1 a2 a3 b0 b1 b2 b3 : Int} {K : Int → Int → Int → Int → Prop} (h : subC a0 a1 a2 a3 b0 b1 b2 b3 K) : SubP a0 a1 a2 a3 b0 b1 b2 b3 K := by
 obtain ⟨x, y, ⟨h1, h2⟩, h3⟩ := h
 exact SubP.of h1 h2 fun r hr => h3 r hr _ _ _ _ (El.of (by rw [hr]; exact Nat.mod_lt _ (by decide)))
theorem vc_MulA0 (z0 z1 z2 z3 a0 a1 a2 a3 b0 b1 b2 b3 : Int) (K : SV → Mem → Prop) : execF cxMul u0 Tryz.f51 64 [.ptr 1 (.lit 0), .ptr 9 (.lit 0), .ptr 17 (.lit 0)] (memL [(1, ⟨false, w4 z0 z1 z2 z3⟩), (9, ⟨true, w4 a0 a1 a2 a3⟩), (17,
 ⟨true, w4 b0 b1 b2 b3⟩)]) K = (MulP a0 a1 a2 a3 b0 b1 b2 b3 fun a b c d => K (.ptr 1 (.lit 0)) (memL [(1, ⟨false, w4 a b c d⟩), (9, ⟨true, w4 a0 a1 a2 a3⟩), (17, ⟨true, w4 b0 b1 b2 b3⟩)])) := by kernel_rfl
theorem vc_MulA1 (z0 z1 z2 z3 a0 a1 a2 a3 : Int) (K : SV → Mem → Prop) : execF cxMul u0 Tryz.f51 64 [.ptr 1 (.lit 0), .ptr 1 (.lit 0), .ptr 9 (.lit 0)] (memL [(1, ⟨false, w4 z0 z1 z2 z3⟩), (9, ⟨true, w4 a0 a1 a2 a3⟩)]) K = (MulP z0 z1 z2 z3
 a0 a1 a2 a3 fun a b c d => K (.ptr 1 (.lit 0)) (memL [(1, ⟨false, w4 a b c d⟩), (9, ⟨true, w4 a0 a1 a2 a3⟩)])) := by kernel_rfl
theorem vc_MulA2 (z0 z1 z2 z3 a0 a1 a2 a3 : Int) (K : SV → Mem → Prop) : execF cxMul u0 Tryz.f51 64 [.ptr 1 (.lit 0), .ptr 9 (.lit 0), .ptr 1 (.lit 0)] (memL [(1, ⟨false, w4 z0 z1 z2 z3⟩), (9, ⟨true, w4 a0 a1 a2 a3⟩)]) K = (MulP a0 a1 a2 a3
 z0 z1 z2 z3 fun a b c d => K (.ptr 1 (.lit 0)) (memL [(1, ⟨false, w4 a b c d⟩), (9, ⟨true, w4 a0 a1 a2 a3⟩)])) := by kernel_rfl
theorem vc_MulA3 (z0 z1 z2 z3 a0 a1 a2 a3 : Int) (K : SV → Mem → Prop) : execF cxMul u0 Tryz.f51 64 [.ptr 1 (.lit 0), .ptr 9 (.lit 0), .ptr 9 (.lit 0)] (memL [(1, ⟨false, w4 z0 z1 z2 z3⟩), (9, ⟨true, w4 a0 a1 a2 a3⟩)]) K = (MulP a0 a1 a2 a3
 a0 a1 a2 a3 fun a b c d => K (.ptr 1 (.lit 0)) (memL [(1, ⟨false, w4 a b c d⟩), (9, ⟨true, w4 a0 a1 a2 a3⟩)])) := by kernel_rfl
def gMulA : G0 := fun args l K =>
 match args, l with
 | [.ptr 1 (.lit 0), .ptr 9 (.lit 0), .ptr 17 (.lit 0)], [(1, ⟨false, .cells [.int .u64 (.sym z0), .int .u64 (.sym z1), .int .u64 (.sym z2), .int .u64 (.sym z3)]⟩), (9, ⟨true, .cells [.int .u64 (.sym a0), .int .u64 (.sym a1), .int .u64 (.sym a2), .int .u64 (.sym a3)]⟩), (17, ⟨true, .cells [.int .u64 (.sym b0), .int .u64 (.sym b1), .int .u64 (.sym b2), .int .u64 (.sym b3)]⟩)] => mulC a0 a1 a2 a3 b0 b1 b2 b3 fun y0 y1 y2 y3 => K (.ptr 1 (.lit 0)) (memL [(1, ⟨false, w4 y0 y1 y2 y3⟩), (9, ⟨true, w4 a0 a1 a2 a3⟩), (17, ⟨true, w4 b0 b1 b2 b3⟩)])
 | [.ptr 1 (.lit 0), .ptr 1 (.lit 0), .ptr 9 (.lit 0)], [(1, ⟨false, .cells [.int .u64 (.sym z0), .int .u64 (.sym z1), .int .u64 (.sym z2), .int .u64 (.sym z3)]⟩), (9, ⟨true, .cells [.int .u64 (.sym a0), .int .u64 (.sym a1), .int .u64 (.sym a2), .int .u64 (.sym a3)]⟩)] => mulC z0 z1 z2 z3 a0 a1 a2 a3 fun y0 y1 y2 y3 => K (.ptr 1 (.lit 0)) (memL [(1, ⟨false, w4 y0 y1 y2 y3⟩), (9, ⟨true, w4 a0 a1 a2 a3⟩)])
 | [.ptr 1 (.lit 0), .ptr 9 (.lit 0), .ptr 1 (.lit 0)], [(1, ⟨false, .cells [.int .u64 (.sym z0), .int .u64 (.sym z1), .int .u64 (.sym z2), .int .u64 (.sym z3)]⟩), (9, ⟨true, .cells [.int .u64 (.sym a0), .int .u64 (.sym a1), .int .u64 (.sym a2), .int .u64 (.sym a3)]⟩)] => mulC a0 a1 a2 a3 z0 z1 z2 z3 fun y0 y1 y2 y3 => K (.ptr 1 (.lit 0)) (memL [(1, ⟨false, w4 y0 y1 y2 y3⟩), (9, ⟨true, w4 a0 a1 a2 a3⟩)])
 | [.ptr 1 (.lit 0), .ptr 9 (.lit 0), .ptr 9 (.lit 0)], [(1, ⟨false, .cells [.int .u64 (.sym z0), .int .u64 (.sym z1), .int .u64 (.sym z2), .int .u64 (.sym z3)]⟩), (9, ⟨true, .cells [.int .u64 (.sym a0), .int .u64 (.sym a1), .int .u64 (.sym a2), .int .u64 (.sym a3)]⟩)] => mulC a0 a1 a2 a3 a0 a1 a2 a3 fun y0 y1 y2 y3 => K (.ptr 1 (.lit 0)) (memL [(1, ⟨false, w4 y0 y1 y2 y3⟩), (9, ⟨true, w4 a0 a1 a2 a3⟩)])
 | _, _ => False
theorem MulA_good : Good gMulA := by
 constructor
 ·intro args l K K' hk h
  unfold gMulA at h ⊢
  split at h
  ·exact mulC_mono (fun _ _ _ _ => hk _ _) h
  ·exact mulC_mono (fun _ _ _ _ => hk _ _) h
  ·exact mulC_mono (fun _ _ _ _ => hk _ _) h
  ·exact mulC_mono (fun _ _ _ _ => hk _ _) h
  ·exact h.elim
 ·intro args l K h
  unfold gMulA at h
  split at h
  ·obtain ⟨_, _, _, _, h⟩ := mulC_live h
   exact ⟨_, _, h⟩
  ·obtain ⟨_, _, _, _, h⟩ := mulC_live h
   exact ⟨_, _, h⟩
  ·obtain ⟨_, _, _, _, h⟩ := mulC_live h
   exact ⟨_, _, h⟩
  ·obtain ⟨_, _, _, _, h⟩ := mulC_live h
   exact ⟨_, _, h⟩
  ·exact h.elim
theorem MulA_ok (args : List SV) (l : List (Nat × Reg)) (K : SV → Mem → Prop) (hK : KUp K) (h : gMulA args l K) : ∃ U, execF cxMul U Tryz.f51 64 args (memL l) K := by
 unfold gMulA at h
 split at h
 ·rename_i z0 z1 z2 z3 a0 a1 a2 a3 b0 b1 b2 b3
  refine ⟨u0, ?_⟩
  have := vc_MulA0 z0 z1 z2 z3 a0 a1 a2 a3 b0 b1 b2 b3 K
  unfold w4 at this
  rw [this]
  exact mulC_of h
 ·rename_i z0 z1 z2 z3 a0 a1 a2 a3
  refine ⟨u0, ?_⟩
  have := vc_MulA1 z0 z1 z2 z3 a0 a1 a2 a3 K
  unfold w4 at this
  rw [this]
  exact mulC_of h
 ·rename_i z0 z1 z2 z3 a0 a1 a2 a3
  refine ⟨u0, ?_⟩
  have := vc_MulA2 z0 z1 z2 z3 a0 a1 a2 a3 K
  unfold w4 at this
  rw [this]
  exact mulC_of h
 ·rename_i z0 z1 z2 z3 a0 a1 a2 a3
  refine ⟨u0, ?_⟩
  have := vc_MulA3 z0 z1 z2 z3 a0 a1 a2 a3 K
  unfold w4 at this
  rw [this]
  exact mulC_of h
 ·exact h.elim
def kMulA : Ef Tryz.prog := mkE mixed 51 Tryz.func51 (by decide) (by kernel_rfl) [] [.ptr 4 false, .ptr 4 true, .ptr 4 true] gMulA MulA_good MulA_ok
theorem vc_Sqr0 (z0 z1 z2 z3 a0 a1 a2 a3 : Int) (K : SV → Mem → Prop) : execF cxMul u0 Tryz.f50 64 [.ptr 1 (.lit 0), .ptr 9 (.lit 0)] (memL [(1, ⟨false, w4 z0 z1 z2 z3⟩), (9, ⟨true, w4 a0 a1 a2 a3⟩)]) K = (MulP a0 a1 a2 a3 a0 a1 a2 a3 fun a
 b c d => K (.ptr 1 (.lit 0)) (memL [(1, ⟨false, w4 a b c d⟩), (9, ⟨true, w4 a0 a1 a2 a3⟩)])) := by kernel_rfl
theorem vc_Sqr1 (z0 z1 z2 z3 : Int) (K : SV → Mem → Prop) : execF cxMul u0 Tryz.f50 64 [.ptr 1 (.lit 0), .ptr 1 (.lit 0)] (memL [(1, ⟨false, w4 z0 z1 z2 z3⟩)]) K = (MulP z0 z1 z2 z3 z0 z1 z2 z3 fun a b c d => K (.ptr 1 (.lit 0)) (memL [(1,
 ⟨false, w4 a b c d⟩)])) := by kernel_rfl
def gSqr : G0 := fun args l K =>
 match args, l with
 | [.ptr 1 (.lit 0), .ptr 9 (.lit 0)], [(1, ⟨false, .cells [.int .u64 (.sym z0), .int .u64 (.sym z1), .int .u64 (.sym z2), .int .u64 (.sym z3)]⟩), (9, ⟨true, .cells [.int .u64 (.sym a0), .int .u64 (.sym a1), .int .u64 (.sym a2), .int .u64 (.sym a3)]⟩)] => mulC a0 a1 a2 a3 a0 a1 a2 a3 fun y0 y1 y2 y3 => K (.ptr 1 (.lit 0)) (memL [(1, ⟨false, w4 y0 y1 y2 y3⟩), (9, ⟨true, w4 a0 a1 a2 a3⟩)])
 | [.ptr 1 (.lit 0), .ptr 1 (.lit 0)], [(1, ⟨false, .cells [.int .u64 (.sym z0), .int .u64 (.sym z1), .int .u64 (.sym z2), .int .u64 (.sym z3)]⟩)] => mulC z0 z1 z2 z3 z0 z1 z2 z3 fun y0 y1 y2 y3 => K (.ptr 1 (.lit 0)) (memL [(1, ⟨false, w4 y0 y1 y2 y3⟩)])
 | _, _ => False
theorem Sqr_good : Good gSqr := by
 constructor
 ·intro args l K K' hk h
  unfold gSqr at h ⊢
  split at h
  ·exact mulC_mono (fun _ _ _ _ => hk _ _) h
  ·exact mulC_mono (fun _ _ _ _ => hk _ _) h
  ·exact h.elim
 ·intro args l K h
  unfold gSqr at h
  split at h
  ·obtain ⟨_, _, _, _, h⟩ := mulC_live h
   exact ⟨_, _, h⟩
  ·obtain ⟨_, _, _, _, h⟩ := mulC_live h
   exact ⟨_, _, h⟩
  ·exact h.elim
theorem Sqr_ok (args : List SV) (l : List (Nat × Reg)) (K : SV → Mem → Prop) (hK : KUp K) (h : gSqr args l K) : ∃ U, execF cxMul U Tryz.f50 64 args (memL l) K := by
 unfold gSqr at h
 split at h
 ·rename_i z0 z1 z2 z3 a0 a1 a2 a3
  refine ⟨u0, ?_⟩
  have := vc_Sqr0 z0 z1 z2 z3 a0 a1 a2 a3 K
  unfold w4 at this
  rw [this]
  exact mulC_of h
 ·rename_i z0 z1 z2 z3
  refine ⟨u0, ?_⟩
  have := vc_Sqr1 z0 z1 z2 z3 K
  unfold w4 at this
  rw [this]
  exact mulC_of h
 ·exact h.elim
def kSqr : Ef Tryz.prog := mkE mixed 50 Tryz.func50 (by decide) (by kernel_rfl) [] [.ptr 4 false, .ptr 4 true] gSqr Sqr_good Sqr_ok
theorem vc_AddA0 (z0 z1 z2 z3 a0 a1 a2 a3 b0 b1 b2 b3 : Int) (K : SV → Mem → Prop) : execF cxAdd u0 Tryz.f52 64 [.ptr 1 (.lit 0), .ptr 9 (.lit 0), .ptr 17 (.lit 0)] (memL [(1, ⟨false, w4 z0 z1 z2 z3⟩), (9, ⟨true, w4 a0 a1 a2 a3⟩), (17,
 ⟨true, w4 b0 b1 b2 b3⟩)]) K = (AddP a0 a1 a2 a3 b0 b1 b2 b3 fun a b c d => K (.ptr 1 (.lit 0)) (memL [(1, ⟨false, w4 a b c d⟩), (9, ⟨true, w4 a0 a1 a2 a3⟩), (17, ⟨true, w4 b0 b1 b2 b3⟩)])) := by kernel_rfl
theorem vc_AddA1 (z0 z1 z2 z3 a0 a1 a2 a3 : Int) (K : SV → Mem → Prop) : execF cxAdd u0 Tryz.f52 64 [.ptr 1 (.lit 0), .ptr 1 (.lit 0), .ptr 9 (.lit 0)] (memL [(1, ⟨false, w4 z0 z1 z2 z3⟩), (9, ⟨true, w4 a0 a1 a2 a3⟩)]) K = (AddP z0 z1 z2 z3
 a0 a1 a2 a3 fun a b c d => K (.ptr 1 (.lit 0)) (memL [(1, ⟨false, w4 a b c d⟩), (9, ⟨true, w4 a0 a1 a2 a3⟩)])) := by kernel_rfl
theorem vc_AddA2 (z0 z1 z2 z3 a0 a1 a2 a3 : Int) (K : SV → Mem → Prop) : execF cxAdd u0 Tryz.f52 64 [.ptr 1 (.lit 0), .ptr 9 (.lit 0), .ptr 1 (.lit 0)] (memL [(1, ⟨false, w4 z0 z1 z2 z3⟩), (9, ⟨true, w4 a0 a1 a2 a3⟩)]) K = (AddP a0 a1 a2 a3
 z0 z1 z2 z3 fun a b c d => K (.ptr 1 (.lit 0)) (memL [(1, ⟨false, w4 a b c d⟩), (9, ⟨true, w4 a0 a1 a2 a3⟩)])) := by kernel_rfl
theorem vc_AddA3 (z0 z1 z2 z3 a0 a1 a2 a3 : Int) (K : SV → Mem → Prop) : execF cxAdd u0 Tryz.f52 64 [.ptr 1 (.lit 0), .ptr 9 (.lit 0), .ptr 9 (.lit 0)] (memL [(1, ⟨false, w4 z0 z1 z2 z3⟩), (9, ⟨true, w4 a0 a1 a2 a3⟩)]) K = (AddP a0 a1 a2 a3
 a0 a1 a2 a3 fun a b c d => K (.ptr 1 (.lit 0)) (memL [(1, ⟨false, w4 a b c d⟩), (9, ⟨true, w4 a0 a1 a2 a3⟩)])) := by kernel_rfl
def gAddA : G0 := fun args l K =>
 match args, l with
 | [.ptr 1 (.lit 0), .ptr 9 (.lit 0), .ptr 17 (.lit 0)], [(1, ⟨false, .cells [.int .u64 (.sym z0), .int .u64 (.sym z1), .int .u64 (.sym z2), .int .u64 (.sym z3)]⟩), (9, ⟨true, .cells [.int .u64 (.sym a0), .int .u64 (.sym a1), .int .u64 (.sym a2), .int .u64 (.sym a3)]⟩), (17, ⟨true, .cells [.int .u64 (.sym b0), .int .u64 (.sym b1), .int .u64 (.sym b2), .int .u64 (.sym b3)]⟩)] => addC a0 a1 a2 a3 b0 b1 b2 b3 fun y0 y1 y2 y3 => K (.ptr 1 (.lit 0)) (memL [(1, ⟨false, w4 y0 y1 y2 y3⟩), (9, ⟨true, w4 a0 a1 a2 a3⟩), (17, ⟨true, w4 b0 b1 b2 b3⟩)])
 | [.ptr 1 (.lit 0), .ptr 1 (.lit 0), .ptr 9 (.lit 0)], [(1, ⟨false, .cells [.int .u64 (.sym z0), .int .u64 (.sym z1), .int .u64 (.sym z2), .int .u64 (.sym z3)]⟩), (9, ⟨true, .cells [.int .u64 (.sym a0), .int .u64 (.sym a1), .int .u64 (.sym a2), .int .u64 (.sym a3)]⟩)] => addC z0 z1 z2 z3 a0 a1 a2 a3 fun y0 y1 y2 y3 => K (.ptr 1 (.lit 0)) (memL [(1, ⟨false, w4 y0 y1 y2 y3⟩), (9, ⟨true, w4 a0 a1 a2 a3⟩)])
 | [.ptr 1 (.lit 0), .ptr 9 (.lit 0), .ptr 1 (.lit 0)], [(1, ⟨false, .cells [.int .u64 (.sym z0), .int .u64 (.sym z1), .int .u64 (.sym z2), .int .u64 (.sym z3)]⟩), (9, ⟨true, .cells [.int .u64 (.sym a0), .int .u64 (.sym a1), .int .u64 (.sym a2), .int .u64 (.sym a3)]⟩)] => addC a0 a1 a2 a3 z0 z1 z2 z3 fun y0 y1 y2 y3 => K (.ptr 1 (.lit 0)) (memL [(1, ⟨false, w4 y0 y1 y2 y3⟩), (9, ⟨true, w4 a0 a1 a2 a3⟩)])
 | [.ptr 1 (.lit 0), .ptr 9 (.lit 0), .ptr 9 (.lit 0)], [(1, ⟨false, .cells [.int .u64 (.sym z0), .int .u64 (.sym z1), .int .u64 (.sym z2), .int .u64 (.sym z3)]⟩), (9, ⟨true, .cells [.int .u64 (.sym a0), .int .u64 (.sym a1), .int .u64 (.sym a2), .int .u64 (.sym a3)]⟩)] => addC a0 a1 a2 a3 a0 a1 a2 a3 fun y0 y1 y2 y3 => K (.ptr 1 (.lit 0)) (memL [(1, ⟨false, w4 y0 y1 y2 y3⟩), (9, ⟨true, w4 a0 a1 a2 a3⟩)])
 | _, _ => False
theorem AddA_good : Good gAddA := by
 constructor
 ·intro args l K K' hk h
  unfold gAddA at h ⊢
  split at h
  ·exact addC_mono (fun _ _ _ _ => hk _ _) h
  ·exact addC_mono (fun _ _ _ _ => hk _ _) h
  ·exact addC_mono (fun _ _ _ _ => hk _ _) h
  ·exact addC_mono (fun _ _ _ _ => hk _ _) h
  ·exact h.elim
 ·intro args l K h
  unfold gAddA at h
  split at h
  ·obtain ⟨_, _, _, _, h⟩ := addC_live h
   exact ⟨_, _, h⟩
  ·obtain ⟨_, _, _, _, h⟩ := addC_live h
   exact ⟨_, _, h⟩
  ·obtain ⟨_, _, _, _, h⟩ := addC_live h
   exact ⟨_, _, h⟩
  ·obtain ⟨_, _, _, _, h⟩ := addC_live h
   exact ⟨_, _, h⟩
  ·exact h.elim
theorem AddA_ok (args : List SV) (l : List (Nat × Reg)) (K : SV → Mem → Prop) (hK : KUp K) (h : gAddA args l K) : ∃ U, execF cxAdd U Tryz.f52 64 args (memL l) K := by
 unfold gAddA at h
 split at h
 ·rename_i z0 z1 z2 z3 a0 a1 a2 a3 b0 b1 b2 b3
  refine ⟨u0, ?_⟩
  have := vc_AddA0 z0 z1 z2 z3 a0 a1 a2 a3 b0 b1 b2 b3 K
  unfold w4 at this
  rw [this]
  exact addC_of h
 ·rename_i z0 z1 z2 z3 a0 a1 a2 a3
  refine ⟨u0, ?_⟩
  have := vc_AddA1 z0 z1 z2 z3 a0 a1 a2 a3 K
  unfold w4 at this
  rw [this]
  exact addC_of h
 ·rename_i z0 z1 z2 z3 a0 a1 a2 a3
  refine ⟨u0, ?_⟩
  have := vc_AddA2 z0 z1 z2 z3 a0 a1 a2 a3 K
  unfold w4 at this
  rw [this]
  exact addC_of h
 ·rename_i z0 z1 z2 z3 a0 a1 a2 a3
  refine ⟨u0, ?_⟩
  have := vc_AddA3 z0 z1 z2 z3 a0 a1 a2 a3 K
  unfold w4 at this
  rw [this]
  exact addC_of h
 ·exact h.elim
def kAddA : Ef Tryz.prog := mkE mixed 52 Tryz.func52 (by decide) (by kernel_rfl) [] [.ptr 4 false, .ptr 4 true, .ptr 4 true] gAddA AddA_good AddA_ok
theorem vc_SubA0 (z0 z1 z2 z3 a0 a1 a2 a3 b0 b1 b2 b3 : Int) (K : SV → Mem → Prop) : execF cxAdd u0 Tryz.f53 64 [.ptr 1 (.lit 0), .ptr 9 (.lit 0), .ptr 17 (.lit 0)] (memL [(1, ⟨false, w4 z0 z1 z2 z3⟩), (9, ⟨true, w4 a0 a1 a2 a3⟩), (17,
 ⟨true, w4 b0 b1 b2 b3⟩)]) K = (SubP a0 a1 a2 a3 b0 b1 b2 b3 fun a b c d => K (.ptr 1 (.lit 0)) (memL [(1, ⟨false, w4 a b c d⟩), (9, ⟨true, w4 a0 a1 a2 a3⟩), (17, ⟨true, w4 b0 b1 b2 b3⟩)])) := by kernel_rfl
theorem vc_SubA1 (z0 z1 z2 z3 a0 a1 a2 a3 : Int) (K : SV → Mem → Prop) : execF cxAdd u0 Tryz.f53 64 [.ptr 1 (.lit 0), .ptr 1 (.lit 0), .ptr 9 (.lit 0)] (memL [(1, ⟨false, w4 z0 z1 z2 z3⟩), (9, ⟨true, w4 a0 a1 a2 a3⟩)]) K = (SubP z0 z1 z2 z3
 a0 a1 a2 a3 fun a b c d => K (.ptr 1 (.lit 0)) (memL [(1, ⟨false, w4 a b c d⟩), (9, ⟨true, w4 a0 a1 a2 a3⟩)])) := by kernel_rfl
theorem vc_SubA2 (z0 z1 z2 z3 a0 a1 a2 a3 : Int) (K : SV → Mem → Prop) : execF cxAdd u0 Tryz.f53 64 [.ptr 1 (.lit 0), .ptr 9 (.lit 0), .ptr 1 (.lit 0)] (memL [(1, ⟨false, w4 z0 z1 z2 z3⟩), (9, ⟨true, w4 a0 a1 a2 a3⟩)]) K = (SubP a0 a1 a2 a3
 z0 z1 z2 z3 fun a b c d => K (.ptr 1 (.lit 0)) (memL [(1, ⟨false, w4 a b c d⟩), (9, ⟨true, w4 a0 a1 a2 a3⟩)])) := by kernel_rfl
def gSubA : G0 := fun args l K =>
 match args, l with
 | [.ptr 1 (.lit 0), .ptr 9 (.lit 0), .ptr 17 (.lit 0)], [(1, ⟨false, .cells [.int .u64 (.sym z0), .int .u64 (.sym z1), .int .u64 (.sym z2), .int .u64 (.sym z3)]⟩), (9, ⟨true, .cells [.int .u64 (.sym a0), .int .u64 (.sym a1), .int .u64 (.sym a2), .int .u64 (.sym a3)]⟩), (17, ⟨true, .cells [.int .u64 (.sym b0), .int .u64 (.sym b1), .int .u64 (.sym b2), .int .u64 (.sym b3)]⟩)] => subC a0 a1 a2 a3 b0 b1 b2 b3 fun y0 y1 y2 y3 => K (.ptr 1 (.lit 0)) (memL [(1, ⟨false, w4 y0 y1 y2 y3⟩), (9, ⟨true, w4 a0 a1 a2 a3⟩), (17, ⟨true, w4 b0 b1 b2 b3⟩)])
 | [.ptr 1 (.lit 0), .ptr 1 (.lit 0), .ptr 9 (.lit 0)], [(1, ⟨false, .cells [.int .u64 (.sym z0), .int .u64 (.sym z1), .int .u64 (.sym z2), .int .u64 (.sym z3)]⟩), (9, ⟨true, .cells [.int .u64 (.sym a0), .int .u64 (.sym a1), .int .u64 (.sym a2), .int .u64 (.sym a3)]⟩)] => subC z0 z1 z2 z3 a0 a1 a2 a3 fun y0 y1 y2 y3 => K (.ptr 1 (.lit 0)) (memL [(1, ⟨false, w4 y0 y1 y2 y3⟩), (9, ⟨true, w4 a0 a1 a2 a3⟩)])
 | [.ptr 1 (.lit 0), .ptr 9 (.lit 0), .ptr 1 (.lit 0)], [(1, ⟨false, .cells [.int .u64 (.sym z0), .int .u64 (.sym z1), .int .u64 (.sym z2), .int .u64 (.sym z3)]⟩), (9, ⟨true, .cells [.int .u64 (.sym a0), .int .u64 (.sym a1), .int .u64 (.sym a2), .int .u64 (.sym a3)]⟩)] => subC a0 a1 a2 a3 z0 z1 z2 z3 fun y0 y1 y2 y3 => K (.ptr 1 (.lit 0)) (memL [(1, ⟨false, w4 y0 y1 y2 y3⟩), (9, ⟨true, w4 a0 a1 a2 a3⟩)])
 | _, _ => False
theorem SubA_good : Good gSubA := by
 constructor
 ·intro args l K K' hk h
  unfold gSubA at h ⊢
  split at h
  ·exact subC_mono (fun _ _ _ _ => hk _ _) h
  ·exact subC_mono (fun _ _ _ _ => hk _ _) h
  ·exact subC_mono (fun _ _ _ _ => hk _ _) h
  ·exact h.elim
 ·intro args l K h
  unfold gSubA at h
  split at h
  ·obtain ⟨_, _, _, _, h⟩ := subC_live h
   exact ⟨_, _, h⟩
  ·obtain ⟨_, _, _, _, h⟩ := subC_live h
   exact ⟨_, _, h⟩
  ·obtain ⟨_, _, _, _, h⟩ := subC_live h
   exact ⟨_, _, h⟩
  ·exact h.elim
theorem SubA_ok (args : List SV) (l : List (Nat × Reg)) (K : SV → Mem → Prop) (hK : KUp K) (h : gSubA args l K) : ∃ U, execF cxAdd U Tryz.f53 64 args (memL l) K := by
 unfold gSubA at h
 split at h
 ·rename_i z0 z1 z2 z3 a0 a1 a2 a3 b0 b1 b2 b3
  refine ⟨u0, ?_⟩
  have := vc_SubA0 z0 z1 z2 z3 a0 a1 a2 a3 b0 b1 b2 b3 K
  unfold w4 at this
  rw [this]
  exact subC_of h
 ·rename_i z0 z1 z2 z3 a0 a1 a2 a3
  refine ⟨u0, ?_⟩
  have := vc_SubA1 z0 z1 z2 z3 a0 a1 a2 a3 K
  unfold w4 at this
  rw [this]
  exact subC_of h
 ·rename_i z0 z1 z2 z3 a0 a1 a2 a3
  refine ⟨u0, ?_⟩
  have := vc_SubA2 z0 z1 z2 z3 a0 a1 a2 a3 K
  unfold w4 at this
  rw [this]
  exact subC_of h
 ·exact h.elim
def kSubA : Ef Tryz.prog := mkE mixed 53 Tryz.func53 (by decide) (by kernel_rfl) [] [.ptr 4 false, .ptr 4 true, .ptr 4 true] gSubA SubA_good SubA_ok
theorem bv64 {a : Int} (h : Wd a) : (BitVec.ofInt IntKind.u64.bits a).toNat = a.toNat := by
 unfold Wd at h
 simp only [IntKind.bits, BitVec.toNat_ofInt]
 omega
theorem bor_eq {a b : Int} (ha : Wd a) (hb : Wd b) : bor .u64 a b = ((a.toNat ||| b.toNat : Nat) : Int) ∧ Wd (bor .u64 a b) := by
 have hl : a.toNat ||| b.toNat < 2 ^ 64 := Nat.or_lt_two_pow (by unfold Wd at ha; omega) (by unfold Wd at hb; omega)
 have e : bor .u64 a b = ((a.toNat ||| b.toNat : Nat) : Int) := by
  unfold bor
  rw [BitVec.toNat_or, bv64 ha, bv64 hb, wu64, Int.emod_eq_of_lt (by omega) (by omega)]
 exact ⟨e, by rw [e]; unfold Wd; omega⟩
theorem bxor_eq {a b : Int} (ha : Wd a) (hb : Wd b) : bxor .u64 a b = ((a.toNat ^^^ b.toNat : Nat) : Int) ∧ Wd (bxor .u64 a b) := by
 have hl : a.toNat ^^^ b.toNat < 2 ^ 64 := Nat.xor_lt_two_pow (by unfold Wd at ha; omega) (by unfold Wd at hb; omega)
 have e : bxor .u64 a b = ((a.toNat ^^^ b.toNat : Nat) : Int) := by
  unfold bxor
  rw [BitVec.toNat_xor, bv64 ha, bv64 hb, wu64, Int.emod_eq_of_lt (by omega) (by omega)]
 exact ⟨e, by rw [e]; unfold Wd; omega⟩
theorem band_eq {a b : Int} (ha : Wd a) (hb : Wd b) : band .u64 a b = ((a.toNat &&& b.toNat : Nat) : Int) ∧ Wd (band .u64 a b) := by
 have hl : a.toNat &&& b.toNat ≤ a.toNat := Nat.and_le_left
 have ha' := ha
 unfold Wd at ha'
 have e : band .u64 a b = ((a.toNat &&& b.toNat : Nat) : Int) := by
  unfold band
  rw [BitVec.toNat_and, bv64 ha, bv64 hb, wu64, Int.emod_eq_of_lt (by omega) (by omega)]
 exact ⟨e, by rw [e]; unfold Wd; omega⟩
theorem bor_zero {a b : Int} (ha : Wd a) (hb : Wd b) : Wd (bor .u64 a b) ∧ (bor .u64 a b = 0 ↔ a = 0 ∧ b = 0) := by
 obtain ⟨e, w⟩ := bor_eq ha hb
 refine ⟨w, ?_⟩
 unfold Wd at ha hb
 rw [e]
 have : (a.toNat ||| b.toNat = 0) ↔ a.toNat = 0 ∧ b.toNat = 0 := Nat.or_eq_zero_iff
 omega
theorem xz {a b : Nat} : a ^^^ b = 0 ↔ a = b := by
 constructor
 ·intro h
  apply Nat.eq_of_testBit_eq
  intro i
  have := congrArg (fun x => x.testBit i) h
  simp only [Nat.testBit_xor, Nat.zero_testBit] at this
  revert this
  cases a.testBit i <;> cases b.testBit i <;> simp
 ·rintro rfl
  exact Nat.xor_self a
theorem bxor_zeq {a b : Int} (ha : Wd a) (hb : Wd b) : Wd (bxor .u64 a b) ∧ (bxor .u64 a b = 0 ↔ a = b) := by
 obtain ⟨e, w⟩ := bxor_eq ha hb
 refine ⟨w, ?_⟩
 unfold Wd at ha hb
 rw [e]
 have : (a.toNat ^^^ b.toNat = 0) ↔ a.toNat = b.toNat := xz
 omega
theorem V4_zero {a b c d : Int} (ha : Wd a) (hb : Wd b) (hc : Wd c) (hd : Wd d) : V4 a b c d = 0 ↔ a = 0 ∧ b = 0 ∧ c = 0 ∧ d = 0 := by
 unfold V4 Wd at *
 omega
theorem V4_inj {a b c d a' b' c' d' : Int} (ha : Wd a) (hb : Wd b) (hc : Wd c) (hd : Wd d) (ha' : Wd a') (hb' : Wd b') (hc' : Wd c') (hd' : Wd d') : V4 a b c d = V4 a' b' c' d' ↔ a = a' ∧ b = b' ∧ c = c' ∧ d = d' := by
 unfold V4 Wd at *
 omega
def c4 (c : Ct) (K : Int → Int → Int → Int → Prop) : Prop :=
 match c with
 | .cells [.int .u64 (.sym a), .int .u64 (.sym b), .int .u64 (.sym c), .int .u64 (.sym d)] => K a b c d
 | _ => False
theorem c4_mono {c : Ct} {K K' : Int → Int → Int → Int → Prop} (hk : ∀ a b c d, K a b c d → K' a b c d) (h : c4 c K) : c4 c K' := by
 unfold c4 at h ⊢
 split at h
 ·exact hk _ _ _ _ h
 ·exact h.elim
theorem c4_ex {c : Ct} {K : Int → Int → Int → Int → Prop} (h : c4 c K) : ∃ a b d e, c = w4 a b d e ∧ K a b d e := by
 unfold c4 at h
 split at h
 ·exact ⟨_, _, _, _, rfl, h⟩
 ·exact h.elim
def r4 (c : Ct) (f : Int → Int → Int → Int → Option (Ob × SV)) : Option (Ob × SV) :=
 match c with
 | .cells [.int .u64 (.sym a), .int .u64 (.sym b), .int .u64 (.sym c), .int .u64 (.sym d)] => f a b c d
 | _ => none
theorem r4_ex {c : Ct} {f : Int → Int → Int → Int → Option (Ob × SV)} {x : Ob × SV} (h : r4 c f = some x) : ∃ a b d e, c = w4 a b d e ∧ f a b d e = some x := by
 unfold r4 at h
 split at h
 ·exact ⟨_, _, _, _, rfl, h⟩
 ·cases h
theorem vc_isz (a0 a1 a2 a3 : Int) (K : SV → Mem → Prop) : (execF cx0 u0 Tryz.f68 64 [.ptr 1 (.lit 0)] (memL [(1, ⟨true, w4 a0 a1 a2 a3⟩)]) K) = (∀ a, a = bor .u64 a3 a2 → ∀ b, b = bor .u64 a a1 → ∀ c, c = bor .u64 b a0 → K (.bool (.sym (c
 == 0))) (memL [(1, ⟨true, .cells [.int .u64 (.sym a0), .int .u64 (.sym a1), .int .u64 (.sym a2), .int .u64 (.sym a3)]⟩)])) := by kernel_rfl
theorem vc_iso (a0 a1 a2 a3 : Int) (K : SV → Mem → Prop) : (execF cx0 u0 Tryz.f92 64 [.ptr 1 (.lit 0)] (memL [(1, ⟨true, w4 a0 a1 a2 a3⟩)]) K) = (∀ a, a = bxor .u64 a3 (1011752739694698287 : Int) → ∀ b, b = bxor .u64 a2 (7381016538464732716
 : Int) → ∀ c, c = bor .u64 a b → ∀ d, d = bxor .u64 a1 (754611498739239741 : Int) → ∀ e, e = bor .u64 c d → ∀ f, f = bxor .u64 a0 (15230403791020821917 : Int) → ∀ g, g = bor .u64 e f → K (.bool (.sym (g == 0))) (memL [(1, ⟨true, .cells
 [.int .u64 (.sym a0), .int .u64 (.sym a1), .int .u64 (.sym a2), .int .u64 (.sym a3)]⟩)])) := by kernel_rfl
theorem vc_ne (a0 a1 a2 a3 b0 b1 b2 b3 : Int) (K : SV → Mem → Prop) : (execF cx0 u0 Tryz.f100 64 [.ptr 1 (.lit 0), .ptr 9 (.lit 0)] (memL [(1, ⟨true, w4 a0 a1 a2 a3⟩), (9, ⟨true, w4 b0 b1 b2 b3⟩)]) K) = (∀ a, a = bxor .u64 a3 b3 → ∀ b, b =
 bxor .u64 a2 b2 → ∀ c, c = bor .u64 a b → ∀ d, d = bxor .u64 a1 b1 → ∀ e, e = bor .u64 c d → ∀ f, f = bxor .u64 a0 b0 → ∀ g, g = bor .u64 e f → K (.int .u64 (.sym g)) (memL [(1, ⟨true, .cells [.int .u64 (.sym a0), .int .u64 (.sym a1), .int
 .u64 (.sym a2), .int .u64 (.sym a3)]⟩), (9, ⟨true, .cells [.int .u64 (.sym b0), .int .u64 (.sym b1), .int .u64 (.sym b2), .int .u64 (.sym b3)]⟩)])) := by kernel_rfl
def rIz : R0 := fun args l =>
 match args, l with
 | [.ptr 1 (.lit 0)], [(1, ⟨true, x⟩)] => r4 x fun a b c d => some (some (Wd a ∧ Wd b ∧ Wd c ∧ Wd d), .bool (.sym (decide (V4 a b c d = 0))))
 | _, _ => none
theorem iz_ok (args : List SV) (l : List (Nat × Reg)) (p : Ob) (v : SV) (h : rIz args l = some (p, v)) (hp : p.ok) : ∃ U, execF cx0 U Tryz.f68 64 args (memL l) fun v' _ => ∀ β u, Den β v' u → Den β v u := by
 unfold rIz at h
 split at h
 ·obtain ⟨a, b, c, d, rfl, q⟩ := r4_ex h
  simp only [Option.some.injEq, Prod.mk.injEq] at q
  obtain ⟨rfl, rfl⟩ := q
  obtain ⟨ha, hb, hc, hd⟩ : Wd a ∧ Wd b ∧ Wd c ∧ Wd d := hp
  refine ⟨u0, ?_⟩
  have v := vc_isz a b c d fun v' _ => ∀ β u, Den β v' u → Den β (.bool (.sym (decide (V4 a b c d = 0)))) u
  rw [v]
  intro x0 h0 x1 h1 x2 h2
  obtain ⟨w0, z0⟩ := bor_zero hd hc
  rw [← h0] at w0 z0
  obtain ⟨w1, z1⟩ := bor_zero w0 hb
  rw [← h1] at w1 z1
  obtain ⟨w2, z2⟩ := bor_zero w1 ha
  rw [← h2] at w2 z2
  refine den_bool ?_
  show (x2 == 0) = _
  rw [Bool.eq_iff_iff, beq_iff_eq, decide_eq_true_eq, V4_zero ha hb hc hd, z2, z1, z0]
  constructor
  ·rintro ⟨⟨⟨h1, h2⟩, h3⟩, h4⟩; exact ⟨h4, h3, h2, h1⟩
  ·rintro ⟨h1, h2, h3, h4⟩; exact ⟨⟨⟨h4, h3⟩, h2⟩, h1⟩
 ·cases h
def cIz : Rd Tryz.prog := mkQ mixed 68 Tryz.func68 (by decide) (by kernel_rfl) [] [.ptr 4 true] rIz iz_ok
def one4 : Int := V4 15230403791020821917 754611498739239741 7381016538464732716 1011752739694698287
theorem one_wd : Wd 15230403791020821917 ∧ Wd 754611498739239741 ∧ Wd 7381016538464732716 ∧ Wd 1011752739694698287 := by unfold Wd; omega
theorem ne_chain {a0 a1 a2 a3 b0 b1 b2 b3 x0 x1 x2 x3 x4 x5 x6 : Int} (ha : Wd a0 ∧ Wd a1 ∧ Wd a2 ∧ Wd a3) (hb : Wd b0 ∧ Wd b1 ∧ Wd b2 ∧ Wd b3) (h0 : x0 = bxor .u64 a3 b3) (h1 : x1 = bxor .u64 a2 b2) (h2 : x2 = bor .u64 x0 x1) (h3 : x3 = bxor .u64 a1 b1) (h4 : x4 = bor .u64 x2 x3) (h5 : x5 = bxor .u64 a0 b0) (h6 : x6 = bor .u64 x4 x5) :
  Wd x6 ∧ (x6 = 0 ↔ V4 a0 a1 a2 a3 = V4 b0 b1 b2 b3) := by
 obtain ⟨a0w, a1w, a2w, a3w⟩ := ha
 obtain ⟨b0w, b1w, b2w, b3w⟩ := hb
 obtain ⟨w0, z0⟩ := bxor_zeq a3w b3w
 rw [← h0] at w0 z0
 obtain ⟨w1, z1⟩ := bxor_zeq a2w b2w
 rw [← h1] at w1 z1
 obtain ⟨w2, z2⟩ := bor_zero w0 w1
 rw [← h2] at w2 z2
 obtain ⟨w3, z3⟩ := bxor_zeq a1w b1w
 rw [← h3] at w3 z3
 obtain ⟨w4, z4⟩ := bor_zero w2 w3
 rw [← h4] at w4 z4
 obtain ⟨w5, z5⟩ := bxor_zeq a0w b0w
 rw [← h5] at w5 z5
 obtain ⟨w6, z6⟩ := bor_zero w4 w5
 rw [← h6] at w6 z6
 refine ⟨w6, ?_⟩
 rw [V4_inj a0w a1w a2w a3w b0w b1w b2w b3w, z6, z4, z2, z0, z1, z3, z5]
 constructor
 ·rintro ⟨⟨⟨h1, h2⟩, h3⟩, h4⟩; exact ⟨h4, h3, h2, h1⟩
 ·rintro ⟨h1, h2, h3, h4⟩; exact ⟨⟨⟨h4, h3⟩, h2⟩, h1⟩
def rIo : R0 := fun args l =>
 match args, l with
 | [.ptr 1 (.lit 0)], [(1, ⟨true, x⟩)] => r4 x fun a b c d => some (some (Wd a ∧ Wd b ∧ Wd c ∧ Wd d), .bool (.sym (decide (V4 a b c d = one4))))
 | _, _ => none
theorem io_ok (args : List SV) (l : List (Nat × Reg)) (p : Ob) (v : SV) (h : rIo args l = some (p, v)) (hp : p.ok) : ∃ U, execF cx0 U Tryz.f92 64 args (memL l) fun v' _ => ∀ β u, Den β v' u → Den β v u := by
 unfold rIo at h
 split at h
 ·obtain ⟨a, b, c, d, rfl, q⟩ := r4_ex h
  simp only [Option.some.injEq, Prod.mk.injEq] at q
  obtain ⟨rfl, rfl⟩ := q
  have hw : Wd a ∧ Wd b ∧ Wd c ∧ Wd d := hp
  refine ⟨u0, ?_⟩
  have v := vc_iso a b c d fun v' _ => ∀ β u, Den β v' u → Den β (.bool (.sym (decide (V4 a b c d = one4)))) u
  rw [v]
  intro x0 h0 x1 h1 x2 h2 x3 h3 x4 h4 x5 h5 x6 h6
  refine den_bool ?_
  show (x6 == 0) = _
  rw [Bool.eq_iff_iff, beq_iff_eq, decide_eq_true_eq]
  exact (ne_chain hw one_wd h0 h1 h2 h3 h4 h5 h6).2
 ·cases h
def cIo : Rd Tryz.prog := mkQ mixed 92 Tryz.func92 (by decide) (by kernel_rfl) [] [.ptr 4 true] rIo io_ok
def neW (a0 a1 a2 a3 b0 b1 b2 b3 : Int) : Int := bor .u64 (bor .u64 (bor .u64 (bxor .u64 a3 b3) (bxor .u64 a2 b2)) (bxor .u64 a1 b1)) (bxor .u64 a0 b0)
theorem neW_zero {a0 a1 a2 a3 b0 b1 b2 b3 : Int} (ha : Wd a0 ∧ Wd a1 ∧ Wd a2 ∧ Wd a3) (hb : Wd b0 ∧ Wd b1 ∧ Wd b2 ∧ Wd b3) : neW a0 a1 a2 a3 b0 b1 b2 b3 = 0 ↔ V4 a0 a1 a2 a3 = V4 b0 b1 b2 b3 :=
 (ne_chain ha hb rfl rfl rfl rfl rfl rfl rfl).2
def rNe : R0 := fun args l =>
 match args, l with
 | [.ptr 1 (.lit 0), .ptr 9 (.lit 0)], [(1, ⟨true, x⟩), (9, ⟨true, y⟩)] => r4 x fun a b c d => r4 y fun a' b' c' d' => some (none, .int .u64 (.sym (neW a b c d a' b' c' d')))
 | _, _ => none
theorem ne_ok (args : List SV) (l : List (Nat × Reg)) (p : Ob) (v : SV) (h : rNe args l = some (p, v)) (hp : p.ok) : ∃ U, execF cx0 U Tryz.f100 64 args (memL l) fun v' _ => v' = v := by
 unfold rNe at h
 split at h
 ·obtain ⟨a, b, c, d, rfl, q⟩ := r4_ex h
  obtain ⟨a', b', c', d', rfl, q2⟩ := r4_ex q
  simp only [Option.some.injEq, Prod.mk.injEq] at q2
  obtain ⟨rfl, rfl⟩ := q2
  refine ⟨u0, ?_⟩
  rw [vc_ne a b c d a' b' c' d']
  rintro _ rfl _ rfl _ rfl _ rfl _ rfl _ rfl _ rfl
  rfl
 ·cases h
def cNe : Rd Tryz.prog := mkR mixed 100 Tryz.func100 (by decide) (by kernel_rfl) [] [.ptr 4 true, .ptr 4 true] rNe ne_ok
def cxEq : Cx Tryz.prog := { rds := [cNe], efs := [], eqs := [] }
theorem vc_eq (a0 a1 a2 a3 b0 b1 b2 b3 : Int) (K : SV → Mem → Prop) : (execF cxEq u0 Tryz.f70 64 [.ptr 1 (.lit 0), .ptr 9 (.lit 0)] (memL [(1, ⟨true, w4 a0 a1 a2 a3⟩), (9, ⟨true, w4 b0 b1 b2 b3⟩)]) K) = (∀ x, x = neW a0 a1 a2 a3 b0 b1 b2 b3
 → K (.bool (.sym (x == 0))) (memL [(1, ⟨true, w4 a0 a1 a2 a3⟩), (9, ⟨true, w4 b0 b1 b2 b3⟩)])) := by kernel_rfl
def rEq : R0 := fun args l =>
 match args, l with
 | [.ptr 1 (.lit 0), .ptr 9 (.lit 0)], [(1, ⟨true, x⟩), (9, ⟨true, y⟩)] => r4 x fun a b c d => r4 y fun a' b' c' d' => some (some ((Wd a ∧ Wd b ∧ Wd c ∧ Wd d) ∧ Wd a' ∧ Wd b' ∧ Wd c' ∧ Wd d'), .bool (.sym (decide (V4 a b c d = V4 a' b' c' d'))))
 | _, _ => none
theorem eq_ok (args : List SV) (l : List (Nat × Reg)) (p : Ob) (v : SV) (h : rEq args l = some (p, v)) (hp : p.ok) : ∃ U, execF cxEq U Tryz.f70 64 args (memL l) fun v' _ => ∀ β u, Den β v' u → Den β v u := by
 unfold rEq at h
 split at h
 ·obtain ⟨a, b, c, d, rfl, q⟩ := r4_ex h
  obtain ⟨a', b', c', d', rfl, q2⟩ := r4_ex q
  simp only [Option.some.injEq, Prod.mk.injEq] at q2
  obtain ⟨rfl, rfl⟩ := q2
  obtain ⟨ha, hb⟩ : (Wd a ∧ Wd b ∧ Wd c ∧ Wd d) ∧ Wd a' ∧ Wd b' ∧ Wd c' ∧ Wd d' := hp
  refine ⟨u0, ?_⟩
  rw [vc_eq a b c d a' b' c' d']
  rintro x rfl
  refine den_bool ?_
  show (neW _ _ _ _ _ _ _ _ == 0) = _
  rw [Bool.eq_iff_iff, beq_iff_eq, decide_eq_true_eq, neW_zero ha hb]
 ·cases h
def cEq : Rd Tryz.prog := mkQ mixed 70 Tryz.func70 (by decide) (by kernel_rfl) [] [.ptr 4 true, .ptr 4 true] rEq eq_ok
theorem vc_set (a0 a1 a2 a3 b0 b1 b2 b3 : Int) (K : SV → Mem → Prop) : (execF cx0 u0 Tryz.f67 64 [.ptr 1 (.lit 0), .ptr 9 (.lit 0)] (memL [(1, ⟨false, w4 a0 a1 a2 a3⟩), (9, ⟨true, w4 b0 b1 b2 b3⟩)]) K) = K (.ptr 1 (.lit 0)) (memL [(1,
 ⟨false, .cells [.int .u64 (.sym b0), .int .u64 (.sym b1), .int .u64 (.sym b2), .int .u64 (.sym b3)]⟩), (9, ⟨true, .cells [.int .u64 (.sym b0), .int .u64 (.sym b1), .int .u64 (.sym b2), .int .u64 (.sym b3)]⟩)]) := by kernel_rfl
theorem vc_so (a0 a1 a2 a3 : Int) (K : SV → Mem → Prop) : (execF cx0 u0 Tryz.f49 64 [.ptr 1 (.lit 0)] (memL [(1, ⟨false, w4 a0 a1 a2 a3⟩)]) K) = K (.ptr 1 (.lit 0)) (memL [(1, ⟨false, .cells [.int .u64 (.lit 15230403791020821917), .int .u64
 (.lit 754611498739239741), .int .u64 (.lit 7381016538464732716), .int .u64 (.lit 1011752739694698287)]⟩)]) := by kernel_rfl
def gSet : G0 := fun args l K =>
 match args, l with
 | [.ptr 1 (.lit 0), .ptr 9 (.lit 0)], [(1, ⟨false, z⟩), (9, ⟨true, x⟩)] => c4 z fun _ _ _ _ => c4 x fun a0 a1 a2 a3 => K (.ptr 1 (.lit 0)) (memL [(1, ⟨false, w4 a0 a1 a2 a3⟩), (9, ⟨true, w4 a0 a1 a2 a3⟩)])
 | _, _ => False
theorem set_good : Good gSet := by
 constructor
 ·intro args l K K' hk h
  unfold gSet at h ⊢
  split at h
  ·exact c4_mono (fun _ _ _ _ h => c4_mono (fun _ _ _ _ h => hk _ _ h) h) h
  ·exact h.elim
 ·intro args l K h
  unfold gSet at h
  split at h
  ·obtain ⟨_, _, _, _, _, h⟩ := c4_ex h
   obtain ⟨_, _, _, _, _, h⟩ := c4_ex h
   exact ⟨_, _, h⟩
  ·exact h.elim
theorem set_ok (args : List SV) (l : List (Nat × Reg)) (K : SV → Mem → Prop) (hup : KUp K) (h : gSet args l K) : ∃ U, execF cx0 U Tryz.f67 64 args (memL l) K := by
 unfold gSet at h
 split at h
 ·obtain ⟨z0, z1, z2, z3, rfl, q0⟩ := c4_ex h
  obtain ⟨a0, a1, a2, a3, rfl, q1⟩ := c4_ex q0
  refine ⟨u0, ?_⟩
  rw [vc_set z0 z1 z2 z3 a0 a1 a2 a3]
  exact q1
 ·exact h.elim
def kSet : Ef Tryz.prog := mkE mixed 67 Tryz.func67 (by decide) (by kernel_rfl) [] [.ptr 4 false, .ptr 4 true] gSet set_good set_ok
def gSo : G0 := fun args l K =>
 match args, l with
 | [.ptr 1 (.lit 0)], [(1, ⟨false, z⟩)] => c4 z fun _ _ _ _ => K (.ptr 1 (.lit 0)) (memL [(1, ⟨false, .cells [.int .u64 (.lit 15230403791020821917), .int .u64 (.lit 754611498739239741), .int .u64 (.lit 7381016538464732716), .int .u64 (.lit 1011752739694698287)]⟩)])
 | _, _ => False
theorem so_good : Good gSo := by
 constructor
 ·intro args l K K' hk h
  unfold gSo at h ⊢
  split at h
  ·exact c4_mono (fun _ _ _ _ h => hk _ _ h) h
  ·exact h.elim
 ·intro args l K h
  unfold gSo at h
  split at h
  ·obtain ⟨_, _, _, _, _, h⟩ := c4_ex h
   exact ⟨_, _, h⟩
  ·exact h.elim
theorem so_ok (args : List SV) (l : List (Nat × Reg)) (K : SV → Mem → Prop) (hup : KUp K) (h : gSo args l K) : ∃ U, execF cx0 U Tryz.f49 64 args (memL l) K := by
 unfold gSo at h
 split at h
 ·obtain ⟨z0, z1, z2, z3, rfl, q0⟩ := c4_ex h
  refine ⟨u0, ?_⟩
  rw [vc_so z0 z1 z2 z3]
  exact q0
 ·exact h.elim
def kSo : Ef Tryz.prog := mkE mixed 49 Tryz.func49 (by decide) (by kernel_rfl) [] [.ptr 4 false] gSo so_good so_ok
def cxNeg : Cx Tryz.prog := { rds := [cSub, cIz], efs := [cSz], eqs := [] }
theorem vc_neg (a0 a1 a2 a3 b0 b1 b2 b3 : Int) (K : SV → Mem → Prop) : (execF cxNeg u0 Tryz.f60 64 [.ptr 1 (.lit 0), .ptr 9 (.lit 0)] (memL [(1, ⟨false, w4 a0 a1 a2 a3⟩), (9, ⟨true, w4 b0 b1 b2 b3⟩)]) K) = ((Wd b0 ∧ Wd b1 ∧ Wd b2 ∧ Wd b3) ∧
 (decide (V4 b0 b1 b2 b3 = 0) = true → K (.ptr 1 (.lit 0)) (memL [(1, ⟨false, .cells [.int .u64 (.sym 0), .int .u64 (.sym 0), .int .u64 (.sym 0), .int .u64 (.sym 0)]⟩), (9, ⟨true, .cells [.int .u64 (.sym b0), .int .u64 (.sym b1), .int .u64
 (.sym b2), .int .u64 (.sym b3)]⟩)])) ∧ (decide (V4 b0 b1 b2 b3 = 0) = false → ((Wd (4332616871279656263 : Int) ∧ Wd b0 ∧ (0 : Int) ≤ (0 : Int) ∧ (0 : Int) ≤ (1 : Int)) ∧ ∀ d, d = difLo (4332616871279656263 : Int) b0 (0 : Int) → ∀ a, a =
 difHi (4332616871279656263 : Int) b0 (0 : Int) → ((Wd (10917124144477883021 : Int) ∧ Wd b1 ∧ 0 ≤ a ∧ a ≤ 1) ∧ ∀ e, e = difLo (10917124144477883021 : Int) b1 a → ∀ b, b = difHi (10917124144477883021 : Int) b1 a → ((Wd (13281191951274694749
 : Int) ∧ Wd b2 ∧ 0 ≤ b ∧ b ≤ 1) ∧ ∀ f, f = difLo (13281191951274694749 : Int) b2 b → ∀ c, c = difHi (13281191951274694749 : Int) b2 b → ((Wd (3486998266802970665 : Int) ∧ Wd b3 ∧ 0 ≤ c ∧ c ≤ 1) ∧ ∀ g, g = difLo (3486998266802970665 : Int)
 b3 c → ∀ h, h = difHi (3486998266802970665 : Int) b3 c → K (.ptr 1 (.lit 0)) (memL [(1, ⟨false, .cells [.int .u64 (.sym d), .int .u64 (.sym e), .int .u64 (.sym f), .int .u64 (.sym g)]⟩), (9, ⟨true, .cells [.int .u64 (.sym b0), .int .u64
 (.sym b1), .int .u64 (.sym b2), .int .u64 (.sym b3)]⟩)]))))))) := by kernel_rfl
def negN (x : Nat) : Nat := (qN - x) % qN
theorem negN_lt (x : Nat) : negN x < qN := Nat.mod_lt _ (by decide)
theorem neg_of {b0 b1 b2 b3 : Int} {x : Nat} {K : SV → Mem → Prop} (hx : El b0 b1 b2 b3 x) (a0 a1 a2 a3 : Int) (hK : ∀ r, r = negN x → K (.ptr 1 (.lit 0)) (memL [(1, ⟨false, e4 r⟩), (9, ⟨true, w4 b0 b1 b2 b3⟩)])) (hup : KUp K) :
  execF cxNeg u0 Tryz.f60 64 [.ptr 1 (.lit 0), .ptr 9 (.lit 0)] (memL [(1, ⟨false, w4 a0 a1 a2 a3⟩), (9, ⟨true, w4 b0 b1 b2 b3⟩)]) K := by
 rw [vc_neg]
 have hw := hx.wd
 have hv := hx.val
 have hl := hx.lt
 refine ⟨hw, fun h => ?_, fun h => ?_⟩
 ·simp only [decide_eq_true_eq] at h
  have hx0 : x = 0 := by omega
  have := hK 0 (by unfold negN; rw [hx0]; simp)
  have e0 : ∀ i, lm 0 i = 0 := fun i => by
   unfold lm
   simp
  unfold e4 at this
  simp only [e0] at this
  exact this
 ·simp only [decide_eq_false_iff_not] at h
  obtain ⟨hb0, hb1, hb2, hb3⟩ := hw
  have hS : SubS 4332616871279656263 b0 0 fun s0 k0 => SubS 10917124144477883021 b1 k0 fun s1 k1 => SubS 13281191951274694749 b2 k1 fun s2 k2 => SubS 3486998266802970665 b3 k2 fun s3 _ => K (.ptr 1 (.lit 0)) (memL [(1, ⟨false, w4 s0 s1 s2 s3⟩), (9, ⟨true, w4 b0 b1 b2 b3⟩)]) := by
   refine SubS.of wdq0 hb0 (Int.le_refl _) (by decide) fun s0 k0 c0 c1 c2 c3 => ?_
   refine SubS.of wdq1 hb1 c1 c2 fun s1 k1 d0 d1 d2 d3 => ?_
   refine SubS.of wdq2 hb2 d1 d2 fun s2 k2 e0 e1 e2 e3 => ?_
   refine SubS.of wdq3 hb3 e1 e2 fun s3 k3 f0 f1 f2 f3 => ?_
   have e := subp_eq c3 d3 e3 f3
   rw [hv] at e
   have n0 := V4_nonneg c0 d0 e0 f0
   have n1 := V4_lt c0 d0 e0 f0
   have e2 : V4 4332616871279656263 10917124144477883021 13281191951274694749 3486998266802970665 = 21888242871839275222246405745257275088696311157297823662689037894645226208583 := by unfold V4; omega
   rw [e2] at e
   have er : V4 s0 s1 s2 s3 = ((negN x : Nat) : Int) := by
    have : negN x = qN - x := Nat.mod_eq_of_lt (by unfold qN at *; omega)
    rw [this]
    unfold qN at *
    omega
   obtain ⟨q0, q1, q2, q3⟩ := lm_of c0 d0 e0 f0 er
   rw [q0, q1, q2, q3]
   exact hK _ rfl
  exact hS
def gNeg : G0 := fun args l K =>
 match args, l with
 | [.ptr 1 (.lit 0), .ptr 9 (.lit 0)], [(1, ⟨false, z⟩), (9, ⟨true, x⟩)] => c4 z fun _ _ _ _ => c4 x fun a0 a1 a2 a3 => ∃ x, El a0 a1 a2 a3 x ∧ ∀ r, r = negN x → ∀ y0 y1 y2 y3, El y0 y1 y2 y3 r → K (.ptr 1 (.lit 0)) (memL [(1, ⟨false, w4 y0 y1 y2 y3⟩), (9, ⟨true, w4 a0 a1 a2 a3⟩)])
 | _, _ => False
theorem neg_good : Good gNeg := by
 constructor
 ·intro args l K K' hk h
  unfold gNeg at h ⊢
  split at h
  ·exact c4_mono (fun _ _ _ _ h => c4_mono (fun _ _ _ _ h => h.elim fun x h => ⟨x, h.1, fun r hr y0 y1 y2 y3 hy => hk _ _ (h.2 r hr y0 y1 y2 y3 hy)⟩) h) h
  ·exact h.elim
 ·intro args l K h
  unfold gNeg at h
  split at h
  ·obtain ⟨_, _, _, _, _, h⟩ := c4_ex h
   obtain ⟨_, _, _, _, _, h⟩ := c4_ex h
   obtain ⟨x, _, h⟩ := h
   exact ⟨_, _, h _ rfl _ _ _ _ (El.of (negN_lt x))⟩
  ·exact h.elim
theorem neg_ok (args : List SV) (l : List (Nat × Reg)) (K : SV → Mem → Prop) (hup : KUp K) (h : gNeg args l K) : ∃ U, execF cxNeg U Tryz.f60 64 args (memL l) K := by
 unfold gNeg at h
 split at h
 ·obtain ⟨z0, z1, z2, z3, rfl, q0⟩ := c4_ex h
  obtain ⟨a0, a1, a2, a3, rfl, q1⟩ := c4_ex q0
  obtain ⟨x, hx, hK⟩ := q1
  exact ⟨u0, neg_of hx z0 z1 z2 z3 (fun r hr => hK r hr _ _ _ _ (El.of (by rw [hr]; exact negN_lt x))) hup⟩
 ·exact h.elim
def kNeg : Ef Tryz.prog := mkE mixed 60 Tryz.func60 (by decide) (by kernel_rfl) [] [.ptr 4 false, .ptr 4 true] gNeg neg_good neg_ok
theorem vc_sel0 (z0 z1 z2 z3 a0 a1 a2 a3 b0 b1 b2 b3 s : Int) (K : SV → Mem → Prop) : (execF cx0 u0 Tryz.f57 64 [.ptr 1 (.lit 0), .int .i64 (.sym s), .ptr 9 (.lit 0), .ptr 17 (.lit 0)] (memL [(1, ⟨false, w4 z0 z1 z2 z3⟩), (9, ⟨true, w4 a0
 a1 a2 a3⟩), (17, ⟨true, w4 b0 b1 b2 b3⟩)]) K) = (∀ b, b = IntKind.wrap IntKind.i64 (0 - s) → ∀ c, c = bor .i64 s b → ∀ d, d = shrv .i64 c 63 → ∀ a, a = IntKind.wrap IntKind.u64 d → ∀ e, e = bxor .u64 a0 b0 → ∀ f, f = band .u64 a e → ∀ g, g
 = bxor .u64 a0 f → ∀ h, h = bxor .u64 a1 b1 → ∀ i, i = band .u64 a h → ∀ j, j = bxor .u64 a1 i → ∀ k, k = bxor .u64 a2 b2 → ∀ l, l = band .u64 a k → ∀ m, m = bxor .u64 a2 l → ∀ n, n = bxor .u64 a3 b3 → ∀ o, o = band .u64 a n → ∀ p, p =
 bxor .u64 a3 o → K (.ptr 1 (.lit 0)) (memL [(1, ⟨false, .cells [.int .u64 (.sym g), .int .u64 (.sym j), .int .u64 (.sym m), .int .u64 (.sym p)]⟩), (9, ⟨true, .cells [.int .u64 (.sym a0), .int .u64 (.sym a1), .int .u64 (.sym a2), .int .u64
 (.sym a3)]⟩), (17, ⟨true, .cells [.int .u64 (.sym b0), .int .u64 (.sym b1), .int .u64 (.sym b2), .int .u64 (.sym b3)]⟩)])) := by kernel_rfl
theorem vc_sel1 (z0 z1 z2 z3 a0 a1 a2 a3 s : Int) (K : SV → Mem → Prop) : (execF cx0 u0 Tryz.f57 64 [.ptr 1 (.lit 0), .int .i64 (.sym s), .ptr 9 (.lit 0), .ptr 1 (.lit 0)] (memL [(1, ⟨false, w4 z0 z1 z2 z3⟩), (9, ⟨true, w4 a0 a1 a2 a3⟩)])
 K) = (∀ b, b = IntKind.wrap IntKind.i64 (0 - s) → ∀ c, c = bor .i64 s b → ∀ d, d = shrv .i64 c 63 → ∀ a, a = IntKind.wrap IntKind.u64 d → ∀ e, e = bxor .u64 a0 z0 → ∀ f, f = band .u64 a e → ∀ g, g = bxor .u64 a0 f → ∀ h, h = bxor .u64 a1
 z1 → ∀ i, i = band .u64 a h → ∀ j, j = bxor .u64 a1 i → ∀ k, k = bxor .u64 a2 z2 → ∀ l, l = band .u64 a k → ∀ m, m = bxor .u64 a2 l → ∀ n, n = bxor .u64 a3 z3 → ∀ o, o = band .u64 a n → ∀ p, p = bxor .u64 a3 o → K (.ptr 1 (.lit 0)) (memL
 [(1, ⟨false, .cells [.int .u64 (.sym g), .int .u64 (.sym j), .int .u64 (.sym m), .int .u64 (.sym p)]⟩), (9, ⟨true, .cells [.int .u64 (.sym a0), .int .u64 (.sym a1), .int .u64 (.sym a2), .int .u64 (.sym a3)]⟩)])) := by kernel_rfl
theorem vc_sel2 (z0 z1 z2 z3 b0 b1 b2 b3 s : Int) (K : SV → Mem → Prop) : (execF cx0 u0 Tryz.f57 64 [.ptr 1 (.lit 0), .int .i64 (.sym s), .ptr 1 (.lit 0), .ptr 9 (.lit 0)] (memL [(1, ⟨false, w4 z0 z1 z2 z3⟩), (9, ⟨true, w4 b0 b1 b2 b3⟩)])
 K) = (∀ b, b = IntKind.wrap IntKind.i64 (0 - s) → ∀ c, c = bor .i64 s b → ∀ d, d = shrv .i64 c 63 → ∀ a, a = IntKind.wrap IntKind.u64 d → ∀ e, e = bxor .u64 z0 b0 → ∀ f, f = band .u64 a e → ∀ g, g = bxor .u64 z0 f → ∀ h, h = bxor .u64 z1
 b1 → ∀ i, i = band .u64 a h → ∀ j, j = bxor .u64 z1 i → ∀ k, k = bxor .u64 z2 b2 → ∀ l, l = band .u64 a k → ∀ m, m = bxor .u64 z2 l → ∀ n, n = bxor .u64 z3 b3 → ∀ o, o = band .u64 a n → ∀ p, p = bxor .u64 z3 o → K (.ptr 1 (.lit 0)) (memL
 [(1, ⟨false, .cells [.int .u64 (.sym g), .int .u64 (.sym j), .int .u64 (.sym m), .int .u64 (.sym p)]⟩), (9, ⟨true, .cells [.int .u64 (.sym b0), .int .u64 (.sym b1), .int .u64 (.sym b2), .int .u64 (.sym b3)]⟩)])) := by kernel_rfl
theorem wd_max : Wd 18446744073709551615 := by unfold Wd; omega
theorem bxor_bxor {b c : Int} (hb : Wd b) (hc : Wd c) : bxor .u64 b (bxor .u64 b c) = c := by
 obtain ⟨e, w⟩ := bxor_eq hb hc
 obtain ⟨e2, _⟩ := bxor_eq hb w
 rw [e2, e, Int.toNat_natCast, ← Nat.xor_assoc, Nat.xor_self, Nat.zero_xor]
 unfold Wd at hc
 omega
theorem band_max {c : Int} (hc : Wd c) : band .u64 18446744073709551615 c = c := by
 obtain ⟨e, _⟩ := band_eq wd_max hc
 rw [e, show (18446744073709551615 : Int).toNat = 2 ^ 64 - 1 from rfl, Nat.and_comm, Nat.and_two_pow_sub_one_eq_mod, Nat.mod_eq_of_lt (by unfold Wd at hc; omega)]
 unfold Wd at hc
 omega
theorem sel_word {b c m : Int} (hb : Wd b) (hc : Wd c) : (m = 0 → bxor .u64 b (band .u64 m (bxor .u64 b c)) = b) ∧ (m = 18446744073709551615 → bxor .u64 b (band .u64 m (bxor .u64 b c)) = c) := by
 have w := (bxor_eq hb hc).2
 constructor
 ·rintro rfl
  obtain ⟨e, w2⟩ := band_eq wd0 w
  obtain ⟨e2, _⟩ := bxor_eq hb w2
  rw [e2, e, show (0 : Int).toNat = 0 from rfl, Nat.zero_and, show ((0 : Nat) : Int).toNat = 0 from rfl, Nat.xor_zero]
  unfold Wd at hb
  omega
 ·rintro rfl
  rw [band_max w, bxor_bxor hb hc]
theorem sel_mask {s x0 x1 x2 x3 : Int} (hs : s = 0 ∨ s = 1 ∨ s = -1) (h0 : x0 = IntKind.i64.wrap (0 - s)) (h1 : x1 = bor .i64 s x0) (h2 : x2 = shrv .i64 x1 63) (h3 : x3 = IntKind.u64.wrap x2) : (s = 0 → x3 = 0) ∧ (s ≠ 0 → x3 = 18446744073709551615) := by
 rcases hs with rfl | rfl | rfl
 ·exact ⟨fun _ => by rw [h3, h2, h1, h0]; decide +kernel, fun h => absurd rfl h⟩
 ·exact ⟨fun h => absurd h (by decide), fun _ => by rw [h3, h2, h1, h0]; decide +kernel⟩
 ·exact ⟨fun h => absurd h (by decide), fun _ => by rw [h3, h2, h1, h0]; decide +kernel⟩
theorem sel_of {a0 a1 a2 a3 b0 b1 b2 b3 s : Int} {K : Int → Int → Int → Int → Prop} (hs : s = 0 ∨ s = 1 ∨ s = -1) (ha : Wd a0 ∧ Wd a1 ∧ Wd a2 ∧ Wd a3) (hb : Wd b0 ∧ Wd b1 ∧ Wd b2 ∧ Wd b3) (h0 : s = 0 → K a0 a1 a2 a3) (h1 : s ≠ 0 → K b0 b1 b2 b3) :
  ∀ x0, x0 = IntKind.i64.wrap (0 - s) → ∀ x1, x1 = bor .i64 s x0 → ∀ x2, x2 = shrv .i64 x1 63 → ∀ x3, x3 = IntKind.u64.wrap x2 → ∀ x4, x4 = bxor .u64 a0 b0 → ∀ x5, x5 = band .u64 x3 x4 → ∀ x6, x6 = bxor .u64 a0 x5 → ∀ x7, x7 = bxor .u64 a1 b1 → ∀ x8, x8 = band .u64 x3 x7 → ∀ x9, x9 = bxor .u64 a1 x8 →
  ∀ x10, x10 = bxor .u64 a2 b2 → ∀ x11, x11 = band .u64 x3 x10 → ∀ x12, x12 = bxor .u64 a2 x11 → ∀ x13, x13 = bxor .u64 a3 b3 → ∀ x14, x14 = band .u64 x3 x13 → ∀ x15, x15 = bxor .u64 a3 x14 → K x6 x9 x12 x15 := by
 intro x0 e0 x1 e1 x2 e2 x3 e3
 obtain ⟨m0, m1⟩ := sel_mask hs e0 e1 e2 e3
 rintro _ rfl _ rfl _ rfl _ rfl _ rfl _ rfl _ rfl _ rfl _ rfl _ rfl _ rfl _ rfl
 by_cases h : s = 0
 ·rw [(sel_word ha.1 hb.1).1 (m0 h), (sel_word ha.2.1 hb.2.1).1 (m0 h), (sel_word ha.2.2.1 hb.2.2.1).1 (m0 h), (sel_word ha.2.2.2 hb.2.2.2).1 (m0 h)]
  exact h0 h
 ·rw [(sel_word ha.1 hb.1).2 (m1 h), (sel_word ha.2.1 hb.2.1).2 (m1 h), (sel_word ha.2.2.1 hb.2.2.1).2 (m1 h), (sel_word ha.2.2.2 hb.2.2.2).2 (m1 h)]
  exact h1 h
def selC (s a0 a1 a2 a3 b0 b1 b2 b3 : Int) (K : Int → Int → Int → Int → Prop) : Prop :=
 ((s = 0 ∨ s = 1 ∨ s = -1) ∧ (Wd a0 ∧ Wd a1 ∧ Wd a2 ∧ Wd a3) ∧ Wd b0 ∧ Wd b1 ∧ Wd b2 ∧ Wd b3) ∧ (s = 0 → K a0 a1 a2 a3) ∧ (s ≠ 0 → K b0 b1 b2 b3)
theorem selC_mono {s a0 a1 a2 a3 b0 b1 b2 b3 : Int} {K K' : Int → Int → Int → Int → Prop} (hk : ∀ a b c d, K a b c d → K' a b c d) (h : selC s a0 a1 a2 a3 b0 b1 b2 b3 K) : selC s a0 a1 a2 a3 b0 b1 b2 b3 K' :=
 ⟨h.1, fun e => hk _ _ _ _ (h.2.1 e), fun e => hk _ _ _ _ (h.2.2 e)⟩
theorem selC_live {s a0 a1 a2 a3 b0 b1 b2 b3 : Int} {K : Int → Int → Int → Int → Prop} (h : selC s a0 a1 a2 a3 b0 b1 b2 b3 K) : ∃ a b c d, K a b c d := by
 by_cases e : s = 0
 ·exact ⟨_, _, _, _, h.2.1 e⟩
 ·exact ⟨_, _, _, _, h.2.2 e⟩
def gSel : G0 := fun args l K =>
 match args, l with
 | [.ptr 1 (.lit 0), .int .i64 (.sym s), .ptr 9 (.lit 0), .ptr 17 (.lit 0)], [(1, ⟨false, rz⟩), (9, ⟨true, ra⟩), (17, ⟨true, rb⟩)] => c4 rz fun _ _ _ _ => c4 ra fun a0 a1 a2 a3 => c4 rb fun b0 b1 b2 b3 => selC s a0 a1 a2 a3 b0 b1 b2 b3 fun y0 y1 y2 y3 => K (.ptr 1 (.lit 0)) (memL [(1, ⟨false, w4 y0 y1 y2 y3⟩), (9, ⟨true, w4 a0 a1 a2 a3⟩), (17, ⟨true, w4 b0 b1 b2 b3⟩)])
 | [.ptr 1 (.lit 0), .int .i64 (.sym s), .ptr 9 (.lit 0), .ptr 1 (.lit 0)], [(1, ⟨false, rz⟩), (9, ⟨true, ra⟩)] => c4 rz fun z0 z1 z2 z3 => c4 ra fun a0 a1 a2 a3 => selC s a0 a1 a2 a3 z0 z1 z2 z3 fun y0 y1 y2 y3 => K (.ptr 1 (.lit 0)) (memL [(1, ⟨false, w4 y0 y1 y2 y3⟩), (9, ⟨true, w4 a0 a1 a2 a3⟩)])
 | [.ptr 1 (.lit 0), .int .i64 (.sym s), .ptr 1 (.lit 0), .ptr 9 (.lit 0)], [(1, ⟨false, rz⟩), (9, ⟨true, rb⟩)] => c4 rz fun z0 z1 z2 z3 => c4 rb fun b0 b1 b2 b3 => selC s z0 z1 z2 z3 b0 b1 b2 b3 fun y0 y1 y2 y3 => K (.ptr 1 (.lit 0)) (memL [(1, ⟨false, w4 y0 y1 y2 y3⟩), (9, ⟨true, w4 b0 b1 b2 b3⟩)])
 | _, _ => False
theorem sel_good : Good gSel := by
 constructor
 ·intro args l K K' hk h
  unfold gSel at h ⊢
  split at h
  ·exact c4_mono (fun _ _ _ _ h => c4_mono (fun _ _ _ _ h => c4_mono (fun _ _ _ _ h => selC_mono (fun _ _ _ _ => hk _ _) h) h) h) h
  ·exact c4_mono (fun _ _ _ _ h => c4_mono (fun _ _ _ _ h => selC_mono (fun _ _ _ _ => hk _ _) h) h) h
  ·exact c4_mono (fun _ _ _ _ h => c4_mono (fun _ _ _ _ h => selC_mono (fun _ _ _ _ => hk _ _) h) h) h
  ·exact h.elim
 ·intro args l K h
  unfold gSel at h
  split at h
  ·obtain ⟨_, _, _, _, _, h⟩ := c4_ex h
   obtain ⟨_, _, _, _, _, h⟩ := c4_ex h
   obtain ⟨_, _, _, _, _, h⟩ := c4_ex h
   obtain ⟨_, _, _, _, h⟩ := selC_live h
   exact ⟨_, _, h⟩
  ·obtain ⟨_, _, _, _, _, h⟩ := c4_ex h
   obtain ⟨_, _, _, _, _, h⟩ := c4_ex h
   obtain ⟨_, _, _, _, h⟩ := selC_live h
   exact ⟨_, _, h⟩
  ·obtain ⟨_, _, _, _, _, h⟩ := c4_ex h
   obtain ⟨_, _, _, _, _, h⟩ := c4_ex h
   obtain ⟨_, _, _, _, h⟩ := selC_live h
   exact ⟨_, _, h⟩
  ·exact h.elim
theorem sel_ok (args : List SV) (l : List (Nat × Reg)) (K : SV → Mem → Prop) (hup : KUp K) (h : gSel args l K) : ∃ U, execF cx0 U Tryz.f57 64 args (memL l) K := by
 unfold gSel at h
 split at h
 ·rename_i s rz ra rb
  obtain ⟨z0, z1, z2, z3, rfl, q0⟩ := c4_ex h
  obtain ⟨a0, a1, a2, a3, rfl, q1⟩ := c4_ex q0
  obtain ⟨b0, b1, b2, b3, rfl, q2⟩ := c4_ex q1
  refine ⟨u0, ?_⟩
  rw [vc_sel0 z0 z1 z2 z3 a0 a1 a2 a3 b0 b1 b2 b3 s]
  exact sel_of q2.1.1 q2.1.2.1 q2.1.2.2 q2.2.1 q2.2.2
 ·rename_i s rz ra
  obtain ⟨z0, z1, z2, z3, rfl, q0⟩ := c4_ex h
  obtain ⟨a0, a1, a2, a3, rfl, q1⟩ := c4_ex q0
  refine ⟨u0, ?_⟩
  rw [vc_sel1 z0 z1 z2 z3 a0 a1 a2 a3 s]
  exact sel_of q1.1.1 q1.1.2.1 q1.1.2.2 q1.2.1 q1.2.2
 ·rename_i s rz rb
  obtain ⟨z0, z1, z2, z3, rfl, q0⟩ := c4_ex h
  obtain ⟨b0, b1, b2, b3, rfl, q1⟩ := c4_ex q0
  refine ⟨u0, ?_⟩
  rw [vc_sel2 z0 z1 z2 z3 b0 b1 b2 b3 s]
  exact sel_of q1.1.1 q1.1.2.1 q1.1.2.2 q1.2.1 q1.2.2
 ·exact h.elim
def kSel : Ef Tryz.prog := mkE mixed 57 Tryz.func57 (by decide) (by kernel_rfl) [] [.ptr 4 false, .num, .ptr 4 true, .ptr 4 true] gSel sel_good sel_ok
theorem wrap64_ex (y : Int) : ∃ t : Int, IntKind.i64.wrap y = y + 18446744073709551616 * t := by
 show ∃ t : Int, (if (true && decide (y % 18446744073709551616 ≥ 9223372036854775808)) = true then y % 18446744073709551616 - 18446744073709551616 else y % 18446744073709551616) = _
 split
 ·exact ⟨-(y / 18446744073709551616) - 1, by omega⟩
 ·exact ⟨-(y / 18446744073709551616), by omega⟩
theorem band_low (x : Int) : band .i64 x 4294967295 = x % 4294967296 := by
 have e1 : (BitVec.ofInt IntKind.i64.bits x).toNat = (x % 18446744073709551616).toNat := by
  simp only [IntKind.bits, BitVec.toNat_ofInt]
  rfl
 have e2 : (BitVec.ofInt IntKind.i64.bits (4294967295 : Int)).toNat = 2 ^ 32 - 1 := by decide
 unfold band
 rw [BitVec.toNat_and, e1, e2, Nat.and_two_pow_sub_one_eq_mod]
 have h : (((x % 18446744073709551616).toNat % 2 ^ 32 : Nat) : Int) = x % 4294967296 := by omega
 rw [h, wrap64 (by omega) (by omega)]
def udF (c : Int) : Int := (c + 9223372034707292159) % 4294967296 - 2147483647
def udG (c : Int) : Int := (c + 9223372034707292159) / 4294967296 % 4294967296 - 2147483647
theorem ud_of {f g : Int} (h1 : -2147483648 < f) (h2 : f ≤ 2147483648) (h3 : -2147483648 < g) (h4 : g ≤ 2147483648) : udF (IntKind.i64.wrap (f + 4294967296 * g)) = f ∧ udG (IntKind.i64.wrap (f + 4294967296 * g)) = g := by
 obtain ⟨t, ht⟩ := wrap64_ex (f + 4294967296 * g)
 unfold udF udG
 rw [ht]
 omega
theorem vc_ud (c : Int) (K : SV → Mem → Prop) : (execF cx0 u0 Tryz.f88 64 [.int .i64 (.sym c)] (memL []) K) = (∀ a, a = IntKind.wrap IntKind.i64 (c + 9223372034707292159) → ∀ b, b = band .i64 a (4294967295 : Int) → ∀ d, d = IntKind.wrap
 IntKind.i64 (b - 2147483647) → ∀ e, e = shrv .i64 a 32 → ∀ f, f = band .i64 e (4294967295 : Int) → ∀ g, g = IntKind.wrap IntKind.i64 (f - 2147483647) → K (.tup [.int .i64 (.sym d), .int .i64 (.sym g)]) Tr.leaf) := by kernel_rfl
def rUd : R0 := fun args l =>
 match args, l with
 | [.int .i64 (.sym c)], [] => some (none, .tup [.int .i64 (.sym (udF c)), .int .i64 (.sym (udG c))])
 | _, _ => none
theorem ud_ok (args : List SV) (l : List (Nat × Reg)) (p : Ob) (v : SV) (h : rUd args l = some (p, v)) (hp : p.ok) : ∃ U, execF cx0 U Tryz.f88 64 args (memL l) fun v' _ => v' = v := by
 unfold rUd at h
 split at h
 ·rename_i c
  simp only [Option.some.injEq, Prod.mk.injEq] at h
  obtain ⟨rfl, rfl⟩ := h
  refine ⟨u0, ?_⟩
  rw [vc_ud c]
  intro x0 h0 x1 h1 x2 h2 x3 h3 x4 h4 x5 h5
  rw [band_low] at h1 h4
  obtain ⟨t, ht⟩ := wrap64_ex (c + 9223372034707292159)
  have e3 : x3 = x0 / 4294967296 := by
   rw [h3]
   unfold shrv
   rw [show min 32 IntKind.i64.bits = 32 by decide, Int.fdiv_eq_ediv_of_nonneg _ (by decide)]
   rfl
  rw [wrap64 (by omega) (by omega)] at h2 h5
  have f2 : x2 = udF c := by unfold udF; omega
  have f5 : x5 = udG c := by unfold udG; omega
  rw [f2, f5]
 ·cases h
def cUd : Rd Tryz.prog := mkR mixed 88 Tryz.func88 (by decide) (by kernel_rfl) [] [.num] rUd ud_ok
def bl (x : Nat) : Nat := if x = 0 then 0 else x.log2 + 1
theorem bl_spec (x : Nat) : x < 2 ^ bl x ∧ (bl x = 0 ∨ 2 ^ (bl x - 1) ≤ x) := by
 unfold bl
 split
 ·rename_i h; subst h; exact ⟨by decide, .inl rfl⟩
 ·rename_i h
  exact ⟨Nat.lt_log2_self, .inr (by rw [Nat.add_sub_cancel]; exact Nat.log2_self_le h)⟩
theorem bl_unique {x n : Nat} (h1 : x < 2 ^ n) (h2 : n = 0 ∨ 2 ^ (n - 1) ≤ x) : bl x = n := by
 unfold bl
 cases n with
 | zero =>
  have : x = 0 := by simpa using h1
  rw [if_pos this]
 | succ m =>
  have h2 : 2 ^ m ≤ x := by simpa using h2
  have h0 : x ≠ 0 := by have := Nat.pow_pos (n := m) (show 0 < 2 by omega); omega
  rw [if_neg h0, (Nat.log2_eq_iff h0).2 ⟨h2, h1⟩]
theorem bl_div {x u s : Nat} (h : u = x / 2 ^ s) (hu : 1 ≤ u) : bl x = s + bl u := by
 obtain ⟨h1, h2⟩ := bl_spec u
 have hp := Nat.pow_pos (n := s) (show 0 < 2 by omega)
 have hd := Nat.div_add_mod x (2 ^ s)
 have hm := Nat.mod_lt x hp
 rw [← h] at hd
 refine bl_unique ?_ ?_
 ·have : 2 ^ s * (u + 1) ≤ 2 ^ s * 2 ^ bl u := Nat.mul_le_mul_left _ h1
  rw [Nat.mul_add] at this
  rw [Nat.pow_add]
  omega
 ·right
  rcases h2 with h2 | h2
  ·rw [h2] at h1; omega
  ·have hb : bl u ≠ 0 := fun e => by rw [e] at h1; omega
   have : 2 ^ s * 2 ^ (bl u - 1) ≤ 2 ^ s * u := Nat.mul_le_mul_left _ h2
   rw [show s + bl u - 1 = s + (bl u - 1) by omega, Nat.pow_add]
   omega
theorem bl_le {x n : Nat} (h : x < 2 ^ n) : bl x ≤ n := by
 obtain ⟨_, h2⟩ := bl_spec x
 rcases h2 with h2 | h2
 ·omega
 ·apply Classical.byContradiction
  intro hn
  have : 2 ^ n ≤ 2 ^ (bl x - 1) := Nat.pow_le_pow_right (by omega) (by omega)
  omega
def lenTab : ByteArray := ByteArray.mk (Array.mk [0, 1, 2, 2, 3, 3, 3, 3, 4, 4, 4, 4, 4, 4, 4, 4, 5, 5, 5, 5, 5, 5, 5, 5, 5, 5, 5, 5, 5, 5, 5, 5, 6, 6, 6, 6, 6, 6, 6, 6, 6, 6, 6, 6, 6, 6, 6, 6, 6, 6, 6, 6, 6, 6, 6, 6, 6, 6, 6, 6, 6, 6, 6, 6, 7, 7, 7, 7, 7, 7, 7, 7, 7, 7, 7, 7, 7, 7, 7, 7, 7, 7, 7, 7, 7, 7, 7, 7, 7, 7, 7, 7, 7, 7, 7, 7, 7, 7, 7, 7, 7, 7, 7, 7, 7, 7, 7, 7, 7, 7, 7, 7, 7, 7, 7, 7, 7, 7, 7, 7, 7, 7, 7, 7, 7, 7, 7, 7, 8, 8, 8, 8, 8, 8, 8, 8, 8, 8, 8, 8, 8, 8, 8, 8, 8, 8, 8, 8, 8, 8, 8, 8, 8, 8, 8, 8, 8, 8, 8, 8, 8, 8, 8, 8, 8, 8, 8, 8, 8, 8, 8, 8, 8, 8, 8, 8, 8, 8, 8, 8, 8, 8, 8, 8, 8, 8, 8, 8, 8, 8, 8, 8, 8, 8, 8, 8, 8, 8, 8, 8, 8, 8, 8, 8, 8, 8, 8, 8, 8, 8, 8, 8, 8, 8, 8, 8, 8, 8, 8, 8, 8, 8, 8, 8, 8, 8, 8, 8, 8, 8, 8, 8, 8, 8, 8, 8, 8, 8, 8, 8, 8, 8, 8, 8, 8, 8, 8, 8, 8, 8, 8, 8, 8, 8, 8, 8])
theorem tab_all : ((List.range 256).all fun i => decide (strAt lenTab i = ((bl i : Nat) : Int))) = true := by decide +kernel
theorem tab_ok {x3 : Int} (h0 : 0 ≤ x3) (h1 : x3 < 256) : strAt lenTab x3 = ((bl x3.toNat : Nat) : Int) := by
 have := List.all_eq_true.1 tab_all x3.toNat (List.mem_range.2 (by omega))
 rw [decide_eq_true_eq, show ((x3.toNat : Nat) : Int) = x3 by omega] at this
 exact this
theorem len_leaf {x u x3 x4 : Int} {s : Nat} (hx : 0 ≤ x) (hu : u = x / 2 ^ s) (h1 : 1 ≤ u ∨ s = 0) (h2 : u < 256) (h3 : x3 = IntKind.u8.wrap u) (h4 : x4 = strAt lenTab x3) : (0 ≤ x3 ∧ x3 < 256) ∧ ((bl x.toNat : Nat) : Int) = s + x4 ∧ 0 ≤ x4 ∧ x4 ≤ 8 := by
 have hu0 : 0 ≤ u := by rw [hu]; exact Int.ediv_nonneg hx (Int.le_of_lt (Int.pow_pos (by omega)))
 have e3 : x3 = u := by
  rw [h3]
  unfold IntKind.wrap
  simp [IntKind.bits, IntKind.signed]
  omega
 subst e3
 rw [tab_ok hu0 h2] at h4
 have hb := bl_le (x := x3.toNat) (n := 8) (by omega)
 have eu : x3.toNat = x.toNat / 2 ^ s := by
  obtain ⟨y, rfl⟩ := Int.eq_ofNat_of_zero_le hx
  rw [show ((2 : Int) ^ s) = ((2 ^ s : Nat) : Int) by rw [Int.natCast_pow]; rfl, ← Int.natCast_ediv] at hu
  rw [hu, Int.toNat_natCast, Int.toNat_natCast]
 refine ⟨⟨hu0, h2⟩, ?_, by omega, by omega⟩
 rcases h1 with h1 | h1
 ·rw [bl_div eu (by omega), h4]
  omega
 ·subst h1
  rw [Nat.pow_zero, Nat.div_one] at eu
  rw [h4, eu]
  omega
theorem vc_len (x : Int) (K : SV → Mem → Prop) : (execF cx0 u0 Tryz.f106 64 [.int .u64 (.sym x)] (memL []) K) = ((decide (x ≥ 4294967296) = true → ∀ a, a = shrv .u64 x 32 → (decide (a ≥ 65536) = true → ∀ b, b = shrv .u64 a 16 → (decide (b ≥
 256) = true → ∀ l, l = shrv .u64 b 8 → ∀ d, d = IntKind.wrap IntKind.u8 l → ((0 ≤ d ∧ d < 256) ∧ ∀ m : Int, m = strAt lenTab d → ∀ n, n = IntKind.wrap IntKind.i64 m → ∀ o, o = IntKind.wrap IntKind.i64 (56 + n) → K (.int .i64 (.sym o))
 Tr.leaf)) ∧ (decide (b ≥ 256) = false → ∀ e, e = IntKind.wrap IntKind.u8 b → ((0 ≤ e ∧ e < 256) ∧ ∀ p : Int, p = strAt lenTab e → ∀ q, q = IntKind.wrap IntKind.i64 p → ∀ r, r = IntKind.wrap IntKind.i64 (48 + q) → K (.int .i64 (.sym r))
 Tr.leaf))) ∧ (decide (a ≥ 65536) = false → (decide (a ≥ 256) = true → ∀ s, s = shrv .u64 a 8 → ∀ f, f = IntKind.wrap IntKind.u8 s → ((0 ≤ f ∧ f < 256) ∧ ∀ t : Int, t = strAt lenTab f → ∀ u, u = IntKind.wrap IntKind.i64 t → ∀ v, v =
 IntKind.wrap IntKind.i64 (40 + u) → K (.int .i64 (.sym v)) Tr.leaf)) ∧ (decide (a ≥ 256) = false → ∀ g, g = IntKind.wrap IntKind.u8 a → ((0 ≤ g ∧ g < 256) ∧ ∀ w : Int, w = strAt lenTab g → ∀ y, y = IntKind.wrap IntKind.i64 w → ∀ z, z =
 IntKind.wrap IntKind.i64 (32 + y) → K (.int .i64 (.sym z)) Tr.leaf)))) ∧ (decide (x ≥ 4294967296) = false → (decide (x ≥ 65536) = true → ∀ c, c = shrv .u64 x 16 → (decide (c ≥ 256) = true → ∀ A, A = shrv .u64 c 8 → ∀ h, h = IntKind.wrap
 IntKind.u8 A → ((0 ≤ h ∧ h < 256) ∧ ∀ B : Int, B = strAt lenTab h → ∀ C, C = IntKind.wrap IntKind.i64 B → ∀ D, D = IntKind.wrap IntKind.i64 (24 + C) → K (.int .i64 (.sym D)) Tr.leaf)) ∧ (decide (c ≥ 256) = false → ∀ i, i = IntKind.wrap
 IntKind.u8 c → ((0 ≤ i ∧ i < 256) ∧ ∀ E : Int, E = strAt lenTab i → ∀ F, F = IntKind.wrap IntKind.i64 E → ∀ G, G = IntKind.wrap IntKind.i64 (16 + F) → K (.int .i64 (.sym G)) Tr.leaf))) ∧ (decide (x ≥ 65536) = false → (decide (x ≥ 256) =
 true → ∀ H, H = shrv .u64 x 8 → ∀ j, j = IntKind.wrap IntKind.u8 H → ((0 ≤ j ∧ j < 256) ∧ ∀ I : Int, I = strAt lenTab j → ∀ J, J = IntKind.wrap IntKind.i64 I → ∀ L, L = IntKind.wrap IntKind.i64 (8 + J) → K (.int .i64 (.sym L)) Tr.leaf)) ∧
 (decide (x ≥ 256) = false → ∀ k, k = IntKind.wrap IntKind.u8 x → ((0 ≤ k ∧ k < 256) ∧ ∀ M : Int, M = strAt lenTab k → ∀ N, N = IntKind.wrap IntKind.i64 M → ∀ O, O = IntKind.wrap IntKind.i64 (0 + N) → K (.int .i64 (.sym O)) Tr.leaf))))) := by kernel_rfl
def rLen : R0 := fun args l =>
 match args, l with
 | [.int .u64 (.sym x)], [] => some (some (Wd x), .int .i64 (.sym ((bl x.toNat : Nat) : Int)))
 | _, _ => none
theorem sh_step {x y : Int} {s k : Nat} {z : Int} (hx : 0 ≤ x) (hz : z = x / 2 ^ s) (hk : k ≤ 64) (h : y = shrv .u64 z k) : 0 ≤ z ∧ y = x / 2 ^ (s + k) := by
 have hz0 : 0 ≤ z := by rw [hz]; exact Int.ediv_nonneg hx (Int.le_of_lt (Int.pow_pos (by omega)))
 refine ⟨hz0, ?_⟩
 rw [h, shr64 hz0 hk, hz, Int.ediv_ediv_of_nonneg (Int.le_of_lt (Int.pow_pos (by omega))), ← Int.pow_add]
theorem len_ok (args : List SV) (l : List (Nat × Reg)) (p : Ob) (v : SV) (h : rLen args l = some (p, v)) (hp : p.ok) : ∃ U, execF cx0 U Tryz.f106 64 args (memL l) fun v' _ => v' = v := by
 unfold rLen at h
 split at h
 ·rename_i x
  simp only [Option.some.injEq, Prod.mk.injEq] at h
  obtain ⟨rfl, rfl⟩ := h
  have hw : Wd x := hp
  unfold Wd at hw
  refine ⟨u0, ?_⟩
  rw [vc_len x]
  have z0 : x = x / 2 ^ 0 := by rw [Int.pow_zero, Int.ediv_one]
  have d8 : ∀ {y z : Int}, 0 ≤ z → y = shrv .u64 z 8 → y = z / 256 := fun hz h => by rw [h, shr64 hz (by omega)]; rfl
  have d16 : ∀ {y z : Int}, 0 ≤ z → y = shrv .u64 z 16 → y = z / 65536 := fun hz h => by rw [h, shr64 hz (by omega)]; rfl
  have d32 : ∀ {y z : Int}, 0 ≤ z → y = shrv .u64 z 32 → y = z / 4294967296 := fun hz h => by rw [h, shr64 hz (by omega)]; rfl
  simp only [decide_eq_true_eq, decide_eq_false_iff_not, ge_iff_le, Int.not_le]
  refine ⟨fun c0 => ?_, fun c0 => ?_⟩
  ·intro x0 h0
   have a0 := sh_step hw.1 z0 (by omega) h0
   have b0 := d32 hw.1 h0
   refine ⟨fun c1 => ?_, fun c1 => ?_⟩
   ·intro x1 h1
    have a1 := sh_step hw.1 a0.2 (by omega) h1
    have b1 := d16 (by omega) h1
    refine ⟨fun c2 => ?_, fun c2 => ?_⟩
    ·intro x2 h2 x3 h3
     have a2 := sh_step hw.1 a1.2 (by omega) h2
     have b2 := d8 (by omega) h2
     have L := len_leaf hw.1 a2.2 (by omega) (by omega) h3 rfl
     refine ⟨L.1, ?_⟩
     rintro x4 h4 x5 h5 x6 h6
     rw [← h4] at L
     rw [wrap64 (by omega) (by omega)] at h5
     rw [wrap64 (by omega) (by omega)] at h6
     have e : x6 = ((bl x.toNat : Nat) : Int) := by omega
     rw [e]
    ·intro x3 h3
     have L := len_leaf hw.1 a1.2 (by omega) (by omega) h3 rfl
     refine ⟨L.1, ?_⟩
     rintro x4 h4 x5 h5 x6 h6
     rw [← h4] at L
     rw [wrap64 (by omega) (by omega)] at h5
     rw [wrap64 (by omega) (by omega)] at h6
     have e : x6 = ((bl x.toNat : Nat) : Int) := by omega
     rw [e]
   ·refine ⟨fun c2 => ?_, fun c2 => ?_⟩
    ·intro x2 h2 x3 h3
     have a2 := sh_step hw.1 a0.2 (by omega) h2
     have b2 := d8 (by omega) h2
     have L := len_leaf hw.1 a2.2 (by omega) (by omega) h3 rfl
     refine ⟨L.1, ?_⟩
     rintro x4 h4 x5 h5 x6 h6
     rw [← h4] at L
     rw [wrap64 (by omega) (by omega)] at h5
     rw [wrap64 (by omega) (by omega)] at h6
     have e : x6 = ((bl x.toNat : Nat) : Int) := by omega
     rw [e]
    ·intro x3 h3
     have L := len_leaf hw.1 a0.2 (by omega) (by omega) h3 rfl
     refine ⟨L.1, ?_⟩
     rintro x4 h4 x5 h5 x6 h6
     rw [← h4] at L
     rw [wrap64 (by omega) (by omega)] at h5
     rw [wrap64 (by omega) (by omega)] at h6
     have e : x6 = ((bl x.toNat : Nat) : Int) := by omega
     rw [e]
  ·refine ⟨fun c1 => ?_, fun c1 => ?_⟩
   ·intro x1 h1
    have a1 := sh_step hw.1 z0 (by omega) h1
    have b1 := d16 (by omega) h1
    refine ⟨fun c2 => ?_, fun c2 => ?_⟩
    ·intro x2 h2 x3 h3
     have a2 := sh_step hw.1 a1.2 (by omega) h2
     have b2 := d8 (by omega) h2
     have L := len_leaf hw.1 a2.2 (by omega) (by omega) h3 rfl
     refine ⟨L.1, ?_⟩
     rintro x4 h4 x5 h5 x6 h6
     rw [← h4] at L
     rw [wrap64 (by omega) (by omega)] at h5
     rw [wrap64 (by omega) (by omega)] at h6
     have e : x6 = ((bl x.toNat : Nat) : Int) := by omega
     rw [e]
    ·intro x3 h3
     have L := len_leaf hw.1 a1.2 (by omega) (by omega) h3 rfl
     refine ⟨L.1, ?_⟩
     rintro x4 h4 x5 h5 x6 h6
     rw [← h4] at L
     rw [wrap64 (by omega) (by omega)] at h5
     rw [wrap64 (by omega) (by omega)] at h6
     have e : x6 = ((bl x.toNat : Nat) : Int) := by omega
     rw [e]
   ·refine ⟨fun c2 => ?_, fun c2 => ?_⟩
    ·intro x2 h2 x3 h3
     have a2 := sh_step hw.1 z0 (by omega) h2
     have b2 := d8 (by omega) h2
     have L := len_leaf hw.1 a2.2 (by omega) (by omega) h3 rfl
     refine ⟨L.1, ?_⟩
     rintro x4 h4 x5 h5 x6 h6
     rw [← h4] at L
     rw [wrap64 (by omega) (by omega)] at h5
     rw [wrap64 (by omega) (by omega)] at h6
     have e : x6 = ((bl x.toNat : Nat) : Int) := by omega
     rw [e]
    ·intro x3 h3
     have L := len_leaf hw.1 z0 (by omega) (by omega) h3 rfl
     refine ⟨L.1, ?_⟩
     rintro x4 h4 x5 h5 x6 h6
     rw [← h4] at L
     rw [wrap64 (by omega) (by omega)] at h5
     rw [wrap64 (by omega) (by omega)] at h6
     have e : x6 = ((bl x.toNat : Nat) : Int) := by omega
     rw [e]
 ·cases h
def cLen : Rd Tryz.prog := mkR mixed 106 Tryz.func106 (by decide) (by kernel_rfl) [] [.num] rLen len_ok
def cxBl : Cx Tryz.prog := { rds := [cLen], efs := [], eqs := [] }
theorem vc_bl (a0 a1 a2 a3 : Int) (K : SV → Mem → Prop) : (execF cxBl u0 Tryz.f86 64 [.ptr 1 (.lit 0)] (memL [(1, ⟨true, w4 a0 a1 a2 a3⟩)]) K) = (((a3 != 0) = true → (Wd a3 ∧ ∀ a : Int, a = ((bl (Int.toNat a3) : Nat) : Int) → ∀ b, b =
 IntKind.wrap IntKind.i64 (192 + a) → K (.int .i64 (.sym b)) (memL [(1, ⟨true, .cells [.int .u64 (.sym a0), .int .u64 (.sym a1), .int .u64 (.sym a2), .int .u64 (.sym a3)]⟩)]))) ∧ ((a3 != 0) = false → ((a2 != 0) = true → (Wd a2 ∧ ∀ c : Int,
 c = ((bl (Int.toNat a2) : Nat) : Int) → ∀ d, d = IntKind.wrap IntKind.i64 (128 + c) → K (.int .i64 (.sym d)) (memL [(1, ⟨true, .cells [.int .u64 (.sym a0), .int .u64 (.sym a1), .int .u64 (.sym a2), .int .u64 (.sym a3)]⟩)]))) ∧ ((a2 != 0) =
 false → ((a1 != 0) = true → (Wd a1 ∧ ∀ e : Int, e = ((bl (Int.toNat a1) : Nat) : Int) → ∀ f, f = IntKind.wrap IntKind.i64 (64 + e) → K (.int .i64 (.sym f)) (memL [(1, ⟨true, .cells [.int .u64 (.sym a0), .int .u64 (.sym a1), .int .u64 (.sym
 a2), .int .u64 (.sym a3)]⟩)]))) ∧ ((a1 != 0) = false → (Wd a0 ∧ ∀ g : Int, g = ((bl (Int.toNat a0) : Nat) : Int) → K (.int .i64 (.sym g)) (memL [(1, ⟨true, .cells [.int .u64 (.sym a0), .int .u64 (.sym a1), .int .u64 (.sym a2), .int .u64
 (.sym a3)]⟩)])))))) := by kernel_rfl
def rBl : R0 := fun args l =>
 match args, l with
 | [.ptr 1 (.lit 0)], [(1, ⟨true, x⟩)] => r4 x fun a b c d => some (some (Wd a ∧ Wd b ∧ Wd c ∧ Wd d), .int .i64 (.sym ((bl (V4 a b c d).toNat : Nat) : Int)))
 | _, _ => none
theorem blen_ok (args : List SV) (l : List (Nat × Reg)) (p : Ob) (v : SV) (h : rBl args l = some (p, v)) (hp : p.ok) : ∃ U, execF cxBl U Tryz.f86 64 args (memL l) fun v' _ => v' = v := by
 unfold rBl at h
 split at h
 ·obtain ⟨a, b, c, d, rfl, q⟩ := r4_ex h
  simp only [Option.some.injEq, Prod.mk.injEq] at q
  obtain ⟨rfl, rfl⟩ := q
  obtain ⟨ha, hb, hc, hd⟩ : Wd a ∧ Wd b ∧ Wd c ∧ Wd d := hp
  have n0 := V4_nonneg ha hb hc hd
  have hw : ∀ {z : Int}, Wd z → bl z.toNat ≤ 64 := fun hz => bl_le (by unfold Wd at hz; omega)
  refine ⟨u0, ?_⟩
  rw [vc_bl a b c d]
  simp only [bne_iff_ne, bne_eq_false_iff_eq, ne_eq]
  refine ⟨fun c0 => ⟨hd, ?_⟩, fun c0 => ⟨fun c1 => ⟨hc, ?_⟩, fun c1 => ⟨fun c2 => ⟨hb, ?_⟩, fun c2 => ⟨ha, ?_⟩⟩⟩⟩
  ·rintro x0 h0 x1 h1
   have := hw hd
   rw [wrap64 (by omega) (by omega)] at h1
   have e : bl (V4 a b c d).toNat = 192 + bl d.toNat := bl_div (by unfold V4 Wd at *; omega) (by unfold Wd at *; omega)
   have f : x1 = ((bl (V4 a b c d).toNat : Nat) : Int) := by omega
   rw [f]
  ·rintro x0 h0 x1 h1
   have := hw hc
   rw [wrap64 (by omega) (by omega)] at h1
   have e : bl (V4 a b c d).toNat = 128 + bl c.toNat := bl_div (by unfold V4 Wd at *; omega) (by unfold Wd at *; omega)
   have f : x1 = ((bl (V4 a b c d).toNat : Nat) : Int) := by omega
   rw [f]
  ·rintro x0 h0 x1 h1
   have := hw hb
   rw [wrap64 (by omega) (by omega)] at h1
   have e : bl (V4 a b c d).toNat = 64 + bl b.toNat := bl_div (by unfold V4 Wd at *; omega) (by unfold Wd at *; omega)
   have f : x1 = ((bl (V4 a b c d).toNat : Nat) : Int) := by omega
   rw [f]
  ·rintro x0 h0
   have e : (V4 a b c d).toNat = a.toNat := by unfold V4 Wd at *; omega
   rw [e, ← h0]
 ·cases h
def cBl : Rd Tryz.prog := mkR mixed 86 Tryz.func86 (by decide) (by kernel_rfl) [] [.ptr 4 true] rBl blen_ok
theorem lm5_wd {r : Nat} : Wd (lm r 4) := lm_wd r 4
theorem lm5_of {a b c d e : Int} (ha : Wd a) (hb : Wd b) (hc : Wd c) (hd : Wd d) (he : Wd e) {r : Nat} (h : V4 a b c d + e * 115792089237316195423570985008687907853269984665640564039457584007913129639936 = (r : Int)) :
  a = lm r 0 ∧ b = lm r 1 ∧ c = lm r 2 ∧ d = lm r 3 ∧ e = lm r 4 := by
 unfold V4 at h
 unfold Wd at *
 unfold lm
 simp only [Nat.pow_zero, Nat.div_one, Nat.pow_one, Nat.reducePow]
 omega
theorem lm5_val {r : Nat} (h : r < 2135987035920910082395021706169552114602704522356652769947041607822219725780640550022962086936576) : V4 (lm r 0) (lm r 1) (lm r 2) (lm r 3) + lm r 4 * 115792089237316195423570985008687907853269984665640564039457584007913129639936 = (r : Int) := by
 unfold V4 lm
 simp only [Nat.pow_zero, Nat.div_one, Nat.pow_one, Nat.reducePow]
 omega
def m5 (x : Int) : Nat := (x % 2135987035920910082395021706169552114602704522356652769947041607822219725780640550022962086936576).toNat
theorem m5_lt (x : Int) : m5 x < 2135987035920910082395021706169552114602704522356652769947041607822219725780640550022962086936576 := by unfold m5; omega
theorem m5_of {x y t : Int} (h : x = y + 2135987035920910082395021706169552114602704522356652769947041607822219725780640550022962086936576 * t) (h0 : 0 ≤ x) (h1 : x < 2135987035920910082395021706169552114602704522356652769947041607822219725780640550022962086936576) : x = (m5 y : Int) := by unfold m5; omega
def NegP (a0 a1 a2 a3 h : Int) (K : Int → Int → Int → Int → Int → Prop) : Prop :=
 SubS 0 a0 0 fun s0 k => SubS 0 a1 k fun s1 k => SubS 0 a2 k fun s2 k => SubS 0 a3 k fun s3 k => SubS 0 h k fun s4 _ => K s0 s1 s2 s3 s4
theorem negp_eq {a0 a1 a2 a3 h s0 s1 s2 s3 s4 k0 k1 k2 k3 k4 : Int} (e0 : s0 = 0 - a0 - 0 + k0 * 18446744073709551616) (e1 : s1 = 0 - a1 - k0 + k1 * 18446744073709551616) (e2 : s2 = 0 - a2 - k1 + k2 * 18446744073709551616)
  (e3 : s3 = 0 - a3 - k2 + k3 * 18446744073709551616) (e4 : s4 = 0 - h - k3 + k4 * 18446744073709551616) :
  V4 s0 s1 s2 s3 + s4 * 115792089237316195423570985008687907853269984665640564039457584007913129639936 = -(V4 a0 a1 a2 a3 + h * 115792089237316195423570985008687907853269984665640564039457584007913129639936) + 2135987035920910082395021706169552114602704522356652769947041607822219725780640550022962086936576 * k4 := by
 unfold V4
 omega
theorem V5_bd {a b c d e : Int} (ha : Wd a) (hb : Wd b) (hc : Wd c) (hd : Wd d) (he : Wd e) : 0 ≤ V4 a b c d + e * 115792089237316195423570985008687907853269984665640564039457584007913129639936 ∧ V4 a b c d + e * 115792089237316195423570985008687907853269984665640564039457584007913129639936 < 2135987035920910082395021706169552114602704522356652769947041607822219725780640550022962086936576 := by
 unfold V4 Wd at *
 omega
theorem NegP.of {a0 a1 a2 a3 h : Int} {K : Int → Int → Int → Int → Int → Prop} (ha : Wd a0 ∧ Wd a1 ∧ Wd a2 ∧ Wd a3) (hh : Wd h) (hK : ∀ r, r = m5 (-(V4 a0 a1 a2 a3 + h * 115792089237316195423570985008687907853269984665640564039457584007913129639936)) → K (lm r 0) (lm r 1) (lm r 2) (lm r 3) (lm r 4)) : NegP a0 a1 a2 a3 h K := by
 obtain ⟨ha0, ha1, ha2, ha3⟩ := ha
 refine SubS.of wd0 ha0 (Int.le_refl _) (by decide) fun s0 k0 c0 c1 c2 c3 => ?_
 refine SubS.of wd0 ha1 c1 c2 fun s1 k1 d0 d1 d2 d3 => ?_
 refine SubS.of wd0 ha2 d1 d2 fun s2 k2 e0 e1 e2 e3 => ?_
 refine SubS.of wd0 ha3 e1 e2 fun s3 k3 f0 f1 f2 f3 => ?_
 refine SubS.of wd0 hh f1 f2 fun s4 k4 g0 g1 g2 g3 => ?_
 have e := negp_eq c3 d3 e3 f3 g3
 obtain ⟨b0, b1⟩ := V5_bd c0 d0 e0 f0 g0
 obtain ⟨q0, q1, q2, q3, q4⟩ := lm5_of c0 d0 e0 f0 g0 (m5_of e b0 b1)
 rw [q0, q1, q2, q3, q4]
 exact hK _ rfl
theorem vc_negl (a0 a1 a2 a3 h : Int) (K : SV → Mem → Prop) : (execF cxAdd u0 Tryz.f90 64 [.ptr 1 (.lit 0), .int .u64 (.sym h)] (memL [(1, ⟨false, w4 a0 a1 a2 a3⟩)]) K) = (NegP a0 a1 a2 a3 h fun a b c d e => K (.int .u64 (.sym e)) (memL
 [(1, ⟨false, w4 a b c d⟩)])) := by kernel_rfl
def gNl : G0 := fun args l K =>
 match args, l with
 | [.ptr 1 (.lit 0), .int .u64 (.sym s)], [(1, ⟨false, z⟩)] => c4 z fun z0 z1 z2 z3 => (((Wd z0 ∧ Wd z1 ∧ Wd z2 ∧ Wd z3) ∧ Wd s) ∧ ∀ r, r = m5 (-(V4 z0 z1 z2 z3 + s * 115792089237316195423570985008687907853269984665640564039457584007913129639936)) → K (.int .u64 (.sym (lm r 4))) (memL [(1, ⟨false, e4 r⟩)]))
 | _, _ => False
theorem nl_good : Good gNl := by
 constructor
 ·intro args l K K' hk h
  unfold gNl at h ⊢
  split at h
  ·exact c4_mono (fun _ _ _ _ h => ⟨h.1, fun r hr => hk _ _ (h.2 r hr)⟩) h
  ·exact h.elim
 ·intro args l K h
  unfold gNl at h
  split at h
  ·obtain ⟨_, _, _, _, _, h⟩ := c4_ex h
   exact ⟨_, _, h.2 _ rfl⟩
  ·exact h.elim
theorem nl_ok (args : List SV) (l : List (Nat × Reg)) (K : SV → Mem → Prop) (hup : KUp K) (h : gNl args l K) : ∃ U, execF cxAdd U Tryz.f90 64 args (memL l) K := by
 unfold gNl at h
 split at h
 ·rename_i s zz
  obtain ⟨z0, z1, z2, z3, rfl, q0⟩ := c4_ex h
  refine ⟨u0, ?_⟩
  rw [vc_negl z0 z1 z2 z3 s]
  exact NegP.of q0.1.1 q0.1.2 q0.2
 ·exact h.elim
def kNl : Ef Tryz.prog := mkE mixed 90 Tryz.func90 (by decide) (by kernel_rfl) [] [.ptr 4 false, .num] gNl nl_good nl_ok
theorem vc_m1 (a b c : Int) (K : SV → Mem → Prop) : execF cxAr u0 Tryz.f115 64 [.int .u64 (.sym a), .int .u64 (.sym b), .int .u64 (.sym c)] (memL []) K = (MulS a b fun h l => AddS l c 0 fun l k => AddS h 0 k fun h _ => K (.tup [.int .u64
 (.sym h), .int .u64 (.sym l)]) (memL [])) := by kernel_rfl
def m1h (a b c : Int) : Int := sumLo (mulHi a b) 0 (sumHi (mulLo a b) c 0)
def m1l (a b c : Int) : Int := sumLo (mulLo a b) c 0
theorem m1_eq {a b c : Int} (ha : Wd a) (hb : Wd b) (hc : Wd c) : m1h a b c * 18446744073709551616 + m1l a b c = a * b + c := by
 have h0 : 0 ≤ a * b := Int.mul_nonneg ha.1 hb.1
 have h1 : a * b ≤ 18446744073709551615 * b := Int.mul_le_mul_of_nonneg_right (by have := ha.2; omega) hb.1
 unfold m1h m1l sumLo sumHi mulHi mulLo
 unfold Wd at *
 omega
theorem m1h_wd (a b c : Int) : Wd (m1h a b c) := sumLo_wd _ _ _
theorem m1l_wd (a b c : Int) : Wd (m1l a b c) := sumLo_wd _ _ _
def rM1 : R0 := fun args l =>
 match args, l with
 | [.int .u64 (.sym a), .int .u64 (.sym b), .int .u64 (.sym c)], [] => some (some (Wd a ∧ Wd b ∧ Wd c), .tup [.int .u64 (.sym (m1h a b c)), .int .u64 (.sym (m1l a b c))])
 | _, _ => none
theorem m1_ok (args : List SV) (l : List (Nat × Reg)) (p : Ob) (v : SV) (h : rM1 args l = some (p, v)) (hp : p.ok) : ∃ U, execF cxAr U Tryz.f115 64 args (memL l) fun v' _ => v' = v := by
 refine ⟨u0, ?_⟩
 unfold rM1 at h
 split at h
 ·rename_i a b c
  simp only [Option.some.injEq, Prod.mk.injEq] at h
  obtain ⟨rfl, rfl⟩ := h
  obtain ⟨ha, hb, hc⟩ : Wd a ∧ Wd b ∧ Wd c := hp
  rw [vc_m1]
  refine ⟨⟨ha, hb⟩, ?_⟩
  rintro _ rfl _ rfl
  refine ⟨⟨mulLo_wd _ _, hc, by decide, by decide⟩, ?_⟩
  rintro _ rfl _ rfl
  refine ⟨⟨mulHi_wd ha hb, wd0, sumHi_le (mulLo_wd _ _) hc (by decide) (by decide)⟩, ?_⟩
  rintro _ rfl _ rfl
  rfl
 ·cases h
def cM1 : Rd Tryz.prog := mkR mixed 115 Tryz.func115 (by decide) (by kernel_rfl) [] [.num, .num, .num] rM1 m1_ok
def cxMw : Cx Tryz.prog := { rds := [cMul64, cM1], efs := [kNl], eqs := [] }
def MwP (a0 a1 a2 a3 y : Int) (K : Int → Int → Int → Int → Int → Prop) : Prop :=
 ∀ x0, x0 = shrv .i64 y 63 → ∀ x1, x1 = bxor .i64 y x0 → ∀ x2, x2 = IntKind.i64.wrap (x1 - x0) → ∀ x3, x3 = IntKind.u64.wrap x2 → (Wd a0 ∧ Wd x3) ∧ ∀ x4, x4 = mulHi a0 x3 → ∀ x5, x5 = mulLo a0 x3 →
  (Wd a1 ∧ Wd x3 ∧ Wd x4) ∧ ∀ x6, x6 = m1h a1 x3 x4 → ∀ x7, x7 = m1l a1 x3 x4 → (Wd a2 ∧ Wd x3 ∧ Wd x6) ∧ ∀ x8, x8 = m1h a2 x3 x6 → ∀ x9, x9 = m1l a2 x3 x6 → (Wd a3 ∧ Wd x3 ∧ Wd x8) ∧ ∀ x10, x10 = m1h a3 x3 x8 → ∀ x11, x11 = m1l a3 x3 x8 →
  (decide (y < 0) = true → ((Wd x5 ∧ Wd x7 ∧ Wd x9 ∧ Wd x11) ∧ Wd x10) ∧ ∀ r, r = m5 (-(V4 x5 x7 x9 x11 + x10 * 115792089237316195423570985008687907853269984665640564039457584007913129639936)) → K (lm r 0) (lm r 1) (lm r 2) (lm r 3) (lm r 4)) ∧
  (decide (y < 0) = false → K x5 x7 x9 x11 x10)
theorem vc_mw0 (z0 z1 z2 z3 a0 a1 a2 a3 y : Int) (K : SV → Mem → Prop) : (execF cxMw u0 Tryz.f107 64 [.ptr 1 (.lit 0), .ptr 9 (.lit 0), .int .i64 (.sym y)] (memL [(1, ⟨false, w4 z0 z1 z2 z3⟩), (9, ⟨true, w4 a0 a1 a2 a3⟩)]) K) = (MwP a0 a1 a2
 a3 y fun a b c d e => K (.int .u64 (.sym e)) (memL [(1, ⟨false, w4 a b c d⟩), (9, ⟨true, w4 a0 a1 a2 a3⟩)])) := by kernel_rfl
theorem vc_mw1 (z0 z1 z2 z3 y : Int) (K : SV → Mem → Prop) : (execF cxMw u0 Tryz.f107 64 [.ptr 1 (.lit 0), .ptr 1 (.lit 0), .int .i64 (.sym y)] (memL [(1, ⟨false, w4 z0 z1 z2 z3⟩)]) K) = (MwP z0 z1 z2 z3 y fun a b c d e => K (.int .u64 (.sym
 e)) (memL [(1, ⟨false, w4 a b c d⟩)])) := by kernel_rfl
def I64 (y : Int) : Prop := -9223372036854775808 ≤ y ∧ y < 9223372036854775808
theorem shr63i {y : Int} (h : I64 y) : shrv .i64 y 63 = if y < 0 then -1 else 0 := by
 unfold shrv
 rw [show min 63 IntKind.i64.bits = 63 by decide, Int.fdiv_eq_ediv_of_nonneg _ (by decide)]
 unfold I64 at h
 split <;> omega
theorem bxor_i64 {y : Int} (h : I64 y) : bxor .i64 y 0 = y ∧ bxor .i64 y (-1) = -y - 1 := by
 unfold I64 at h
 have e1 : (BitVec.ofInt IntKind.i64.bits y).toNat = (y % 18446744073709551616).toNat := by
  simp only [IntKind.bits, BitVec.toNat_ofInt]
  rfl
 have w : ∀ z : Int, -9223372036854775808 ≤ z → z < 9223372036854775808 → IntKind.i64.wrap (((z % 18446744073709551616).toNat : Nat) : Int) = z := fun z h0 h1 => by
  show (if (true && decide (((z % 18446744073709551616).toNat : Int) % 18446744073709551616 ≥ 9223372036854775808)) = true then ((z % 18446744073709551616).toNat : Int) % 18446744073709551616 - 18446744073709551616 else ((z % 18446744073709551616).toNat : Int) % 18446744073709551616) = z
  simp only [Bool.true_and, decide_eq_true_eq]
  split <;> omega
 constructor
 ·unfold bxor
  rw [BitVec.toNat_xor, e1, show (BitVec.ofInt IntKind.i64.bits (0 : Int)).toNat = 0 by decide, Nat.xor_zero]
  exact w y h.1 h.2
 ·have e2 : bxor .i64 y (-1) = IntKind.i64.wrap ((((-y - 1) % 18446744073709551616).toNat : Nat) : Int) := by
   have key : ∀ b : BitVec 64, (b ^^^ BitVec.ofInt 64 (-1)).toNat = 2 ^ 64 - 1 - b.toNat := fun b => by
    rw [show BitVec.ofInt 64 (-1 : Int) = BitVec.allOnes 64 by decide, BitVec.xor_allOnes, BitVec.toNat_not]
   have e3 : (BitVec.ofInt 64 y).toNat = (y % 18446744073709551616).toNat := e1
   show IntKind.i64.wrap (((BitVec.ofInt 64 y ^^^ BitVec.ofInt 64 (-1)).toNat : Nat) : Int) = _
   rw [key, e3]
   congr 2
   omega
  rw [e2]
  exact w _ (by omega) (by omega)
theorem abs_of {y x0 x1 x2 x3 : Int} (h : I64 y) (h0 : x0 = shrv .i64 y 63) (h1 : x1 = bxor .i64 y x0) (h2 : x2 = IntKind.i64.wrap (x1 - x0)) (h3 : x3 = IntKind.u64.wrap x2) : x3 = (y.natAbs : Int) := by
 obtain ⟨b0, b1⟩ := bxor_i64 h
 rw [shr63i h] at h0
 obtain ⟨t, ht⟩ := wrap64_ex (x1 - x0)
 rw [ht] at h2
 rw [wu64] at h3
 unfold I64 at h
 split at h0
 ·rw [h0, b1] at h1
  omega
 ·rw [h0, b0] at h1
  omega
theorem mw_eq {a0 a1 a2 a3 w h0 l0 h1 l1 h2 l2 h3 l3 : Int} (e0 : h0 * 18446744073709551616 + l0 = a0 * w) (e1 : h1 * 18446744073709551616 + l1 = a1 * w + h0) (e2 : h2 * 18446744073709551616 + l2 = a2 * w + h1) (e3 : h3 * 18446744073709551616 + l3 = a3 * w + h2) :
  V4 l0 l1 l2 l3 + h3 * 115792089237316195423570985008687907853269984665640564039457584007913129639936 = V4 a0 a1 a2 a3 * w := by
 unfold V4
 simp only [Int.add_mul]
 rw [Int.mul_right_comm a1, Int.mul_right_comm a2, Int.mul_right_comm a3]
 omega
theorem mulHL {x y : Int} : mulHi x y * 18446744073709551616 + mulLo x y = x * y := by unfold mulHi mulLo; omega
theorem MwP.of {a0 a1 a2 a3 y : Int} {K : Int → Int → Int → Int → Int → Prop} (ha : Wd a0 ∧ Wd a1 ∧ Wd a2 ∧ Wd a3) (hy : I64 y) (hK : ∀ r, r = m5 (V4 a0 a1 a2 a3 * y) → K (lm r 0) (lm r 1) (lm r 2) (lm r 3) (lm r 4)) : MwP a0 a1 a2 a3 y K := by
 obtain ⟨ha0, ha1, ha2, ha3⟩ := ha
 intro x0 h0 x1 h1 x2 h2 x3 h3
 have e3 := abs_of hy h0 h1 h2 h3
 have w3 : Wd x3 := by unfold I64 at hy; unfold Wd; omega
 refine ⟨⟨ha0, w3⟩, ?_⟩
 rintro x4 h4 x5 h5
 have w4' : Wd x4 := by rw [h4]; exact mulHi_wd ha0 w3
 have w5 : Wd x5 := by rw [h5]; exact mulLo_wd _ _
 refine ⟨⟨ha1, w3, w4'⟩, ?_⟩
 rintro x6 h6 x7 h7
 have w6 : Wd x6 := by rw [h6]; exact m1h_wd _ _ _
 have w7 : Wd x7 := by rw [h7]; exact m1l_wd _ _ _
 refine ⟨⟨ha2, w3, w6⟩, ?_⟩
 rintro x8 h8 x9 h9
 have w8 : Wd x8 := by rw [h8]; exact m1h_wd _ _ _
 have w9 : Wd x9 := by rw [h9]; exact m1l_wd _ _ _
 refine ⟨⟨ha3, w3, w8⟩, ?_⟩
 rintro x10 h10 x11 h11
 have w10 : Wd x10 := by rw [h10]; exact m1h_wd _ _ _
 have w11 : Wd x11 := by rw [h11]; exact m1l_wd _ _ _
 have e := mw_eq (w := x3) (h0 := x4) (l0 := x5) (h1 := x6) (l1 := x7) (h2 := x8) (l2 := x9) (h3 := x10) (l3 := x11) (by rw [h4, h5]; exact mulHL) (by rw [h6, h7]; exact m1_eq ha1 w3 w4') (by rw [h8, h9]; exact m1_eq ha2 w3 w6) (by rw [h10, h11]; exact m1_eq ha3 w3 w8)
 obtain ⟨b0, b1⟩ := V5_bd w5 w7 w9 w11 w10
 refine ⟨fun hn => ?_, fun hn => ?_⟩
 ·simp only [decide_eq_true_eq] at hn
  refine ⟨⟨⟨w5, w7, w9, w11⟩, w10⟩, fun r hr => hK r ?_⟩
  rw [hr, e, e3, show ((y.natAbs : Nat) : Int) = -y by omega, Int.mul_neg, Int.neg_neg]
 ·simp only [decide_eq_false_iff_not] at hn
  have e4 : x3 = y := by omega
  rw [e4] at e
  have hz : V4 x5 x7 x9 x11 + x10 * 115792089237316195423570985008687907853269984665640564039457584007913129639936 = ((m5 (V4 a0 a1 a2 a3 * y) : Nat) : Int) := by
   unfold m5
   omega
  obtain ⟨q0, q1, q2, q3, q4⟩ := lm5_of w5 w7 w9 w11 w10 hz
  rw [q0, q1, q2, q3, q4]
  exact hK _ rfl
def gMw : G0 := fun args l K =>
 match args, l with
 | [.ptr 1 (.lit 0), .ptr 9 (.lit 0), .int .i64 (.sym s)], [(1, ⟨false, z⟩), (9, ⟨true, x⟩)] => c4 z fun _ _ _ _ => c4 x fun a0 a1 a2 a3 => (((Wd a0 ∧ Wd a1 ∧ Wd a2 ∧ Wd a3) ∧ I64 s) ∧ ∀ r, r = m5 (V4 a0 a1 a2 a3 * s) → K (.int .u64 (.sym (lm r 4))) (memL [(1, ⟨false, e4 r⟩), (9, ⟨true, w4 a0 a1 a2 a3⟩)]))
 | [.ptr 1 (.lit 0), .ptr 1 (.lit 0), .int .i64 (.sym s)], [(1, ⟨false, z⟩)] => c4 z fun z0 z1 z2 z3 => (((Wd z0 ∧ Wd z1 ∧ Wd z2 ∧ Wd z3) ∧ I64 s) ∧ ∀ r, r = m5 (V4 z0 z1 z2 z3 * s) → K (.int .u64 (.sym (lm r 4))) (memL [(1, ⟨false, e4 r⟩)]))
 | _, _ => False
theorem mw_good : Good gMw := by
 constructor
 ·intro args l K K' hk h
  unfold gMw at h ⊢
  split at h
  ·exact c4_mono (fun _ _ _ _ h => c4_mono (fun _ _ _ _ h => ⟨h.1, fun r hr => hk _ _ (h.2 r hr)⟩) h) h
  ·exact c4_mono (fun _ _ _ _ h => ⟨h.1, fun r hr => hk _ _ (h.2 r hr)⟩) h
  ·exact h.elim
 ·intro args l K h
  unfold gMw at h
  split at h
  ·obtain ⟨_, _, _, _, _, h⟩ := c4_ex h
   obtain ⟨_, _, _, _, _, h⟩ := c4_ex h
   exact ⟨_, _, h.2 _ rfl⟩
  ·obtain ⟨_, _, _, _, _, h⟩ := c4_ex h
   exact ⟨_, _, h.2 _ rfl⟩
  ·exact h.elim
theorem mw_ok (args : List SV) (l : List (Nat × Reg)) (K : SV → Mem → Prop) (hup : KUp K) (h : gMw args l K) : ∃ U, execF cxMw U Tryz.f107 64 args (memL l) K := by
 unfold gMw at h
 split at h
 ·rename_i s zz aa
  obtain ⟨z0, z1, z2, z3, rfl, q0⟩ := c4_ex h
  obtain ⟨a0, a1, a2, a3, rfl, q1⟩ := c4_ex q0
  refine ⟨u0, ?_⟩
  rw [vc_mw0 z0 z1 z2 z3 a0 a1 a2 a3 s]
  exact MwP.of q1.1.1 q1.1.2 q1.2
 ·rename_i s zz
  obtain ⟨z0, z1, z2, z3, rfl, q0⟩ := c4_ex h
  refine ⟨u0, ?_⟩
  rw [vc_mw1 z0 z1 z2 z3 s]
  exact MwP.of q0.1.1 q0.1.2 q0.2
 ·exact h.elim
def kMw : Ef Tryz.prog := mkE mixed 107 Tryz.func107 (by decide) (by kernel_rfl) [] [.ptr 4 false, .ptr 4 true, .num] gMw mw_good mw_ok
def cxLc : Cx Tryz.prog := { rds := [cAdd], efs := [kMw], eqs := [] }
def LcP (a0 a1 a2 a3 b0 b1 b2 b3 y s : Int) (K : Int → Int → Int → Int → Int → Nat → Prop) : Prop :=
 ((Wd b0 ∧ Wd b1 ∧ Wd b2 ∧ Wd b3) ∧ I64 s) ∧ ∀ r0, r0 = m5 (V4 b0 b1 b2 b3 * s) → ((Wd a0 ∧ Wd a1 ∧ Wd a2 ∧ Wd a3) ∧ I64 y) ∧ ∀ r1, r1 = m5 (V4 a0 a1 a2 a3 * y) →
  AddS (lm r1 0) (lm r0 0) 0 fun s0 k => AddS (lm r1 1) (lm r0 1) k fun s1 k => AddS (lm r1 2) (lm r0 2) k fun s2 k => AddS (lm r1 3) (lm r0 3) k fun s3 k => AddS (lm r1 4) (lm r0 4) k fun s4 _ => K s0 s1 s2 s3 s4 r0
theorem lc_eq {a0 a1 a2 a3 a4 b0 b1 b2 b3 b4 s0 s1 s2 s3 s4 k0 k1 k2 k3 k4 : Int} (e0 : s0 + k0 * 18446744073709551616 = a0 + b0 + 0) (e1 : s1 + k1 * 18446744073709551616 = a1 + b1 + k0)
  (e2 : s2 + k2 * 18446744073709551616 = a2 + b2 + k1) (e3 : s3 + k3 * 18446744073709551616 = a3 + b3 + k2) (e4 : s4 + k4 * 18446744073709551616 = a4 + b4 + k3) :
  (V4 s0 s1 s2 s3 + s4 * 115792089237316195423570985008687907853269984665640564039457584007913129639936) + k4 * 2135987035920910082395021706169552114602704522356652769947041607822219725780640550022962086936576 = (V4 a0 a1 a2 a3 + a4 * 115792089237316195423570985008687907853269984665640564039457584007913129639936) + (V4 b0 b1 b2 b3 + b4 * 115792089237316195423570985008687907853269984665640564039457584007913129639936) := by
 unfold V4
 omega
theorem m5_add {u v z k : Int} (h : z + k * 2135987035920910082395021706169552114602704522356652769947041607822219725780640550022962086936576 = (m5 u : Int) + (m5 v : Int)) (h0 : 0 ≤ z) (h1 : z < 2135987035920910082395021706169552114602704522356652769947041607822219725780640550022962086936576) : z = ((m5 (u + v) : Nat) : Int) := by
 unfold m5 at *
 omega
theorem LcP.of {a0 a1 a2 a3 b0 b1 b2 b3 y s : Int} {K : Int → Int → Int → Int → Int → Nat → Prop} (ha : Wd a0 ∧ Wd a1 ∧ Wd a2 ∧ Wd a3) (hb : Wd b0 ∧ Wd b1 ∧ Wd b2 ∧ Wd b3) (hy : I64 y) (hs : I64 s)
  (hK : ∀ r r0, r = m5 (V4 a0 a1 a2 a3 * y + V4 b0 b1 b2 b3 * s) → K (lm r 0) (lm r 1) (lm r 2) (lm r 3) (lm r 4) r0) : LcP a0 a1 a2 a3 b0 b1 b2 b3 y s K := by
 refine ⟨⟨hb, hs⟩, fun r0 h0 => ⟨⟨ha, hy⟩, fun r1 h1 => ?_⟩⟩
 have W := lm_wd
 refine AddS.of (W _ _) (W _ _) (Int.le_refl _) (by decide) fun s0 k0 c0 c1 c2 c3 => ?_
 refine AddS.of (W _ _) (W _ _) c1 c2 fun s1 k1 d0 d1 d2 d3 => ?_
 refine AddS.of (W _ _) (W _ _) d1 d2 fun s2 k2 e0 e1 e2 e3 => ?_
 refine AddS.of (W _ _) (W _ _) e1 e2 fun s3 k3 f0 f1 f2 f3 => ?_
 refine AddS.of (W _ _) (W _ _) f1 f2 fun s4 k4 g0 g1 g2 g3 => ?_
 have e := lc_eq c3 d3 e3 f3 g3
 rw [lm5_val (by rw [h1]; exact m5_lt _), lm5_val (by rw [h0]; exact m5_lt _), h0, h1] at e
 obtain ⟨b0', b1'⟩ := V5_bd c0 d0 e0 f0 g0
 obtain ⟨q0, q1, q2, q3, q4⟩ := lm5_of c0 d0 e0 f0 g0 (m5_add e b0' b1')
 rw [q0, q1, q2, q3, q4]
 exact hK _ _ rfl
theorem vc_lc0 (z0 z1 z2 z3 a0 a1 a2 a3 b0 b1 b2 b3 y s : Int) (K : SV → Mem → Prop) : (execF cxLc u0 Tryz.f89 64 [.ptr 1 (.lit 0), .ptr 9 (.lit 0), .int .i64 (.sym y), .ptr 17 (.lit 0), .int .i64 (.sym s)] (memL [(1, ⟨false, w4 z0 z1 z2
 z3⟩), (9, ⟨true, w4 a0 a1 a2 a3⟩), (17, ⟨true, w4 b0 b1 b2 b3⟩)]) K) = (LcP a0 a1 a2 a3 b0 b1 b2 b3 y s fun a b c d e f => K (.int .u64 (.sym e)) (memL [(1, ⟨false, w4 a b c d⟩), (9, ⟨true, w4 a0 a1 a2 a3⟩), (17, ⟨true, w4 b0 b1 b2 b3⟩),
 (521, ⟨false, e4 f⟩)])) := by kernel_rfl
theorem vc_lc1 (z0 z1 z2 z3 a0 a1 a2 a3 y s : Int) (K : SV → Mem → Prop) : (execF cxLc u0 Tryz.f89 64 [.ptr 1 (.lit 0), .ptr 9 (.lit 0), .int .i64 (.sym y), .ptr 1 (.lit 0), .int .i64 (.sym s)] (memL [(1, ⟨false, w4 z0 z1 z2 z3⟩), (9,
 ⟨true, w4 a0 a1 a2 a3⟩)]) K) = (LcP a0 a1 a2 a3 z0 z1 z2 z3 y s fun a b c d e f => K (.int .u64 (.sym e)) (memL [(1, ⟨false, w4 a b c d⟩), (9, ⟨true, w4 a0 a1 a2 a3⟩), (521, ⟨false, e4 f⟩)])) := by kernel_rfl
theorem vc_lc2 (z0 z1 z2 z3 b0 b1 b2 b3 y s : Int) (K : SV → Mem → Prop) : (execF cxLc u0 Tryz.f89 64 [.ptr 1 (.lit 0), .ptr 1 (.lit 0), .int .i64 (.sym y), .ptr 9 (.lit 0), .int .i64 (.sym s)] (memL [(1, ⟨false, w4 z0 z1 z2 z3⟩), (9,
 ⟨true, w4 b0 b1 b2 b3⟩)]) K) = (LcP z0 z1 z2 z3 b0 b1 b2 b3 y s fun a b c d e f => K (.int .u64 (.sym e)) (memL [(1, ⟨false, w4 a b c d⟩), (9, ⟨true, w4 b0 b1 b2 b3⟩), (521, ⟨false, e4 f⟩)])) := by kernel_rfl
def gLc : G0 := fun args l K =>
 match args, l with
 | [.ptr 1 (.lit 0), .ptr 9 (.lit 0), .int .i64 (.sym y), .ptr 17 (.lit 0), .int .i64 (.sym s)], [(1, ⟨false, rz⟩), (9, ⟨true, ra⟩), (17, ⟨true, rb⟩)] => c4 rz fun _ _ _ _ => c4 ra fun a0 a1 a2 a3 => c4 rb fun b0 b1 b2 b3 => ((((Wd a0 ∧ Wd a1 ∧ Wd a2 ∧ Wd a3) ∧ (Wd b0 ∧ Wd b1 ∧ Wd b2 ∧ Wd b3)) ∧ I64 y ∧ I64 s) ∧ ∀ r, r = m5 (V4 a0 a1 a2 a3 * y + V4 b0 b1 b2 b3 * s) → K (.int .u64 (.sym (lm r 4))) (memL [(1, ⟨false, e4 r⟩), (9, ⟨true, w4 a0 a1 a2 a3⟩), (17, ⟨true, w4 b0 b1 b2 b3⟩)]))
 | [.ptr 1 (.lit 0), .ptr 9 (.lit 0), .int .i64 (.sym y), .ptr 1 (.lit 0), .int .i64 (.sym s)], [(1, ⟨false, rz⟩), (9, ⟨true, ra⟩)] => c4 rz fun z0 z1 z2 z3 => c4 ra fun a0 a1 a2 a3 => ((((Wd a0 ∧ Wd a1 ∧ Wd a2 ∧ Wd a3) ∧ (Wd z0 ∧ Wd z1 ∧ Wd z2 ∧ Wd z3)) ∧ I64 y ∧ I64 s) ∧ ∀ r, r = m5 (V4 a0 a1 a2 a3 * y + V4 z0 z1 z2 z3 * s) → K (.int .u64 (.sym (lm r 4))) (memL [(1, ⟨false, e4 r⟩), (9, ⟨true, w4 a0 a1 a2 a3⟩)]))
 | [.ptr 1 (.lit 0), .ptr 1 (.lit 0), .int .i64 (.sym y), .ptr 9 (.lit 0), .int .i64 (.sym s)], [(1, ⟨false, rz⟩), (9, ⟨true, rb⟩)] => c4 rz fun z0 z1 z2 z3 => c4 rb fun b0 b1 b2 b3 => ((((Wd z0 ∧ Wd z1 ∧ Wd z2 ∧ Wd z3) ∧ (Wd b0 ∧ Wd b1 ∧ Wd b2 ∧ Wd b3)) ∧ I64 y ∧ I64 s) ∧ ∀ r, r = m5 (V4 z0 z1 z2 z3 * y + V4 b0 b1 b2 b3 * s) → K (.int .u64 (.sym (lm r 4))) (memL [(1, ⟨false, e4 r⟩), (9, ⟨true, w4 b0 b1 b2 b3⟩)]))
 | _, _ => False
theorem lc_good : Good gLc := by
 constructor
 ·intro args l K K' hk h
  unfold gLc at h ⊢
  split at h
  ·exact c4_mono (fun _ _ _ _ h => c4_mono (fun _ _ _ _ h => c4_mono (fun _ _ _ _ h => ⟨h.1, fun r hr => hk _ _ (h.2 r hr)⟩) h) h) h
  ·exact c4_mono (fun _ _ _ _ h => c4_mono (fun _ _ _ _ h => ⟨h.1, fun r hr => hk _ _ (h.2 r hr)⟩) h) h
  ·exact c4_mono (fun _ _ _ _ h => c4_mono (fun _ _ _ _ h => ⟨h.1, fun r hr => hk _ _ (h.2 r hr)⟩) h) h
  ·exact h.elim
 ·intro args l K h
  unfold gLc at h
  split at h
  ·obtain ⟨_, _, _, _, _, h⟩ := c4_ex h
   obtain ⟨_, _, _, _, _, h⟩ := c4_ex h
   obtain ⟨_, _, _, _, _, h⟩ := c4_ex h
   exact ⟨_, _, h.2 _ rfl⟩
  ·obtain ⟨_, _, _, _, _, h⟩ := c4_ex h
   obtain ⟨_, _, _, _, _, h⟩ := c4_ex h
   exact ⟨_, _, h.2 _ rfl⟩
  ·obtain ⟨_, _, _, _, _, h⟩ := c4_ex h
   obtain ⟨_, _, _, _, _, h⟩ := c4_ex h
   exact ⟨_, _, h.2 _ rfl⟩
  ·exact h.elim
theorem lc_ok (args : List SV) (l : List (Nat × Reg)) (K : SV → Mem → Prop) (hup : KUp K) (h : gLc args l K) : ∃ U, execF cxLc U Tryz.f89 64 args (memL l) K := by
 unfold gLc at h
 split at h
 ·rename_i y s rz ra rb
  obtain ⟨z0, z1, z2, z3, rfl, q0⟩ := c4_ex h
  obtain ⟨a0, a1, a2, a3, rfl, q1⟩ := c4_ex q0
  obtain ⟨b0, b1, b2, b3, rfl, q2⟩ := c4_ex q1
  refine ⟨u0, ?_⟩
  rw [vc_lc0 z0 z1 z2 z3 a0 a1 a2 a3 b0 b1 b2 b3 y s]
  exact LcP.of q2.1.1.1 q2.1.1.2 q2.1.2.1 q2.1.2.2 fun r r0 hr => hup.le (memL_snoc rfl (by simp)) (q2.2 r hr)
 ·rename_i y s rz ra
  obtain ⟨z0, z1, z2, z3, rfl, q0⟩ := c4_ex h
  obtain ⟨a0, a1, a2, a3, rfl, q1⟩ := c4_ex q0
  refine ⟨u0, ?_⟩
  rw [vc_lc1 z0 z1 z2 z3 a0 a1 a2 a3 y s]
  exact LcP.of q1.1.1.1 q1.1.1.2 q1.1.2.1 q1.1.2.2 fun r r0 hr => hup.le (memL_snoc rfl (by simp)) (q1.2 r hr)
 ·rename_i y s rz rb
  obtain ⟨z0, z1, z2, z3, rfl, q0⟩ := c4_ex h
  obtain ⟨b0, b1, b2, b3, rfl, q1⟩ := c4_ex q0
  refine ⟨u0, ?_⟩
  rw [vc_lc2 z0 z1 z2 z3 b0 b1 b2 b3 y s]
  exact LcP.of q1.1.1.1 q1.1.1.2 q1.1.2.1 q1.1.2.2 fun r r0 hr => hup.le (memL_snoc rfl (by simp)) (q1.2 r hr)
 ·exact h.elim
def kLc : Ef Tryz.prog := mkE mixed 89 Tryz.func89 (by decide) (by kernel_rfl) [] [.ptr 4 false, .ptr 4 true, .num, .ptr 4 true, .num] gLc lc_good lc_ok
def cxMr : Cx Tryz.prog := { rds := [cM0, cM2, cStm, cSub, cAdd], efs := [], eqs := [] }
theorem vc_mr (z0 z1 z2 z3 h : Int) (K : SV → Mem → Prop) : (execF cxMr u0 Tryz.f108 64 [.ptr 1 (.lit 0), .ptr 1 (.lit 0), .int .u64 (.sym h)] (memL [(1, ⟨false, w4 z0 z1 z2 z3⟩)]) K) = (∀ p, p = band .u64 h (9223372036854775808 : Int) → ∀
 x1, x1 = band .u64 h (9223372036854775807 : Int) → ∀ a, a = IntKind.wrap IntKind.u64 (z0 * 9786893198990664585) → ((Wd a ∧ Wd (4332616871279656263 : Int) ∧ Wd z0) ∧ ∀ R, R = m0v a (4332616871279656263 : Int) z0 → ((Wd a ∧ Wd
 (10917124144477883021 : Int) ∧ Wd z1 ∧ Wd R) ∧ ∀ S, S = m2h a (10917124144477883021 : Int) z1 R → ∀ j, j = m2l a (10917124144477883021 : Int) z1 R → ((Wd a ∧ Wd (13281191951274694749 : Int) ∧ Wd z2 ∧ Wd S) ∧ ∀ T, T = m2h a
 (13281191951274694749 : Int) z2 S → ∀ V, V = m2l a (13281191951274694749 : Int) z2 S → ((Wd a ∧ Wd (3486998266802970665 : Int) ∧ Wd z3 ∧ Wd T) ∧ ∀ x8, x8 = m2h a (3486998266802970665 : Int) z3 T → ∀ X, X = m2l a (3486998266802970665 : Int)
 z3 T → ∀ Y, Y = IntKind.wrap IntKind.u64 (x1 + x8) → ∀ b, b = IntKind.wrap IntKind.u64 (j * 9786893198990664585) → ((Wd b ∧ Wd (4332616871279656263 : Int) ∧ Wd j) ∧ ∀ Z, Z = m0v b (4332616871279656263 : Int) j → ((Wd b ∧ Wd
 (10917124144477883021 : Int) ∧ Wd V ∧ Wd Z) ∧ ∀ aa, aa = m2h b (10917124144477883021 : Int) V Z → ∀ k, k = m2l b (10917124144477883021 : Int) V Z → ((Wd b ∧ Wd (13281191951274694749 : Int) ∧ Wd X ∧ Wd aa) ∧ ∀ ab, ab = m2h b
 (13281191951274694749 : Int) X aa → ∀ ac, ac = m2l b (13281191951274694749 : Int) X aa → ((Wd b ∧ Wd (3486998266802970665 : Int) ∧ Wd Y ∧ Wd ab) ∧ ∀ ap, ap = m2h b (3486998266802970665 : Int) Y ab → ∀ ad, ad = m2l b (3486998266802970665 :
 Int) Y ab → ∀ ae, ae = IntKind.wrap IntKind.u64 (0 + ap) → ∀ c, c = IntKind.wrap IntKind.u64 (k * 9786893198990664585) → ((Wd c ∧ Wd (4332616871279656263 : Int) ∧ Wd k) ∧ ∀ af, af = m0v c (4332616871279656263 : Int) k → ((Wd c ∧ Wd
 (10917124144477883021 : Int) ∧ Wd ac ∧ Wd af) ∧ ∀ ag, ag = m2h c (10917124144477883021 : Int) ac af → ∀ l, l = m2l c (10917124144477883021 : Int) ac af → ((Wd c ∧ Wd (13281191951274694749 : Int) ∧ Wd ad ∧ Wd ag) ∧ ∀ ah, ah = m2h c
 (13281191951274694749 : Int) ad ag → ∀ m, m = m2l c (13281191951274694749 : Int) ad ag → ((Wd c ∧ Wd (3486998266802970665 : Int) ∧ Wd ae ∧ Wd ah) ∧ ∀ aq, aq = m2h c (3486998266802970665 : Int) ae ah → ∀ n, n = m2l c (3486998266802970665 :
 Int) ae ah → ∀ o, o = IntKind.wrap IntKind.u64 (0 + aq) → ∀ d, d = IntKind.wrap IntKind.u64 (l * 9786893198990664585) → ((Wd d ∧ Wd (4332616871279656263 : Int) ∧ Wd l) ∧ ∀ ai, ai = m0v d (4332616871279656263 : Int) l → ((Wd d ∧ Wd
 (10917124144477883021 : Int) ∧ Wd m ∧ Wd ai) ∧ ∀ aj, aj = m2h d (10917124144477883021 : Int) m ai → ∀ e, e = m2l d (10917124144477883021 : Int) m ai → ((Wd d ∧ Wd (13281191951274694749 : Int) ∧ Wd n ∧ Wd aj) ∧ ∀ ak, ak = m2h d
 (13281191951274694749 : Int) n aj → ∀ f, f = m2l d (13281191951274694749 : Int) n aj → ((Wd d ∧ Wd (3486998266802970665 : Int) ∧ Wd o ∧ Wd ak) ∧ ∀ g, g = m2h d (3486998266802970665 : Int) o ak → ∀ i, i = m2l d (3486998266802970665 : Int) o
 ak → (Wd e ∧ Wd f ∧ Wd i ∧ Wd g) ∧ (Bool.not (decide (V4 e f i g < 21888242871839275222246405745257275088696311157297823662689037894645226208583)) = true → ((Wd e ∧ Wd (4332616871279656263 : Int) ∧ (0 : Int) ≤ (0 : Int) ∧ (0 : Int) ≤ (1 :
 Int)) ∧ ∀ q, q = difLo e (4332616871279656263 : Int) (0 : Int) → ∀ r, r = difHi e (4332616871279656263 : Int) (0 : Int) → ((Wd f ∧ Wd (10917124144477883021 : Int) ∧ 0 ≤ r ∧ r ≤ 1) ∧ ∀ s, s = difLo f (10917124144477883021 : Int) r → ∀ t, t
 = difHi f (10917124144477883021 : Int) r → ((Wd i ∧ Wd (13281191951274694749 : Int) ∧ 0 ≤ t ∧ t ≤ 1) ∧ ∀ u, u = difLo i (13281191951274694749 : Int) t → ∀ v, v = difHi i (13281191951274694749 : Int) t → ((Wd g ∧ Wd (3486998266802970665 :
 Int) ∧ 0 ≤ v ∧ v ≤ 1) ∧ ∀ w, w = difLo g (3486998266802970665 : Int) v → ∀ a3, a3 = difHi g (3486998266802970665 : Int) v → ((p != 0) = true → ((Wd q ∧ Wd (9223372036854775808 : Int) ∧ (0 : Int) ≤ (0 : Int) ∧ (0 : Int) ≤ (1 : Int)) ∧ ∀ x,
 x = difLo q (9223372036854775808 : Int) (0 : Int) → ∀ y, y = difHi q (9223372036854775808 : Int) (0 : Int) → ((Wd s ∧ Wd (0 : Int) ∧ 0 ≤ y ∧ y ≤ 1) ∧ ∀ z, z = difLo s (0 : Int) y → ∀ A, A = difHi s (0 : Int) y → ((Wd u ∧ Wd (0 : Int) ∧ 0 ≤
 A ∧ A ≤ 1) ∧ ∀ B, B = difLo u (0 : Int) A → ∀ C, C = difHi u (0 : Int) A → ((Wd w ∧ Wd (0 : Int) ∧ 0 ≤ C ∧ C ≤ 1) ∧ ∀ ar, ar = difLo w (0 : Int) C → ∀ al, al = difHi w (0 : Int) C → ((al != 0) = true → ((Wd x ∧ Wd (4332616871279656263 :
 Int) ∧ (0 : Int) ≤ (0 : Int) ∧ (0 : Int) ≤ (1 : Int)) ∧ ∀ au, au = sumLo x (4332616871279656263 : Int) (0 : Int) → ∀ D, D = sumHi x (4332616871279656263 : Int) (0 : Int) → ((Wd z ∧ Wd (10917124144477883021 : Int) ∧ 0 ≤ D ∧ D ≤ 1) ∧ ∀ av,
 av = sumLo z (10917124144477883021 : Int) D → ∀ E, E = sumHi z (10917124144477883021 : Int) D → ((Wd B ∧ Wd (13281191951274694749 : Int) ∧ 0 ≤ E ∧ E ≤ 1) ∧ ∀ aw, aw = sumLo B (13281191951274694749 : Int) E → ∀ F, F = sumHi B
 (13281191951274694749 : Int) E → ((Wd (18446744073709551615 : Int) ∧ Wd (3486998266802970665 : Int) ∧ 0 ≤ F ∧ F ≤ 1) ∧ ∀ ax, ax = sumLo (18446744073709551615 : Int) (3486998266802970665 : Int) F → ∀ a4, a4 = sumHi (18446744073709551615 :
 Int) (3486998266802970665 : Int) F → K (.tup []) (memL [(1, ⟨false, .cells [.int .u64 (.sym au), .int .u64 (.sym av), .int .u64 (.sym aw), .int .u64 (.sym ax)]⟩), (569, ⟨false, .cells [.int .u64 (.lit 0), .int .u64 (.sym j), .int .u64
 (.sym k), .int .u64 (.sym l), .int .u64 (.sym m), .int .u64 (.sym n), .int .u64 (.sym o)]⟩)])))))) ∧ ((al != 0) = false → K (.tup []) (memL [(1, ⟨false, .cells [.int .u64 (.sym x), .int .u64 (.sym z), .int .u64 (.sym B), .int .u64 (.sym
 ar)]⟩), (569, ⟨false, .cells [.int .u64 (.lit 0), .int .u64 (.sym j), .int .u64 (.sym k), .int .u64 (.sym l), .int .u64 (.sym m), .int .u64 (.sym n), .int .u64 (.sym o)]⟩)]))))))) ∧ ((p != 0) = false → K (.tup []) (memL [(1, ⟨false, .cells
 [.int .u64 (.sym q), .int .u64 (.sym s), .int .u64 (.sym u), .int .u64 (.sym w)]⟩), (569, ⟨false, .cells [.int .u64 (.lit 0), .int .u64 (.sym j), .int .u64 (.sym k), .int .u64 (.sym l), .int .u64 (.sym m), .int .u64 (.sym n), .int .u64
 (.sym o)]⟩)]))))))) ∧ (Bool.not (decide (V4 e f i g < 21888242871839275222246405745257275088696311157297823662689037894645226208583)) = false → ((p != 0) = true → ((Wd e ∧ Wd (9223372036854775808 : Int) ∧ (0 : Int) ≤ (0 : Int) ∧ (0 : Int)
 ≤ (1 : Int)) ∧ ∀ G, G = difLo e (9223372036854775808 : Int) (0 : Int) → ∀ H, H = difHi e (9223372036854775808 : Int) (0 : Int) → ((Wd f ∧ Wd (0 : Int) ∧ 0 ≤ H ∧ H ≤ 1) ∧ ∀ I, I = difLo f (0 : Int) H → ∀ J, J = difHi f (0 : Int) H → ((Wd i
 ∧ Wd (0 : Int) ∧ 0 ≤ J ∧ J ≤ 1) ∧ ∀ L, L = difLo i (0 : Int) J → ∀ M, M = difHi i (0 : Int) J → ((Wd g ∧ Wd (0 : Int) ∧ 0 ≤ M ∧ M ≤ 1) ∧ ∀ ay, ay = difLo g (0 : Int) M → ∀ am, am = difHi g (0 : Int) M → ((am != 0) = true → ((Wd G ∧ Wd
 (4332616871279656263 : Int) ∧ (0 : Int) ≤ (0 : Int) ∧ (0 : Int) ≤ (1 : Int)) ∧ ∀ az, az = sumLo G (4332616871279656263 : Int) (0 : Int) → ∀ N, N = sumHi G (4332616871279656263 : Int) (0 : Int) → ((Wd I ∧ Wd (10917124144477883021 : Int) ∧ 0
 ≤ N ∧ N ≤ 1) ∧ ∀ a0, a0 = sumLo I (10917124144477883021 : Int) N → ∀ O, O = sumHi I (10917124144477883021 : Int) N → ((Wd L ∧ Wd (13281191951274694749 : Int) ∧ 0 ≤ O ∧ O ≤ 1) ∧ ∀ a1, a1 = sumLo L (13281191951274694749 : Int) O → ∀ Q, Q =
 sumHi L (13281191951274694749 : Int) O → ((Wd (18446744073709551615 : Int) ∧ Wd (3486998266802970665 : Int) ∧ 0 ≤ Q ∧ Q ≤ 1) ∧ ∀ a2, a2 = sumLo (18446744073709551615 : Int) (3486998266802970665 : Int) Q → ∀ a5, a5 = sumHi
 (18446744073709551615 : Int) (3486998266802970665 : Int) Q → K (.tup []) (memL [(1, ⟨false, .cells [.int .u64 (.sym az), .int .u64 (.sym a0), .int .u64 (.sym a1), .int .u64 (.sym a2)]⟩), (569, ⟨false, .cells [.int .u64 (.lit 0), .int .u64
 (.sym j), .int .u64 (.sym k), .int .u64 (.sym l), .int .u64 (.sym m), .int .u64 (.sym n), .int .u64 (.sym o)]⟩)])))))) ∧ ((am != 0) = false → K (.tup []) (memL [(1, ⟨false, .cells [.int .u64 (.sym G), .int .u64 (.sym I), .int .u64 (.sym
 L), .int .u64 (.sym ay)]⟩), (569, ⟨false, .cells [.int .u64 (.lit 0), .int .u64 (.sym j), .int .u64 (.sym k), .int .u64 (.sym l), .int .u64 (.sym m), .int .u64 (.sym n), .int .u64 (.sym o)]⟩)]))))))) ∧ ((p != 0) = false → K (.tup []) (memL
 [(1, ⟨false, .cells [.int .u64 (.sym e), .int .u64 (.sym f), .int .u64 (.sym i), .int .u64 (.sym g)]⟩), (569, ⟨false, .cells [.int .u64 (.lit 0), .int .u64 (.sym j), .int .u64 (.sym k), .int .u64 (.sym l), .int .u64 (.sym m), .int .u64
 (.sym n), .int .u64 (.sym o)]⟩)])))))))))))))))))))) := by kernel_rfl
theorem wdA {x a b c : Int} (h : x = m0v a b c) : Wd x := h ▸ m0v_wd _ _ _
theorem wdB {x a b c d : Int} (h : x = m2h a b c d) : Wd x := h ▸ m2h_wd _ _ _ _
theorem wdC {x a b c d : Int} (h : x = m2l a b c d) : Wd x := h ▸ m2l_wd _ _ _ _
theorem wdD {x a b c : Int} (h : x = sumLo a b c) : Wd x := h ▸ sumLo_wd _ _ _
theorem wdE {x a b c : Int} (h : x = difLo a b c) : Wd x := by rw [h]; unfold difLo Wd; omega
theorem wdF {x a : Int} (h : x = IntKind.u64.wrap a) : Wd x := by rw [h, wu64]; unfold Wd; omega
theorem btA {x a b c : Int} (h : x = sumHi a b c) (ha : Wd a) (hb : Wd b) (h0 : 0 ≤ c) (h1 : c ≤ 1) : 0 ≤ x ∧ x ≤ 1 := h ▸ sumHi_le ha hb h0 h1
theorem btB {x a b c : Int} (h : x = difHi a b c) : 0 ≤ x ∧ x ≤ 1 := by rw [h]; unfold difHi; split <;> omega
set_option maxHeartbeats 4000000 in
theorem mr_walk {z0 z1 z2 z3 h : Int} {K : SV → Mem → Prop} (w0 : Wd z0) (w1 : Wd z1) (w2 : Wd z2) (w3 : Wd z3) (hK : ∀ y0 y1 y2 y3, Wd y0 → Wd y1 → Wd y2 → Wd y3 → ∀ g, K (.tup []) (memL [(1, ⟨false, w4 y0 y1 y2 y3⟩), (569, g)])) :
  execF cxMr u0 Tryz.f108 64 [.ptr 1 (.lit 0), .ptr 1 (.lit 0), .int .u64 (.sym h)] (memL [(1, ⟨false, w4 z0 z1 z2 z3⟩)]) K := by
 rw [vc_mr]
 have q0 := wdq0
 have q1 := wdq1
 have q2 := wdq2
 have q3 := wdq3
 have c0 := wd0
 have c1 : (0 : Int) ≤ 0 := Int.le_refl _
 have c2 : (0 : Int) ≤ 1 := by decide
 have c3 : Wd 9223372036854775808 := by unfold Wd; omega
 have c4 := wd_max
 repeat' first
  | assumption
  | exact hK _ _ _ _ (by assumption) (by assumption) (by assumption) (by assumption) _
  | apply And.intro
  | (intro x h; have w := wdA h)
  | (intro x h; have w := wdB h)
  | (intro x h; have w := wdC h)
  | (intro x h; have w := wdD h)
  | (intro x h; have w := wdE h)
  | (intro x h; have w := wdF h)
  | (intro x h; obtain ⟨_, _⟩ := btA h (by assumption) (by assumption) (by assumption) (by assumption))
  | (intro x h; obtain ⟨_, _⟩ := btB h)
  | intro _
def gMr : G0 := fun args l K =>
 match args, l with
 | [.ptr 1 (.lit 0), .ptr 1 (.lit 0), .int .u64 (.sym s)], [(1, ⟨false, z⟩)] => c4 z fun z0 z1 z2 z3 => ((Wd z0 ∧ Wd z1 ∧ Wd z2 ∧ Wd z3) ∧ ∀ y0 y1 y2 y3, (Wd y0 ∧ Wd y1 ∧ Wd y2 ∧ Wd y3) → K (.tup []) (memL [(1, ⟨false, w4 y0 y1 y2 y3⟩)]))
 | _, _ => False
theorem mr_good : Good gMr := by
 constructor
 ·intro args l K K' hk h
  unfold gMr at h ⊢
  split at h
  ·exact c4_mono (fun _ _ _ _ h => ⟨h.1, fun y0 y1 y2 y3 hy => hk _ _ (h.2 y0 y1 y2 y3 hy)⟩) h
  ·exact h.elim
 ·intro args l K h
  unfold gMr at h
  split at h
  ·obtain ⟨_, _, _, _, _, h⟩ := c4_ex h
   exact ⟨_, _, h.2 0 0 0 0 ⟨wd0, wd0, wd0, wd0⟩⟩
  ·exact h.elim
theorem mr_ok (args : List SV) (l : List (Nat × Reg)) (K : SV → Mem → Prop) (hup : KUp K) (h : gMr args l K) : ∃ U, execF cxMr U Tryz.f108 64 args (memL l) K := by
 unfold gMr at h
 split at h
 ·rename_i s zz
  obtain ⟨z0, z1, z2, z3, rfl, q0⟩ := c4_ex h
  exact ⟨u0, mr_walk q0.1.1 q0.1.2.1 q0.1.2.2.1 q0.1.2.2.2 fun y0 y1 y2 y3 h0 h1 h2 h3 g => hup.le (memL_snoc rfl (by simp)) (q0.2 y0 y1 y2 y3 ⟨h0, h1, h2, h3⟩)⟩
 ·exact h.elim
def kMr : Ef Tryz.prog := mkE mixed 108 Tryz.func108 (by decide) (by kernel_rfl) [] [.ptr 4 false, .ptr 4 true, .num] gMr mr_good mr_ok
def cxLn : Cx Tryz.prog := { rds := [], efs := [kLc, kMr], eqs := [] }
theorem vc_ln0 (z0 z1 z2 z3 b0 b1 b2 b3 y s : Int) (K : SV → Mem → Prop) : (execF cxLn u0 Tryz.f91 64 [.ptr 1 (.lit 0), .ptr 1 (.lit 0), .int .i64 (.sym y), .ptr 9 (.lit 0), .int .i64 (.sym s)] (memL [(1, ⟨false, w4 z0 z1 z2 z3⟩), (9,
 ⟨true, w4 b0 b1 b2 b3⟩)]) K) = ((((Wd z0 ∧ Wd z1 ∧ Wd z2 ∧ Wd z3) ∧ Wd b0 ∧ Wd b1 ∧ Wd b2 ∧ Wd b3) ∧ I64 y ∧ I64 s) ∧ ∀ r, r = m5 (V4 z0 z1 z2 z3 * y + V4 b0 b1 b2 b3 * s) → ((Wd (lm r 0) ∧ Wd (lm r 1) ∧ Wd (lm r 2) ∧ Wd (lm r 3)) ∧ ∀ a b
 c d, Wd a ∧ Wd b ∧ Wd c ∧ Wd d → K (.tup []) (memL [(1, ⟨false, w4 a b c d⟩), (9, ⟨true, w4 b0 b1 b2 b3⟩)]))) := by kernel_rfl
theorem vc_ln1 (z0 z1 z2 z3 a0 a1 a2 a3 y s : Int) (K : SV → Mem → Prop) : (execF cxLn u0 Tryz.f91 64 [.ptr 1 (.lit 0), .ptr 9 (.lit 0), .int .i64 (.sym y), .ptr 1 (.lit 0), .int .i64 (.sym s)] (memL [(1, ⟨false, w4 z0 z1 z2 z3⟩), (9,
 ⟨true, w4 a0 a1 a2 a3⟩)]) K) = ((((Wd a0 ∧ Wd a1 ∧ Wd a2 ∧ Wd a3) ∧ Wd z0 ∧ Wd z1 ∧ Wd z2 ∧ Wd z3) ∧ I64 y ∧ I64 s) ∧ ∀ r, r = m5 (V4 a0 a1 a2 a3 * y + V4 z0 z1 z2 z3 * s) → ((Wd (lm r 0) ∧ Wd (lm r 1) ∧ Wd (lm r 2) ∧ Wd (lm r 3)) ∧ ∀ a b
 c d, Wd a ∧ Wd b ∧ Wd c ∧ Wd d → K (.tup []) (memL [(1, ⟨false, w4 a b c d⟩), (9, ⟨true, w4 a0 a1 a2 a3⟩)]))) := by kernel_rfl
def gLn : G0 := fun args l K =>
 match args, l with
 | [.ptr 1 (.lit 0), .ptr 1 (.lit 0), .int .i64 (.sym y), .ptr 9 (.lit 0), .int .i64 (.sym s)], [(1, ⟨false, rz⟩), (9, ⟨true, rb⟩)] => c4 rz fun z0 z1 z2 z3 => c4 rb fun b0 b1 b2 b3 => (((Wd z0 ∧ Wd z1 ∧ Wd z2 ∧ Wd z3) ∧ (Wd b0 ∧ Wd b1 ∧ Wd b2 ∧ Wd b3)) ∧ I64 y ∧ I64 s) ∧ ∀ y0 y1 y2 y3, (Wd y0 ∧ Wd y1 ∧ Wd y2 ∧ Wd y3) → K (.tup []) (memL [(1, ⟨false, w4 y0 y1 y2 y3⟩), (9, ⟨true, w4 b0 b1 b2 b3⟩)])
 | [.ptr 1 (.lit 0), .ptr 9 (.lit 0), .int .i64 (.sym y), .ptr 1 (.lit 0), .int .i64 (.sym s)], [(1, ⟨false, rz⟩), (9, ⟨true, ra⟩)] => c4 rz fun z0 z1 z2 z3 => c4 ra fun a0 a1 a2 a3 => (((Wd a0 ∧ Wd a1 ∧ Wd a2 ∧ Wd a3) ∧ (Wd z0 ∧ Wd z1 ∧ Wd z2 ∧ Wd z3)) ∧ I64 y ∧ I64 s) ∧ ∀ y0 y1 y2 y3, (Wd y0 ∧ Wd y1 ∧ Wd y2 ∧ Wd y3) → K (.tup []) (memL [(1, ⟨false, w4 y0 y1 y2 y3⟩), (9, ⟨true, w4 a0 a1 a2 a3⟩)])
 | _, _ => False
theorem ln_good : Good gLn := by
 constructor
 ·intro args l K K' hk h
  unfold gLn at h ⊢
  split at h
  ·exact c4_mono (fun _ _ _ _ h => c4_mono (fun _ _ _ _ h => ⟨h.1, fun y0 y1 y2 y3 hy => hk _ _ (h.2 y0 y1 y2 y3 hy)⟩) h) h
  ·exact c4_mono (fun _ _ _ _ h => c4_mono (fun _ _ _ _ h => ⟨h.1, fun y0 y1 y2 y3 hy => hk _ _ (h.2 y0 y1 y2 y3 hy)⟩) h) h
  ·exact h.elim
 ·intro args l K h
  unfold gLn at h
  split at h
  ·obtain ⟨_, _, _, _, _, h⟩ := c4_ex h
   obtain ⟨_, _, _, _, _, h⟩ := c4_ex h
   exact ⟨_, _, h.2 0 0 0 0 ⟨wd0, wd0, wd0, wd0⟩⟩
  ·obtain ⟨_, _, _, _, _, h⟩ := c4_ex h
   obtain ⟨_, _, _, _, _, h⟩ := c4_ex h
   exact ⟨_, _, h.2 0 0 0 0 ⟨wd0, wd0, wd0, wd0⟩⟩
  ·exact h.elim
theorem ln_ok (args : List SV) (l : List (Nat × Reg)) (K : SV → Mem → Prop) (hup : KUp K) (h : gLn args l K) : ∃ U, execF cxLn U Tryz.f91 64 args (memL l) K := by
 unfold gLn at h
 split at h
 ·rename_i y s rz rb
  obtain ⟨z0, z1, z2, z3, rfl, q0⟩ := c4_ex h
  obtain ⟨b0, b1, b2, b3, rfl, q1⟩ := c4_ex q0
  refine ⟨u0, ?_⟩
  rw [vc_ln0 z0 z1 z2 z3 b0 b1 b2 b3 y s]
  exact ⟨q1.1, fun r _ => ⟨⟨lm_wd _ _, lm_wd _ _, lm_wd _ _, lm_wd _ _⟩, q1.2⟩⟩
 ·rename_i y s rz ra
  obtain ⟨z0, z1, z2, z3, rfl, q0⟩ := c4_ex h
  obtain ⟨a0, a1, a2, a3, rfl, q1⟩ := c4_ex q0
  refine ⟨u0, ?_⟩
  rw [vc_ln1 z0 z1 z2 z3 a0 a1 a2 a3 y s]
  exact ⟨q1.1, fun r _ => ⟨⟨lm_wd _ _, lm_wd _ _, lm_wd _ _, lm_wd _ _⟩, q1.2⟩⟩
 ·exact h.elim
def kLn : Ef Tryz.prog := mkE mixed 91 Tryz.func91 (by decide) (by kernel_rfl) [] [.ptr 4 false, .ptr 4 true, .num, .ptr 4 true, .num] gLn ln_good ln_ok
end Go.Sx
namespace Go.Num
def pr (f : Nat → Int) : Nat → Int
 | 0 => 1
 | m + 1 => pr f m * f (m + 1)
def sm (f : Nat → Nat) : Nat → Nat
 | 0 => 0
 | m + 1 => sm f m + f (m + 1)
theorem pr_congr {f g : Nat → Int} : ∀ {m : Nat}, (∀ k, 1 ≤ k → k ≤ m → f k = g k) → pr f m = pr g m
 | 0, _ => rfl
 | m + 1, h => by rw [pr, pr, pr_congr fun k h1 h2 => h k h1 (Nat.le_succ_of_le h2), h (m + 1) (Nat.succ_pos _) (Nat.le_refl _)]
theorem sm_congr {f g : Nat → Nat} : ∀ {m : Nat}, (∀ k, 1 ≤ k → k ≤ m → f k = g k) → sm f m = sm g m
 | 0, _ => rfl
 | m + 1, h => by rw [sm, sm, sm_congr fun k h1 h2 => h k h1 (Nat.le_succ_of_le h2), h (m + 1) (Nat.succ_pos _) (Nat.le_refl _)]
theorem pr_mul (f g : Nat → Int) : ∀ m, pr (fun k => f k * g k) m = pr f m * pr g m
 | 0 => rfl
 | m + 1 => by
  rw [pr, pr, pr, pr_mul f g m]
  simp only [Int.mul_assoc, Int.mul_left_comm, Int.mul_comm]
theorem sm_add (f g : Nat → Nat) : ∀ m, sm (fun k => f k + g k) m = sm f m + sm g m
 | 0 => rfl
 | m + 1 => by rw [sm, sm, sm, sm_add f g m]; omega
theorem pr_const (c : Int) : ∀ m, pr (fun _ => c) m = c ^ m
 | 0 => by rw [pr, Int.pow_zero]
 | m + 1 => by rw [pr, pr_const c m, Int.pow_succ]
theorem sm_const (c : Nat) : ∀ m, sm (fun _ => c) m = m * c
 | 0 => by rw [sm, Nat.zero_mul]
 | m + 1 => by rw [sm, sm_const c m, Nat.succ_mul]
theorem sm_swap (f : Nat → Nat → Nat) (n : Nat) : ∀ m, sm (fun k => sm (f k) n) m = sm (fun j => sm (fun k => f k j) m) n
 | 0 => by
  show 0 = sm (fun _ => 0) n
  rw [sm_const, Nat.mul_zero]
 | m + 1 => by
  rw [sm, sm_swap f n m, ← sm_add]
  rfl
def up : Nat → List Nat
 | 0 => []
 | m + 1 => (m + 1) :: up m
theorem mem_up : ∀ {m k : Nat}, k ∈ up m ↔ 1 ≤ k ∧ k ≤ m
 | 0, k => by simp [up]; omega
 | m + 1, k => by
  rw [up, List.mem_cons, mem_up]
  omega
theorem up_length : ∀ m, (up m).length = m
 | 0 => rfl
 | m + 1 => by rw [up, List.length_cons, up_length m]
theorem up_nodup : ∀ m, (up m).Nodup
 | 0 => List.nodup_nil
 | m + 1 => by
  rw [up, List.nodup_cons]
  exact ⟨fun h => by have := (mem_up.1 h).2; omega, up_nodup m⟩
def lp (l : List Int) : Int := l.foldr (· * ·) 1
def ls (l : List Nat) : Nat := l.foldr (· + ·) 0
theorem pr_list (f : Nat → Int) : ∀ m, pr f m = lp ((up m).map f)
 | 0 => rfl
 | m + 1 => by
  rw [pr, pr_list f m, Int.mul_comm]
  rfl
theorem sm_list (f : Nat → Nat) : ∀ m, sm f m = ls ((up m).map f)
 | 0 => rfl
 | m + 1 => by
  rw [sm, sm_list f m, Nat.add_comm]
  rfl
theorem lp_perm {a b : List Int} (h : a.Perm b) : lp a = lp b := by
 induction h with
 | nil => rfl
 | cons x _ ih => show x * lp _ = x * lp _; rw [ih]
 | swap x y l => show y * (x * lp l) = x * (y * lp l); rw [Int.mul_left_comm]
 | trans _ _ h1 h2 => exact h1.trans h2
theorem ls_perm {a b : List Nat} (h : a.Perm b) : ls a = ls b := by
 induction h with
 | nil => rfl
 | cons x _ ih => show x + ls _ = x + ls _; rw [ih]
 | swap x y l => show y + (x + ls l) = x + (y + ls l); omega
 | trans _ _ h1 h2 => exact h1.trans h2
theorem perm_sub : ∀ {a b : List Nat}, a.Nodup → (∀ x ∈ a, x ∈ b) → b.length ≤ a.length → a.Perm b
 | [], b, _, _, hl => by
  have : b = [] := List.length_eq_zero_iff.1 (Nat.le_zero.1 hl)
  rw [this]
 | x :: a, b, hn, hs, hl => by
  rw [List.nodup_cons] at hn
  have hx : x ∈ b := hs x List.mem_cons_self
  have hp := List.perm_cons_erase hx
  refine List.Perm.trans (List.Perm.cons x (perm_sub hn.2 ?_ ?_)) hp.symm
  ·intro y hy
   have : y ≠ x := fun h => hn.1 (h ▸ hy)
   exact (List.mem_erase_of_ne this).2 (hs y (List.mem_cons_of_mem _ hy))
  ·rw [List.length_erase_of_mem hx]
   simp only [List.length_cons] at hl
   omega
theorem up_perm {m : Nat} {s : Nat → Nat} (hs : ∀ k, 1 ≤ k → k ≤ m → 1 ≤ s k ∧ s k ≤ m) (hi : ∀ k j, 1 ≤ k → k ≤ m → 1 ≤ j → j ≤ m → s k = s j → k = j) : ((up m).map s).Perm (up m) := by
 refine perm_sub ?_ ?_ ?_
 ·rw [List.nodup_iff_pairwise_ne, List.pairwise_map]
  refine List.Pairwise.imp_of_mem ?_ (List.nodup_iff_pairwise_ne.1 (up_nodup m))
  intro a b ha hb hne h
  have ha := mem_up.1 ha
  have hb := mem_up.1 hb
  exact hne (hi a b ha.1 ha.2 hb.1 hb.2 h)
 ·intro x hx
  obtain ⟨k, hk, rfl⟩ := List.mem_map.1 hx
  have hk := mem_up.1 hk
  exact mem_up.2 (hs k hk.1 hk.2)
 ·rw [List.length_map]
  exact Nat.le_refl _
theorem pr_perm {m : Nat} {s : Nat → Nat} (f : Nat → Int) (hs : ∀ k, 1 ≤ k → k ≤ m → 1 ≤ s k ∧ s k ≤ m) (hi : ∀ k j, 1 ≤ k → k ≤ m → 1 ≤ j → j ≤ m → s k = s j → k = j) : pr (fun k => f (s k)) m = pr f m := by
 rw [pr_list, pr_list, show (fun k => f (s k)) = f ∘ s from rfl, ← List.map_map]
 exact lp_perm ((up_perm hs hi).map f)
theorem sm_perm {m : Nat} {s : Nat → Nat} (f : Nat → Nat) (hs : ∀ k, 1 ≤ k → k ≤ m → 1 ≤ s k ∧ s k ≤ m) (hi : ∀ k j, 1 ≤ k → k ≤ m → 1 ≤ j → j ≤ m → s k = s j → k = j) : sm (fun k => f (s k)) m = sm f m := by
 rw [sm_list, sm_list, show (fun k => f (s k)) = f ∘ s from rfl, ← List.map_map]
 exact ls_perm ((up_perm hs hi).map f)
end Go.Num
namespace Go.Num
def rm (a : Int) (n k : Nat) : Nat := (a * k % n).toNat
def sk (a : Int) (n k : Nat) : Nat := if 2 * rm a n k < n then rm a n k else n - rm a n k
def sg (a : Int) (n k : Nat) : Int := if 2 * rm a n k < n then 1 else -1
def J (a : Int) (n : Nat) : Int := pr (sg a n) (n / 2)
theorem cop_dvd {n : Nat} {a x : Int} (hc : Nat.Coprime n a.natAbs) (h : (n : Int) ∣ a * x) : (n : Int) ∣ x := by
 rw [Int.ofNat_dvd_left] at h ⊢
 rw [Int.natAbs_mul] at h
 exact hc.dvd_of_dvd_mul_left h
theorem rm_spec {a : Int} {n k : Nat} (hn : 0 < n) : ((rm a n k : Nat) : Int) = a * k % n ∧ rm a n k < n := by
 have h0 := Int.emod_nonneg (a * k) (show (n : Int) ≠ 0 by omega)
 have h1 := Int.emod_lt_of_pos (a * k) (show (0 : Int) < n by omega)
 unfold rm
 omega
theorem rm_pos {a : Int} {n k : Nat} (hn : 0 < n) (hc : Nat.Coprime n a.natAbs) (h1 : 1 ≤ k) (h2 : k < n) : 0 < rm a n k := by
 obtain ⟨e, _⟩ := rm_spec (a := a) (k := k) hn
 apply Nat.pos_of_ne_zero
 intro h0
 rw [h0] at e
 have hd : (n : Int) ∣ a * k := Int.dvd_of_emod_eq_zero e.symm
 have := cop_dvd hc hd
 have := Int.le_of_dvd (by omega) this
 omega
theorem sk_spec {a : Int} {n k : Nat} (hn : n % 2 = 1) (hc : Nat.Coprime n a.natAbs) (h1 : 1 ≤ k) (h2 : k ≤ n / 2) :
  (1 ≤ sk a n k ∧ sk a n k ≤ n / 2) ∧ (sg a n k = 1 ∨ sg a n k = -1) ∧ ∃ t : Int, a * k = sg a n k * sk a n k + n * t := by
 have hp := rm_pos (a := a) (k := k) (by omega) hc h1 (by omega)
 obtain ⟨e, hl⟩ := rm_spec (a := a) (n := n) (k := k) (by omega)
 have hd := Int.emod_add_mul_ediv (a * k) n
 unfold sk sg
 split
 ·exact ⟨by omega, .inl rfl, a * k / n, by omega⟩
 ·refine ⟨by omega, .inr rfl, a * k / n + 1, ?_⟩
  rw [Int.mul_add, Int.mul_one]
  omega
theorem near_eq {n : Nat} {u v : Nat} (hn : n % 2 = 1) (h1 : 1 ≤ u) (h2 : u ≤ n / 2) (h3 : 1 ≤ v) (h4 : v ≤ n / 2) (h : (n : Int) ∣ u - v ∨ (n : Int) ∣ u + v) : u = v := by
 rcases h with ⟨t, ht⟩ | ⟨t, ht⟩
 ·by_cases h0 : t = 0
  ·subst h0; omega
  ·exfalso
   have : (n : Int) ≤ n * t ∨ n * t ≤ -(n : Int) := by
    rcases Int.lt_or_gt_of_ne h0 with h | h
    ·right
     have := Int.mul_le_mul_of_nonneg_left (show t ≤ -1 by omega) (show (0 : Int) ≤ n by omega)
     omega
    ·left
     have := Int.mul_le_mul_of_nonneg_left (show 1 ≤ t by omega) (show (0 : Int) ≤ n by omega)
     omega
   omega
 ·exfalso
  have h0 : 0 < t := by
   apply Int.pos_of_mul_pos_left (b := (n : Int))
   ·rw [Int.mul_comm, ← ht]; omega
   ·omega
  have := Int.mul_le_mul_of_nonneg_left (show 1 ≤ t by omega) (show (0 : Int) ≤ n by omega)
  omega
theorem sk_inj {a : Int} {n k j : Nat} (hn : n % 2 = 1) (hc : Nat.Coprime n a.natAbs) (h1 : 1 ≤ k) (h2 : k ≤ n / 2) (h3 : 1 ≤ j) (h4 : j ≤ n / 2) (h : sk a n k = sk a n j) : k = j := by
 obtain ⟨_, s1, t1, e1⟩ := sk_spec hn hc h1 h2
 obtain ⟨_, s2, t2, e2⟩ := sk_spec hn hc h3 h4
 rw [h] at e1
 refine near_eq hn h1 h2 h3 h4 ?_
 by_cases hs : sg a n k = sg a n j
 ·left
  refine cop_dvd hc ⟨t1 - t2, ?_⟩
  rw [Int.mul_sub, Int.mul_sub, e1, e2, hs]
  omega
 ·right
  refine cop_dvd hc ⟨t1 + t2, ?_⟩
  have : sg a n k = - sg a n j := by omega
  rw [Int.mul_add, Int.mul_add, e1, e2, this, Int.neg_mul]
  omega
theorem rm_congr {a b : Int} {n k j : Nat} (h : ∃ t : Int, a * k = b * j + n * t) : rm a n k = rm b n j := by
 obtain ⟨t, h⟩ := h
 unfold rm
 rw [h, Int.add_mul_emod_self_left]
theorem J_period {a : Int} {n : Nat} (t : Int) : J (a + n * t) n = J a n := by
 unfold J
 refine pr_congr fun k _ _ => ?_
 have : rm (a + n * t) n k = rm a n k := rm_congr ⟨t * k, by rw [Int.add_mul, Int.mul_assoc]⟩
 unfold sg
 rw [this]
theorem sg_neg {a b : Int} {n k j : Nat} (hn : n % 2 = 1) (hc : Nat.Coprime n a.natAbs) (h1 : 1 ≤ k) (h2 : k ≤ n / 2) (h : ∃ t : Int, a * k = -(b * j) + n * t) : sg b n j = - sg a n k := by
 have hp := rm_pos (a := a) (k := k) (by omega) hc h1 (by omega)
 obtain ⟨e, hl⟩ := rm_spec (a := a) (n := n) (k := k) (by omega)
 obtain ⟨t, h⟩ := h
 have e2 : rm b n j = n - rm a n k := by
  have hd := Int.emod_add_mul_ediv (a * k) n
  have : b * j = ((n : Int) - rm a n k) + n * ((a * k / n) * (-1) + t - 1) := by
   rw [Int.mul_sub, Int.mul_add, Int.mul_one, ← Int.mul_assoc]
   omega
  show (b * j % n).toNat = _
  rw [this, Int.add_mul_emod_self_left, Int.emod_eq_of_lt (by omega) (by omega)]
  omega
 unfold sg
 rw [e2]
 split <;> split <;> first | rfl | omega
theorem J_mul {a b : Int} {n : Nat} (hn : n % 2 = 1) (ha : Nat.Coprime n a.natAbs) (hb : Nat.Coprime n b.natAbs) : J (a * b) n = J a n * J b n := by
 have e : pr (sg (a * b) n) (n / 2) = pr (fun k => sg a n (sk b n k) * sg b n k) (n / 2) := by
  refine pr_congr fun k h1 h2 => ?_
  obtain ⟨hs, hg, t, ht⟩ := sk_spec hn hb h1 h2
  rcases hg with hg | hg
  ·have : rm (a * b) n k = rm a n (sk b n k) := rm_congr ⟨a * t, by rw [Int.mul_assoc, ht, hg, Int.one_mul, Int.mul_add, Int.mul_left_comm]⟩
   rw [hg, Int.mul_one]
   unfold sg
   rw [this]
  ·rw [hg, Int.mul_neg, Int.mul_one]
   refine sg_neg hn ha hs.1 hs.2 ⟨a * t, ?_⟩
   rw [Int.mul_assoc a b, ht, hg, Int.mul_add, Int.mul_left_comm a (n : Int) t, Int.neg_mul, Int.one_mul, Int.mul_neg]
   omega
 unfold J
 rw [e, pr_mul, pr_perm (sg a n) (fun k h1 h2 => (sk_spec hn hb h1 h2).1) (fun k j h1 h2 h3 h4 h => sk_inj hn hb h1 h2 h3 h4 h)]
theorem J_one {n : Nat} (hn : n % 2 = 1) : J 1 n = 1 := by
 unfold J
 rw [pr_congr (g := fun _ => 1), pr_const, Int.one_pow]
 intro k h1 h2
 have : rm 1 n k = k := by
  unfold rm
  rw [Int.one_mul, Int.emod_eq_of_lt (by omega) (by omega)]
  omega
 unfold sg
 rw [this, if_pos (by omega)]
theorem J_neg_one {n : Nat} (hn : n % 2 = 1) : J (-1) n = (-1) ^ (n / 2) := by
 unfold J
 rw [pr_congr (g := fun _ => -1), pr_const]
 intro k h1 h2
 have : rm (-1) n k = n - k := by
  unfold rm
  rw [show (-1 : Int) * k = ((n : Int) - k) + n * (-1) by omega, Int.add_mul_emod_self_left, Int.emod_eq_of_lt (by omega) (by omega)]
  omega
 unfold sg
 rw [this, if_neg (by omega)]
theorem J_sq {a : Int} {n : Nat} (hn : n % 2 = 1) (hc : Nat.Coprime n a.natAbs) : J a n = 1 ∨ J a n = -1 := by
 unfold J
 have : ∀ m, m ≤ n / 2 → pr (sg a n) m = 1 ∨ pr (sg a n) m = -1 := by
  intro m
  induction m with
  | zero => intro _; exact .inl rfl
  | succ m ih =>
   intro h
   have i := ih (by omega)
   have g : sg a n (m + 1) = 1 ∨ sg a n (m + 1) = -1 := (sk_spec hn hc (by omega) h).2.1
   rw [pr]
   rcases i with i | i <;> rcases g with g | g <;> rw [i, g] <;> decide
 exact this _ (Nat.le_refl _)
end Go.Num
namespace Go.Num
def Pri (p : Nat) : Prop := 2 ≤ p ∧ ∀ d, d ∣ p → d = 1 ∨ d = p
theorem Pri.cop {p k : Nat} (h : Pri p) (h1 : 0 < k) (h2 : k < p) : Nat.Coprime p k := by
 rcases h.2 _ (Nat.gcd_dvd_left p k) with e | e
 ·exact e
 ·exfalso
  have hd := Nat.gcd_dvd_right p k
  rw [e] at hd
  have := Nat.le_of_dvd h1 hd
  omega
theorem Pri.cop_of {p k : Nat} (h : Pri p) (hk : k % p ≠ 0) : Nat.Coprime p k := by
 have h2 := h.1
 have := h.cop (k := k % p) (by omega) (Nat.mod_lt _ (by omega))
 rw [Nat.Coprime, Nat.gcd_comm, ← Nat.gcd_rec] at this
 exact this
theorem pr_modeq {f g : Nat → Int} {n : Int} : ∀ {m : Nat}, (∀ k, 1 ≤ k → k ≤ m → ∃ t, f k = g k + n * t) → ∃ t, pr f m = pr g m + n * t
 | 0, _ => ⟨0, by simp [pr]⟩
 | m + 1, h => by
  obtain ⟨t, ht⟩ := pr_modeq (m := m) fun k h1 h2 => h k h1 (Nat.le_succ_of_le h2)
  obtain ⟨u, hu⟩ := h (m + 1) (Nat.succ_pos _) (Nat.le_refl _)
  refine ⟨t * g (m + 1) + (pr g m + n * t) * u, ?_⟩
  rw [pr, pr, ht, hu]
  grind
theorem cop_pr {n : Nat} : ∀ {m : Nat}, (∀ k, 1 ≤ k → k ≤ m → Nat.Coprime n k) → Nat.Coprime n (pr (fun k => (k : Int)) m).natAbs
 | 0, _ => by simp [pr]
 | m + 1, h => by
  rw [pr, Int.natAbs_mul]
  exact Nat.Coprime.mul_right (cop_pr fun k h1 h2 => h k h1 (Nat.le_succ_of_le h2)) (h (m + 1) (Nat.succ_pos _) (Nat.le_refl _))
theorem euler {p : Nat} {a : Int} (hp : Pri p) (ho : p % 2 = 1) (hc : Nat.Coprime p a.natAbs) : ∃ t : Int, a ^ (p / 2) = J a p + p * t := by
 have e1 : pr (fun k => a * k) (p / 2) = a ^ (p / 2) * pr (fun k => (k : Int)) (p / 2) := by rw [pr_mul, pr_const]
 obtain ⟨t, e2⟩ := pr_modeq (f := fun k => a * k) (g := fun k => sg a p k * sk a p k) (n := p) (m := p / 2) fun k h1 h2 => (sk_spec ho hc h1 h2).2.2
 rw [e1, pr_mul (sg a p) (fun k => ((sk a p k : Nat) : Int)) (p / 2), pr_perm (fun k => (k : Int)) (fun k h1 h2 => (sk_spec ho hc h1 h2).1) (fun k j h1 h2 h3 h4 h => sk_inj ho hc h1 h2 h3 h4 h)] at e2
 have hd : (p : Int) ∣ pr (fun k => (k : Int)) (p / 2) * (a ^ (p / 2) - J a p) := ⟨t, by unfold J; rw [Int.mul_sub]; grind⟩
 obtain ⟨u, hu⟩ := cop_dvd (cop_pr fun k h1 h2 => hp.cop (by omega) (by have := hp.1; omega)) hd
 exact ⟨u, by omega⟩
theorem euler_mod {p : Nat} {a : Nat} (hp : Pri p) (ho : p % 2 = 1) (hc : a % p ≠ 0) : (J a p = 1 ∧ a ^ (p / 2) % p = 1) ∨ (J a p = -1 ∧ a ^ (p / 2) % p = p - 1) := by
 have h2 := hp.1
 have cc : Nat.Coprime p (a : Int).natAbs := hp.cop_of hc
 obtain ⟨t, ht⟩ := euler hp ho cc
 have e : (((a ^ (p / 2) % p : Nat)) : Int) = J a p % p := by
  rw [Int.natCast_emod, Int.natCast_pow, ht, Int.add_mul_emod_self_left]
 rcases J_sq ho cc with h | h
 ·left
  refine ⟨h, ?_⟩
  rw [h, Int.emod_eq_of_lt (by omega) (by omega)] at e
  omega
 ·right
  refine ⟨h, ?_⟩
  rw [h, show (-1 : Int) = ((p : Int) - 1) + p * (-1) by omega, Int.add_mul_emod_self_left, Int.emod_eq_of_lt (by omega) (by omega)] at e
  omega
theorem fermat {p a : Nat} (hp : Pri p) (hc : a % p ≠ 0) : a ^ (p - 1) % p = 1 := by
 have h2 := hp.1
 rcases Nat.mod_two_eq_zero_or_one p with h | ho
 ·have : p = 2 := by
   rcases hp.2 2 (Nat.dvd_of_mod_eq_zero h) with e | e <;> omega
  subst this
  rw [Nat.pow_one]
  omega
 ·have e : p - 1 = p / 2 + p / 2 := by omega
  rw [e, Nat.pow_add, Nat.mul_mod]
  rcases euler_mod hp ho hc with ⟨_, h⟩ | ⟨_, h⟩ <;> rw [h]
  ·rw [Nat.one_mul, Nat.mod_eq_of_lt (by omega)]
  ·obtain ⟨u, rfl⟩ : ∃ u, p = u + 2 := ⟨p - 2, by omega⟩
   rw [show u + 2 - 1 = u + 1 by omega, show (u + 1) * (u + 1) = 1 + (u + 2) * u by grind, Nat.add_mul_mod_self_left, Nat.mod_eq_of_lt (by omega)]
def pw (n : Nat) : Nat → Nat → Nat → Nat
 | 0, _, _ => 1 % n
 | f + 1, a, e => if e % 2 = 1 then a * pw n f (a * a % n) (e / 2) % n else pw n f (a * a % n) (e / 2)
theorem pw_eq {n : Nat} : ∀ {f a e : Nat}, e < 2 ^ f → pw n f a e = a ^ e % n
 | 0, a, e, h => by
  have : e = 0 := by simpa using h
  rw [this, pw, Nat.pow_zero]
 | f + 1, a, e, h => by
  have ih := pw_eq (n := n) (f := f) (a := a * a % n) (e := e / 2) (by rw [Nat.pow_succ] at h; omega)
  have sq : a ^ (2 * (e / 2)) = (a * a) ^ (e / 2) := by rw [Nat.pow_mul, Nat.pow_two]
  rw [pw, ih, ← Nat.pow_mod]
  split
  ·rename_i ho
   have : e = 2 * (e / 2) + 1 := by omega
   conv => rhs; rw [this, Nat.pow_succ, sq]
   rw [Nat.mul_mod_mod, Nat.mul_comm]
  ·rename_i ho
   have : e = 2 * (e / 2) := by omega
   conv => rhs; rw [this, sq]
theorem pow_gcd {r x : Nat} : ∀ a b : Nat, x ^ a % r = 1 % r → x ^ b % r = 1 % r → x ^ Nat.gcd a b % r = 1 % r := by
 intro a b
 induction a, b using Nat.gcd.induction with
 | H0 n => intro _ h; rw [Nat.gcd_zero_left]; exact h
 | H1 m n _ ih =>
  intro h1 h2
  rw [Nat.gcd_rec]
  refine ih ?_ h1
  have e : x ^ n % r = x ^ (n % m) % r := by
   conv => lhs; rw [← Nat.div_add_mod n m, Nat.pow_add, Nat.pow_mul, Nat.mul_mod, Nat.pow_mod, h1, ← Nat.pow_mod, Nat.one_pow]
   rw [← Nat.mul_mod, Nat.one_mul]
  rw [← e]
  exact h2
theorem least_div : ∀ (n : Nat), 2 ≤ n → ∃ r, Pri r ∧ r ∣ n := by
 intro n
 induction n using Nat.strongRecOn with
 | _ n ih =>
  intro h
  by_cases hp : Pri n
  ·exact ⟨n, hp, Nat.dvd_refl _⟩
  ·have : ∃ d, d ∣ n ∧ d ≠ 1 ∧ d ≠ n := by
    apply Classical.byContradiction
    intro hn
    apply hp
    refine ⟨h, fun d hd => ?_⟩
    by_cases h1 : d = 1
    ·exact .inl h1
    ·by_cases h2 : d = n
     ·exact .inr h2
     ·exact absurd ⟨d, hd, h1, h2⟩ hn
   obtain ⟨d, hd, h1, h2⟩ := this
   have hle := Nat.le_of_dvd (by omega) hd
   have h0 : d ≠ 0 := fun e => by rw [e, Nat.zero_dvd] at hd; omega
   obtain ⟨r, hr, hrd⟩ := ih d (by omega) (by omega)
   exact ⟨r, hr, Nat.dvd_trans hrd hd⟩
theorem pock1 {N p a c r : Nat} (hp : Pri p) (hN : N = p * c + 1) (h1 : a ^ (p * c) % N = 1) (h2 : Nat.gcd (a ^ c % N + (N - 1)) N = 1) (hr : Pri r) (hrN : r ∣ N) : p ∣ r - 1 := by
 have hr2 := hr.1
 have hN0 : 0 < N := by omega
 have hrle := Nat.le_of_dvd hN0 hrN
 obtain ⟨k, hk⟩ := hrN
 have m1 : (a ^ c) ^ p % r = 1 % r := by
  rw [← Nat.pow_mul, Nat.mul_comm c p]
  have : a ^ (p * c) % N % r = 1 % r := by rw [h1]
  rw [hk, Nat.mod_mul_right_mod] at this
  exact this
 have ha : (a ^ c) % r ≠ 0 := by
  intro h
  rw [Nat.pow_mod, h, Nat.zero_pow (by have := hp.1; omega), Nat.zero_mod, Nat.mod_eq_of_lt (by omega)] at m1
  omega
 have m2 : (a ^ c) ^ (r - 1) % r = 1 % r := by
  rw [fermat hr ha, Nat.mod_eq_of_lt (by omega)]
 have m3 := pow_gcd _ _ m1 m2
 rcases hp.2 _ (Nat.gcd_dvd_left p (r - 1)) with e | e
 ·exfalso
  rw [e, Nat.pow_one, Nat.mod_eq_of_lt (show 1 < r by omega)] at m3
  have hx : a ^ c % N % r = 1 := by rw [hk, Nat.mod_mul_right_mod]; exact m3
  have d1 : r ∣ a ^ c % N + (N - 1) := by
   apply Nat.dvd_of_mod_eq_zero
   have hn : (N - 1 + 1) % r = 0 := by
    rw [show N - 1 + 1 = N by omega, hk]
    exact Nat.mul_mod_right r k
   rw [Nat.add_mod, hx]
   rw [Nat.add_mod, Nat.mod_eq_of_lt (show 1 < r by omega)] at hn
   rw [Nat.add_comm]
   exact hn
  have := Nat.dvd_gcd d1 (show r ∣ N from ⟨k, hk⟩)
  rw [h2] at this
  have := Nat.le_of_dvd (by omega) this
  omega
 ·rw [← e]
  exact Nat.gcd_dvd_right _ _
theorem small_div {N : Nat} (h2 : 2 ≤ N) (hn : ¬ Pri N) : ∃ r, Pri r ∧ r ∣ N ∧ r * r ≤ N := by
 have : ∃ d, d ∣ N ∧ d ≠ 1 ∧ d ≠ N := by
  apply Classical.byContradiction
  intro h
  apply hn
  refine ⟨h2, fun d hd => ?_⟩
  by_cases h1 : d = 1
  ·exact .inl h1
  ·by_cases h2 : d = N
   ·exact .inr h2
   ·exact absurd ⟨d, hd, h1, h2⟩ h
 obtain ⟨d, ⟨e, he⟩, h1, h2'⟩ := this
 have he0 : e ≠ 0 := fun h => by rw [h, Nat.mul_zero] at he; omega
 have hd0 : d ≠ 0 := fun h => by rw [h, Nat.zero_mul] at he; omega
 have he1 : e ≠ 1 := fun h => by rw [h, Nat.mul_one] at he; omega
 have key : ∀ u v, u * v = N → 2 ≤ u → u ≤ v → ∃ r, Pri r ∧ r ∣ N ∧ r * r ≤ N := by
  intro u v huv hu hle
  obtain ⟨r, hr, hru⟩ := least_div u hu
  have hru' := Nat.le_of_dvd (by omega) hru
  exact ⟨r, hr, Nat.dvd_trans hru ⟨v, huv.symm⟩, by rw [← huv]; exact Nat.mul_le_mul hru' (by omega)⟩
 rcases Nat.le_total d e with h | h
 ·exact key d e he.symm (by omega) h
 ·exact key e d (by rw [Nat.mul_comm]; exact he.symm) (by omega) h
theorem pock {N F : Nat} (h2 : 2 ≤ N) (hF : N < F * F) (h : ∀ r, Pri r → r ∣ N → F ∣ r - 1) : Pri N := by
 apply Classical.byContradiction
 intro hn
 obtain ⟨r, hr, hrN, hle⟩ := small_div h2 hn
 have hr2 := hr.1
 have := Nat.le_of_dvd (by omega) (h r hr hrN)
 have : F * F ≤ r * r := Nat.mul_le_mul (by omega) (by omega)
 omega
theorem cop_primes {p q : Nat} (hp : Pri p) (hq : Pri q) (h : p ≠ q) : Nat.Coprime p q := by
 rcases hp.2 _ (Nat.gcd_dvd_left p q) with e | e
 ·exact e
 ·have hd := Nat.gcd_dvd_right p q
  rw [e] at hd
  have := hp.1
  rcases hq.2 p hd with h' | h' <;> omega
def trial (n : Nat) : Nat → Nat → Bool
 | 0, _ => false
 | f + 1, d => if n < d * d then true else if n % d = 0 then false else trial n f (d + 1)
theorem trial_pri {n : Nat} (h2 : 2 ≤ n) (h : ∀ d, 2 ≤ d → d * d ≤ n → n % d ≠ 0) : Pri n := by
 apply Classical.byContradiction
 intro hn
 obtain ⟨r, hr, hrN, hle⟩ := small_div h2 hn
 exact h r hr.1 hle (Nat.mod_eq_zero_of_dvd hrN)
theorem trial_ok {n : Nat} : ∀ {f d : Nat}, trial n f d = true → ∀ e, d ≤ e → e * e ≤ n → n % e ≠ 0
 | 0, _, h, _, _, _ => by cases h
 | f + 1, d, h, e, h1, h2 => by
  rw [trial] at h
  split at h
  ·rename_i hd
   have : d * d ≤ e * e := Nat.mul_le_mul h1 h1
   omega
  ·split at h
   ·cases h
   ·rename_i hm
    by_cases he : e = d
    ·rw [he]; exact hm
    ·exact trial_ok h e (by omega) h2
theorem pri_by_trial {n : Nat} (h2 : 2 ≤ n) (h : trial n n 2 = true) : Pri n := trial_pri h2 fun d h1 h3 => trial_ok h d h1 h3
theorem pock1' {N p a c : Nat} {r : Nat} (hp : Pri p) (hN : N = p * c + 1) (f : Nat) (hf : p * c < 2 ^ f) (h1 : pw N f a (p * c) = 1) (h2 : Nat.gcd (pw N f a c + (N - 1)) N = 1) (hr : Pri r) (hrN : r ∣ N) : p ∣ r - 1 := by
 rw [pw_eq hf] at h1
 rw [pw_eq (Nat.lt_of_le_of_lt (Nat.le_mul_of_pos_left c (by have := hp.1; omega)) hf)] at h2
 exact pock1 hp hN h1 h2 hr hrN
theorem pri_13327 : Pri 13327 := pri_by_trial (by decide) (by decide +kernel)
theorem pri_3557 : Pri 3557 := pri_by_trial (by decide) (by decide +kernel)
theorem pri_911 : Pri 911 := pri_by_trial (by decide) (by decide +kernel)
theorem pri_a : Pri 173171039 := pock (F := 13327) (by decide) (by decide) fun r hr hd =>
 pock1' (a := 2) (c := (173171039 - 1) / 13327) pri_13327 (by decide +kernel) 28 (by decide +kernel) (by decide +kernel) (by decide +kernel) hr hd
theorem pri_b : Pri 1263766531 := pock (F := 3557 * 911) (by decide) (by decide) fun r hr hd =>
 Nat.Coprime.mul_dvd_of_dvd_of_dvd (cop_primes pri_3557 pri_911 (by decide))
  (pock1' (a := 2) (c := (1263766531 - 1) / 3557) pri_3557 (by decide +kernel) 31 (by decide +kernel) (by decide +kernel) (by decide +kernel) hr hd)
  (pock1' (a := 2) (c := (1263766531 - 1) / 911) pri_911 (by decide +kernel) 31 (by decide +kernel) (by decide +kernel) (by decide +kernel) hr hd)
theorem pri_c : Pri 35385462869 := pock (F := 1263766531) (by decide) (by decide) fun r hr hd =>
 pock1' (a := 2) (c := (35385462869 - 1) / 1263766531) pri_b (by decide +kernel) 36 (by decide +kernel) (by decide +kernel) (by decide +kernel) hr hd
theorem pri_d : Pri 2480874801745591 := pock (F := 35385462869) (by decide) (by decide) fun r hr hd =>
 pock1' (a := 2) (c := (2480874801745591 - 1) / 35385462869) pri_c (by decide +kernel) 52 (by decide +kernel) (by decide +kernel) (by decide +kernel) hr hd
theorem pri_e : Pri 13427688667394608761327070753331941386769 := pock (F := 2480874801745591 * 173171039) (by decide) (by decide) fun r hr hd =>
 Nat.Coprime.mul_dvd_of_dvd_of_dvd (cop_primes pri_d pri_a (by decide))
  (pock1' (a := 2) (c := (13427688667394608761327070753331941386769 - 1) / 2480874801745591) pri_d (by decide +kernel) 134 (by decide +kernel) (by decide +kernel) (by decide +kernel) hr hd)
  (pock1' (a := 2) (c := (13427688667394608761327070753331941386769 - 1) / 173171039) pri_a (by decide +kernel) 134 (by decide +kernel) (by decide +kernel) (by decide +kernel) hr hd)
theorem pri_q : Pri 21888242871839275222246405745257275088696311157297823662689037894645226208583 := pock (F := 13427688667394608761327070753331941386769) (by decide) (by decide) fun r hr hd =>
 pock1' (a := 2) (c := (21888242871839275222246405745257275088696311157297823662689037894645226208583 - 1) / 13427688667394608761327070753331941386769) pri_e (by decide +kernel) 254 (by decide +kernel) (by decide +kernel) (by decide +kernel) hr hd
end Go.Num
namespace Go.Num
def ps (t : Nat) : Int := if t % 2 = 0 then 1 else -1
theorem ps_add (a b : Nat) : ps (a + b) = ps a * ps b := by
 unfold ps
 rcases Nat.mod_two_eq_zero_or_one a with h | h <;> rcases Nat.mod_two_eq_zero_or_one b with g | g <;> rw [Nat.add_mod, h, g] <;> decide
theorem ps_mod {a b : Nat} (h : a % 2 = b % 2) : ps a = ps b := by unfold ps; rw [h]
theorem ps_pow : ∀ t, ps t = (-1) ^ t
 | 0 => rfl
 | t + 1 => by rw [ps_add, ps_pow t, Int.pow_succ]; rfl
theorem pr_ps (f : Nat → Nat) : ∀ m, pr (fun k => ps (f k)) m = ps (sm f m)
 | 0 => rfl
 | m + 1 => by rw [pr, sm, pr_ps f m, ps_add]
theorem J_neg {n : Nat} (hn : n % 2 = 1) : J (-1) n = ps (n / 2) := by rw [J_neg_one hn, ps_pow]
theorem J_two {n : Nat} (hn : n % 2 = 1) : J 2 n = if n % 8 = 3 ∨ n % 8 = 5 then -1 else 1 := by
 have key : ∀ m, m ≤ n / 2 → pr (sg 2 n) m = ps (m - n / 4) := by
  intro m
  induction m with
  | zero => intro _; rw [pr, Nat.zero_sub]; rfl
  | succ m ih =>
   intro h
   rw [pr, ih (by omega)]
   have hr : rm 2 n (m + 1) = 2 * (m + 1) := by
    unfold rm
    rw [Int.emod_eq_of_lt (by omega) (by omega)]
    omega
   unfold sg
   rw [hr]
   split
   ·rw [show m - n / 4 = 0 by omega, show m + 1 - n / 4 = 0 by omega, Int.mul_one]
   ·rw [show m + 1 - n / 4 = (m - n / 4) + 1 by omega, ps_add]
    rfl
 unfold J
 rw [key _ (Nat.le_refl _)]
 unfold ps
 split <;> split <;> first | rfl | omega
def ep (m n k : Nat) : Nat := if 2 * rm m n k < n then 0 else 1
theorem sm_mod {f g : Nat → Nat} : ∀ {m : Nat}, (∀ k, 1 ≤ k → k ≤ m → f k % 2 = g k % 2) → sm f m % 2 = sm g m % 2
 | 0, _ => rfl
 | m + 1, h => by
  rw [sm, sm, Nat.add_mod, sm_mod fun k h1 h2 => h k h1 (Nat.le_succ_of_le h2), h (m + 1) (Nat.succ_pos _) (Nat.le_refl _), ← Nat.add_mod]
theorem J_floor {m n : Nat} (hm : m % 2 = 1) (hn : n % 2 = 1) (hc : Nat.Coprime n m) : J m n = ps (sm (fun k => m * k / n) (n / 2)) := by
 have hc' : Nat.Coprime n (m : Int).natAbs := hc
 have e1 : J m n = ps (sm (ep m n) (n / 2)) := by
  unfold J
  rw [← pr_ps]
  refine pr_congr fun k _ _ => ?_
  unfold sg ep
  split <;> rfl
 rw [e1]
 apply ps_mod
 have hk : ∀ k, 1 ≤ k → k ≤ n / 2 → k % 2 = (m * k / n + (sk m n k + ep m n k)) % 2 := by
  intro k h1 h2
  obtain ⟨e, hl⟩ := rm_spec (a := (m : Int)) (n := n) (k := k) (by omega)
  have er : rm m n k = m * k % n := by
   have : ((m * k % n : Nat) : Int) = (m : Int) * k % n := by rw [Int.natCast_emod, Int.natCast_mul]
   omega
  have hd := Nat.div_add_mod (m * k) n
  rw [← er] at hd
  have h3 : (m * k) % 2 = k % 2 := by rw [Nat.mul_mod, hm, Nat.one_mul, Nat.mod_mod]
  have h4 : (n * (m * k / n)) % 2 = (m * k / n) % 2 := by rw [Nat.mul_mod, hn, Nat.one_mul, Nat.mod_mod]
  unfold sk ep
  split <;> omega
 have s := sm_mod (m := n / 2) (f := fun k => k) (g := fun k => m * k / n + (sk m n k + ep m n k)) hk
 rw [sm_add, sm_add, sm_perm (fun k => k) (fun k h1 h2 => (sk_spec hn hc' h1 h2).1) (fun k j h1 h2 h3 h4 h => sk_inj hn hc' h1 h2 h3 h4 h)] at s
 omega
theorem count_le {n : Nat} (hn : 0 < n) (y : Nat) : ∀ M, sm (fun j => if n * j ≤ y then 1 else 0) M = min M (y / n)
 | 0 => by rw [sm, Nat.zero_min]
 | M + 1 => by
  rw [sm, count_le hn y M]
  have : n * (M + 1) ≤ y ↔ M + 1 ≤ y / n := by rw [Nat.le_div_iff_mul_le hn, Nat.mul_comm]
  split <;> omega
theorem floor_le {m n k : Nat} (hm : m % 2 = 1) (hn : n % 2 = 1) (h : k ≤ n / 2) : m * k / n ≤ m / 2 := by
 apply Nat.le_of_lt_succ
 rw [Nat.div_lt_iff_lt_mul (by omega)]
 obtain ⟨M, rfl⟩ : ∃ M, m = 2 * M + 1 := ⟨m / 2, by omega⟩
 obtain ⟨N, rfl⟩ : ∃ N, n = 2 * N + 1 := ⟨n / 2, by omega⟩
 have hk : (2 * M + 1) * k ≤ (2 * M + 1) * N := Nat.mul_le_mul_left _ (by omega)
 have e : (2 * M + 1) / 2 = M := by omega
 have h2 : (M + 1) * (2 * N + 1) = (2 * M + 1) * N + (M + N + 1) := by grind
 rw [e]
 show _ < (M + 1) * (2 * N + 1)
 omega
theorem lattice {m n : Nat} (hm : m % 2 = 1) (hn : n % 2 = 1) (hc : Nat.Coprime n m) : sm (fun k => m * k / n) (n / 2) + sm (fun j => n * j / m) (m / 2) = (n / 2) * (m / 2) := by
 have e1 : sm (fun k => m * k / n) (n / 2) = sm (fun k => sm (fun j => if n * j ≤ m * k then 1 else 0) (m / 2)) (n / 2) := by
  refine sm_congr fun k _ h => ?_
  rw [count_le (by omega), Nat.min_eq_right (floor_le hm hn h)]
 have e2 : sm (fun j => n * j / m) (m / 2) = sm (fun j => sm (fun k => if m * k ≤ n * j then 1 else 0) (n / 2)) (m / 2) := by
  refine sm_congr fun j _ h => ?_
  rw [count_le (by omega), Nat.min_eq_right (floor_le hn hm h)]
 rw [e1, e2, sm_swap (fun j k => if m * k ≤ n * j then 1 else 0), ← sm_add, ← sm_const (m / 2)]
 refine sm_congr fun k hk1 hk2 => ?_
 rw [← sm_add]
 have e3 : sm (fun _ => 1) (m / 2) = m / 2 := by rw [sm_const, Nat.mul_one]
 refine Eq.trans (sm_congr (g := fun _ => 1) fun j hj1 hj2 => ?_) e3
 have hne : n * j ≠ m * k := by
  intro h
  have hd : n ∣ m * k := ⟨j, h.symm⟩
  have := Nat.le_of_dvd (by omega) (hc.dvd_of_dvd_mul_left hd)
  omega
 split <;> split <;> omega
theorem recip {m n : Nat} (hm : m % 2 = 1) (hn : n % 2 = 1) (hc : Nat.Coprime n m) : J m n * J n m = ps ((n / 2) * (m / 2)) := by
 rw [J_floor hm hn hc, J_floor hn hm hc.symm, ← ps_add, lattice hm hn hc]
theorem ps_prod {a b : Nat} : ps (a * b) = if a % 2 = 1 ∧ b % 2 = 1 then -1 else 1 := by
 unfold ps
 rcases Nat.mod_two_eq_zero_or_one a with h | h <;> rcases Nat.mod_two_eq_zero_or_one b with g | g <;> rw [Nat.mul_mod, h, g] <;> decide
theorem recip' {m n : Nat} (hm : m % 2 = 1) (hn : n % 2 = 1) (hc : Nat.Coprime n m) : J m n = if m % 4 = 3 ∧ n % 4 = 3 then - J n m else J n m := by
 have h := recip hm hn hc
 rw [ps_prod] at h
 have s1 := J_sq (a := (m : Int)) hn hc
 have s2 := J_sq (a := (n : Int)) hm hc.symm
 have e : (n / 2 % 2 = 1 ∧ m / 2 % 2 = 1) ↔ (m % 4 = 3 ∧ n % 4 = 3) := by omega
 simp only [e] at h
 split at h <;> rcases s1 with s1 | s1 <;> rcases s2 with s2 | s2 <;> rw [s1, s2] at h ⊢ <;> simp_all
end Go.Num
namespace Go.Num
def K (a b : Int) : Int := J a b.natAbs
def e2 (y : Int) : Int := if y % 8 = 3 ∨ y % 8 = 5 then -1 else 1
def e4 (x y : Int) : Int := if x % 4 = 3 ∧ y % 4 = 3 then -1 else 1
def Cop (a b : Int) : Prop := Nat.Coprime b.natAbs a.natAbs
theorem Cop.symm {a b : Int} (h : Cop a b) : Cop b a := Nat.Coprime.symm h
theorem Cop.of_dvd {a b c d : Int} (h : Cop a b) (hd : ∀ n : Nat, (n : Int) ∣ c → (n : Int) ∣ d → (n : Int) ∣ a ∧ (n : Int) ∣ b) : Cop c d := by
 unfold Cop Nat.Coprime at *
 have h1 : ((Nat.gcd d.natAbs c.natAbs : Nat) : Int) ∣ c := Int.ofNat_dvd_left.2 (Nat.gcd_dvd_right _ _)
 have h2 : ((Nat.gcd d.natAbs c.natAbs : Nat) : Int) ∣ d := Int.ofNat_dvd_left.2 (Nat.gcd_dvd_left _ _)
 obtain ⟨h3, h4⟩ := hd _ h1 h2
 have := Nat.dvd_gcd (Int.ofNat_dvd_left.1 h4) (Int.ofNat_dvd_left.1 h3)
 rw [h] at this
 exact Nat.dvd_one.1 this
theorem Cop.half {a b : Int} (h : Cop (2 * a) b) : Cop a b := h.of_dvd fun _ h1 h2 => ⟨Int.dvd_trans h1 (Int.dvd_mul_left _ _), h2⟩
theorem Cop.sub {a b : Int} (h : Cop a b) : Cop (a - b) b := h.of_dvd fun _ h1 h2 => ⟨by have := Int.dvd_add h1 h2; rwa [Int.sub_add_cancel] at this, h2⟩
theorem K_half {a b : Int} (hb : b % 2 = 1) (h : Cop (2 * a) b) : K (2 * a) b = e2 b * K a b := by
 have hn : b.natAbs % 2 = 1 := by omega
 have c2 : Nat.Coprime b.natAbs (2 : Int).natAbs := by
  show Nat.Coprime b.natAbs 2
  rw [Nat.Coprime, Nat.gcd_comm, Nat.gcd_rec, hn]
  rfl
 unfold K
 rw [J_mul hn c2 h.half, J_two hn]
 unfold e2
 congr 1
 split <;> split <;> first | rfl | omega
theorem K_sub {a b : Int} : K (a - b) b = K a b := by
 unfold K
 rcases Int.natAbs_eq b with e | e
 ·have : a - b = a + (b.natAbs : Int) * (-1) := by omega
  rw [this, J_period]
 ·have : a - b = a + (b.natAbs : Int) * 1 := by omega
  rw [this, J_period]
theorem J_minus {n : Nat} {a : Int} (hn : n % 2 = 1) (hc : Nat.Coprime n a.natAbs) : J (-a) n = (if n % 4 = 3 then -1 else 1) * J a n := by
 have c1 : Nat.Coprime n (-1 : Int).natAbs := Nat.coprime_one_right n
 rw [show -a = -1 * a by omega, J_mul hn c1 hc, J_neg hn]
 unfold ps
 congr 1
 split <;> split <;> first | rfl | omega
theorem K_minus {a b : Int} (hb : b % 2 = 1) (h0 : 0 < b) (h : Cop a b) : K (-a) b = (if b % 4 = 3 then -1 else 1) * K a b := by
 unfold K
 rw [J_minus (by omega) h]
 congr 1
 split <;> split <;> first | rfl | omega
theorem K_swap {a b : Int} (ha : a % 2 = 1) (hb : b % 2 = 1) (hs : ¬ (a < 0 ∧ b < 0)) (h : Cop a b) : K a b = e4 a b * K b a := by
 have h1 : Nat.Coprime b.natAbs a.natAbs := h
 have r := recip' (m := a.natAbs) (n := b.natAbs) (by omega) (by omega) h1
 have r' := recip' (m := b.natAbs) (n := a.natAbs) (by omega) (by omega) h1.symm
 unfold K e4
 by_cases pa : 0 ≤ a
 ·rw [show ((a.natAbs : Nat) : Int) = a by omega] at r r'
  by_cases pb : 0 ≤ b
  ·rw [show ((b.natAbs : Nat) : Int) = b by omega] at r r'
   rw [r]
   split <;> split <;> first | omega | rw [Int.neg_mul, Int.one_mul] | rw [Int.one_mul]
  ·rw [show ((b.natAbs : Nat) : Int) = -b by omega] at r r'
   have m := J_minus (n := a.natAbs) (a := b) (by omega) h1.symm
   rw [m] at r
   rw [r]
   split <;> split <;> split <;> first | omega | (simp only [Int.neg_mul, Int.one_mul, Int.neg_neg])
 ·rw [show ((a.natAbs : Nat) : Int) = -a by omega] at r r'
  rw [show ((b.natAbs : Nat) : Int) = b by omega] at r r'
  have m := J_minus (n := b.natAbs) (a := a) (by omega) h1
  rw [m] at r'
  rw [r']
  split <;> split <;> split <;> first | omega | (simp only [Int.neg_mul, Int.one_mul, Int.neg_neg])
structure PS where
 x : Nat
 y : Nat
 f0 : Int
 g0 : Int
 f1 : Int
 g1 : Int
def pstep (s : PS) : PS :=
 if s.x % 2 = 0 then ⟨s.x / 2, s.y, s.f0, s.g0, 2 * s.f1, 2 * s.g1⟩
 else if s.x < s.y then ⟨(s.y - s.x) / 2, s.x, s.f1 - s.f0, s.g1 - s.g0, 2 * s.f0, 2 * s.g0⟩
 else ⟨(s.x - s.y) / 2, s.y, s.f0 - s.f1, s.g0 - s.g1, 2 * s.f1, 2 * s.g1⟩
def psgn (s : PS) : Int :=
 if s.x % 2 = 0 then e2 s.y
 else if s.x < s.y then e4 s.x s.y * e2 s.x
 else e2 s.y
structure Lin (p x0 y0 : Nat) (s : PS) : Prop where
 lx : (p : Int) * (s.x : Int) = s.f0 * x0 + s.g0 * y0
 ly : (p : Int) * (s.y : Int) = s.f1 * x0 + s.g1 * y0
 odd : s.y % 2 = 1
 s0 : s.f0.natAbs + s.g0.natAbs ≤ p
 s1 : s.f1.natAbs + s.g1.natAbs ≤ p
 lo : -(p : Int) < s.f0 ∧ -(p : Int) < s.g0 ∧ -(p : Int) < s.f1 ∧ -(p : Int) < s.g1
 le : s.x + s.y ≤ x0 + y0
 sum : (s.f0 = 1 ∧ s.g0 = 0 ∧ s.f1 = 0 ∧ s.g1 = p) ∨ 2 * (s.x + s.y) ≤ x0 + y0
theorem Lin.start {x0 y0 : Nat} (h : y0 % 2 = 1) : Lin 1 x0 y0 ⟨x0, y0, 1, 0, 0, 1⟩ :=
 ⟨by simp, by simp, h, by simp, by simp, by simp, Nat.le_refl _, .inl ⟨rfl, rfl, rfl, rfl⟩⟩
theorem Lin.step {p x0 y0 : Nat} {s : PS} (h : Lin p x0 y0 s) : Lin (2 * p) x0 y0 (pstep s) := by
 obtain ⟨lx, ly, odd, s0, s1, ⟨l0, l1, l2, l3⟩, le, sum⟩ := h
 have e' : ((2 * p : Nat) : Int) = 2 * p := by omega
 have dbl : ∀ u v : Int, 2 * u * x0 + 2 * v * y0 = 2 * (u * x0 + v * y0) := fun u v => by grind
 have dif : ∀ u v u' v' : Int, (u - u') * x0 + (v - v') * y0 = (u * x0 + v * y0) - (u' * x0 + v' * y0) := fun u v u' v' => by grind
 unfold pstep
 split
 ·rename_i hx
  refine ⟨?_, ?_, odd, ?_, ?_, ?_, ?_, ?_⟩ <;> simp only
  ·rw [← lx, e', show (2 : Int) * p = p * 2 from Int.mul_comm _ _, Int.mul_assoc]
   congr 1
   omega
  ·rw [e', Int.mul_assoc, ly, dbl]
  ·omega
  ·omega
  ·omega
  ·omega
  ·rcases sum with ⟨h1, h2, h3, h4⟩ | h
   ·exact .inl ⟨h1, h2, by omega, by omega⟩
   ·right; omega
 ·split
  ·rename_i hx hl
   refine ⟨?_, ?_, by simp only; omega, ?_, ?_, ?_, ?_, ?_⟩ <;> simp only
   ·have q : 2 * (((s.y - s.x) / 2 : Nat) : Int) = s.y - s.x := by omega
    rw [e', show (2 : Int) * p = p * 2 from Int.mul_comm _ _, Int.mul_assoc, q, Int.mul_sub, lx, ly, dif]
   ·rw [e', Int.mul_assoc, lx, dbl]
   ·omega
   ·omega
   ·omega
   ·omega
   ·right; omega
  ·rename_i hx hl
   refine ⟨?_, ?_, odd, ?_, ?_, ?_, ?_, ?_⟩ <;> simp only
   ·have q : 2 * (((s.x - s.y) / 2 : Nat) : Int) = s.x - s.y := by omega
    rw [e', show (2 : Int) * p = p * 2 from Int.mul_comm _ _, Int.mul_assoc, q, Int.mul_sub, lx, ly, dif]
   ·rw [e', Int.mul_assoc, ly, dbl]
   ·omega
   ·omega
   ·omega
   ·omega
   ·right; omega
def prun : Nat → PS → PS
 | 0, s => s
 | n + 1, s => pstep (prun n s)
def psgns : Nat → PS → Int
 | 0, _ => 1
 | n + 1, s => psgns n s * psgn (prun n s)
theorem Lin.run {x0 y0 : Nat} (h : y0 % 2 = 1) : ∀ n, Lin (2 ^ n) x0 y0 (prun n ⟨x0, y0, 1, 0, 0, 1⟩)
 | 0 => Lin.start h
 | n + 1 => by rw [Nat.pow_succ, Nat.mul_comm]; exact (Lin.run h n).step
structure Tru (p q : Nat) (a b : Int) (s : PS) (A B : Int) : Prop where
 ra : (p : Int) * A = s.f0 * a + s.g0 * b
 rb : (p : Int) * B = s.f1 * a + s.g1 * b
 ca : ∃ t : Int, A = s.x + q * t
 cb : ∃ t : Int, B = s.y + q * t
 odd : B % 2 = 1
 cop : Cop A B
 pos : ¬ (A < 0 ∧ B < 0)
theorem Tru.start {a b : Int} {x y q : Nat} (hb : b % 2 = 1) (h : Cop a b) (h0 : 0 ≤ a) (ha : ∃ t : Int, a = x + q * t) (hb' : ∃ t : Int, b = y + q * t) : Tru 1 q a b ⟨x, y, 1, 0, 0, 1⟩ a b :=
 ⟨by simp, by simp, ha, hb', hb, h, by omega⟩
theorem Tru.step {p q : Nat} {a b : Int} {s : PS} {A B : Int} (hy : s.y % 2 = 1) (h : Tru p (2 * q) a b s A B) : ∃ A' B', Tru (2 * p) q a b (pstep s) A' B' ∧ (2 * q % 8 = 0 → K A B = psgn s * K A' B') := by
 obtain ⟨ra, rb, ⟨t, ca⟩, ⟨u, cb⟩, odd, cop, pos⟩ := h
 have ep : ((2 * p : Nat) : Int) = 2 * p := by omega
 have eq : ∀ t : Int, ((2 * q : Nat) : Int) * t = 2 * (q * t) := fun t => by rw [show ((2 * q : Nat) : Int) = 2 * q by omega, Int.mul_assoc]
 rw [eq] at ca cb
 have dbl : ∀ u v : Int, 2 * u * a + 2 * v * b = 2 * (u * a + v * b) := fun u v => by grind
 have dif : ∀ u v u' v' : Int, (u - u') * a + (v - v') * b = (u * a + v * b) - (u' * a + v' * b) := fun u v u' v' => by grind
 have m8 : 2 * q % 8 = 0 → A % 8 = s.x % 8 ∧ B % 8 = s.y % 8 := fun h8 => by
  obtain ⟨r, hr⟩ : ∃ r, q = 4 * r := ⟨q / 4, by omega⟩
  subst hr
  have e : ∀ t : Int, 2 * (((4 * r : Nat) : Int) * t) = 8 * (r * t) := fun t => by rw [show ((4 * r : Nat) : Int) = 4 * r by omega, Int.mul_assoc]; omega
  rw [e] at ca cb
  omega
 have ee : 2 * q % 8 = 0 → e2 B = e2 s.y ∧ (s.x % 2 = 1 → e2 A = e2 s.x) ∧ e4 A B = e4 s.x s.y := fun h8 => by
  obtain ⟨h1, h2⟩ := m8 h8
  unfold e2 e4
  refine ⟨?_, fun _ => ?_, ?_⟩ <;> split <;> split <;> first | rfl | omega
 unfold pstep psgn
 split
 ·rename_i hx
  have hA : A = 2 * (A / 2) := by omega
  refine ⟨A / 2, B, ⟨?_, ?_, ?_, ?_, odd, ?_, by omega⟩, ?_⟩ <;> (try simp only)
  ·rw [ep, show (2 : Int) * p = p * 2 from Int.mul_comm _ _, Int.mul_assoc, ← hA, ra]
  ·rw [ep, Int.mul_assoc, rb, dbl]
  ·exact ⟨t, by omega⟩
  ·exact ⟨2 * u, by rw [Int.mul_left_comm]; omega⟩
  ·rw [hA] at cop; exact cop.half
  ·intro h8
   rw [← (ee h8).1]
   conv => lhs; rw [hA]
   rw [hA] at cop
   exact K_half odd cop
 ·split
  ·rename_i hx hl
   have hA : A % 2 = 1 := by omega
   have h2 : B - A = 2 * ((B - A) / 2) := by omega
   refine ⟨(B - A) / 2, A, ⟨?_, ?_, ?_, ?_, hA, ?_, by omega⟩, ?_⟩ <;> (try simp only)
   ·rw [ep, show (2 : Int) * p = p * 2 from Int.mul_comm _ _, Int.mul_assoc, ← h2, Int.mul_sub, ra, rb, dif]
   ·rw [ep, Int.mul_assoc, ra, dbl]
   ·exact ⟨u - t, by rw [Int.mul_sub]; omega⟩
   ·exact ⟨2 * t, by rw [Int.mul_left_comm]; omega⟩
   ·have := cop.symm.sub
    rw [h2] at this
    exact this.half
   ·intro h8
    have c := cop.symm.sub
    rw [h2] at c
    have k1 := K_half hA c
    rw [← h2, K_sub] at k1
    rw [K_swap hA odd pos cop, k1, (ee h8).2.2, (ee h8).2.1 (by omega), Int.mul_assoc]
  ·rename_i hx hl
   have hA : A % 2 = 1 := by omega
   have h2 : A - B = 2 * ((A - B) / 2) := by omega
   refine ⟨(A - B) / 2, B, ⟨?_, ?_, ?_, ?_, odd, ?_, by omega⟩, ?_⟩ <;> (try simp only)
   ·rw [ep, show (2 : Int) * p = p * 2 from Int.mul_comm _ _, Int.mul_assoc, ← h2, Int.mul_sub, ra, rb, dif]
   ·rw [ep, Int.mul_assoc, rb, dbl]
   ·exact ⟨t - u, by rw [Int.mul_sub]; omega⟩
   ·exact ⟨2 * u, by rw [Int.mul_left_comm]; omega⟩
   ·have := cop.sub
    rw [h2] at this
    exact this.half
   ·intro h8
    have c := cop.sub
    rw [h2] at c
    have k1 := K_half odd c
    rw [← h2, K_sub] at k1
    rw [k1, (ee h8).1]
theorem Tru.run {a b : Int} {x0 y0 : Nat} (hy : y0 % 2 = 1) (hb : b % 2 = 1) (h : Cop a b) (h0 : 0 ≤ a) : ∀ (n m : Nat), n ≤ m → (∃ t : Int, a = x0 + (2 ^ m : Nat) * t) → (∃ t : Int, b = y0 + (2 ^ m : Nat) * t) →
  ∃ A B, Tru (2 ^ n) (2 ^ (m - n)) a b (prun n ⟨x0, y0, 1, 0, 0, 1⟩) A B ∧ (n + 2 ≤ m → K a b = psgns n ⟨x0, y0, 1, 0, 0, 1⟩ * K A B)
 | 0, m, _, ha, hb' => ⟨a, b, Tru.start hb h h0 ha hb', fun _ => by rw [psgns, Int.one_mul]⟩
 | n + 1, m, hm, ha, hb' => by
  obtain ⟨A, B, ht, hk⟩ := Tru.run hy hb h h0 n m (by omega) ha hb'
  have e : 2 ^ (m - n) = 2 * 2 ^ (m - (n + 1)) := by rw [← Nat.pow_succ']; congr 1; omega
  rw [e] at ht
  obtain ⟨A', B', h1, h2⟩ := ht.step (Lin.run (x0 := x0) hy n).odd
  refine ⟨A', B', by rw [Nat.pow_succ, Nat.mul_comm]; exact h1, fun h3 => ?_⟩
  have h8 : 2 * 2 ^ (m - (n + 1)) % 8 = 0 := by
   obtain ⟨r, hr⟩ : ∃ r, m - (n + 1) = 2 + r := ⟨m - (n + 1) - 2, by omega⟩
   rw [hr, Nat.pow_add]
   omega
  rw [hk (by omega), h2 h8, psgns, Int.mul_assoc]
end Go.Num
namespace Go.Num
def apx (lo n a : Nat) : Nat := if n ≤ 64 then a else a % 2 ^ lo + 2 ^ lo * (a / 2 ^ (n - (64 - lo)))
theorem apx_low {lo n a : Nat} : ∃ t : Int, (a : Int) = apx lo n a + (2 ^ lo : Nat) * t := by
 unfold apx
 split
 ·exact ⟨0, by simp⟩
 ·refine ⟨((a / 2 ^ lo : Nat) : Int) - ((a / 2 ^ (n - (64 - lo)) : Nat) : Int), ?_⟩
  have h := Nat.mod_add_div a (2 ^ lo)
  rw [Int.mul_sub, ← Int.natCast_mul, ← Int.natCast_mul, Int.natCast_add]
  omega
theorem apx_err {lo n a : Nat} (hn : 64 < n) (hlo : lo ≤ 32) : a ≤ 2 ^ (n - 64) * apx lo n a + 2 ^ (n - (64 - lo)) ∧ 2 ^ (n - 64) * apx lo n a ≤ a + 2 ^ (n - (64 - lo)) := by
 unfold apx
 rw [if_neg (by omega)]
 have e : 2 ^ (n - (64 - lo)) = 2 ^ (n - 64) * 2 ^ lo := by rw [← Nat.pow_add]; congr 1; omega
 have h := Nat.mod_add_div a (2 ^ (n - (64 - lo)))
 have h1 := Nat.mod_lt a (show 0 < 2 ^ (n - (64 - lo)) from Nat.pow_pos (by omega))
 have h2 := Nat.mod_lt a (show 0 < 2 ^ lo from Nat.pow_pos (by omega))
 have h3 : 2 ^ (n - 64) * (a % 2 ^ lo) ≤ 2 ^ (n - (64 - lo)) := by rw [e]; exact Nat.mul_le_mul_left _ (by omega)
 have h4 : 2 ^ (n - 64) * (2 ^ lo * (a / 2 ^ (n - (64 - lo)))) = 2 ^ (n - (64 - lo)) * (a / 2 ^ (n - (64 - lo))) := by rw [← Nat.mul_assoc, ← e]
 rw [Nat.mul_add, h4]
 omega
theorem comb_le {f g u v : Int} {p D : Nat} (hs : f.natAbs + g.natAbs ≤ p) (hu : u.natAbs ≤ D) (hv : v.natAbs ≤ D) : (f * u + g * v).natAbs ≤ p * D := by
 have h1 : (f * u).natAbs ≤ f.natAbs * D := by rw [Int.natAbs_mul]; exact Nat.mul_le_mul_left _ hu
 have h2 : (g * v).natAbs ≤ g.natAbs * D := by rw [Int.natAbs_mul]; exact Nat.mul_le_mul_left _ hv
 have h3 : f.natAbs * D + g.natAbs * D ≤ p * D := by rw [← Nat.add_mul]; exact Nat.mul_le_mul_right _ hs
 have := Int.natAbs_add_le (f * u) (g * v)
 omega
theorem comb_apx {f g : Int} {p e D a b x0 y0 x : Nat} (hs : f.natAbs + g.natAbs ≤ p) (hx : (p : Int) * x = f * x0 + g * y0) (ha : a ≤ e * x0 + D ∧ e * x0 ≤ a + D) (hb : b ≤ e * y0 + D ∧ e * y0 ≤ b + D) :
  (f * a + g * b).natAbs ≤ p * (e * x + D) := by
 have e1 : f * a + g * b = e * (p * x : Int) + (f * ((a : Int) - (e * x0 : Nat)) + g * ((b : Int) - (e * y0 : Nat))) := by
  rw [hx, Int.natCast_mul, Int.natCast_mul]
  grind
 have h := comb_le (p := p) (D := D) hs (show ((a : Int) - (e * x0 : Nat)).natAbs ≤ D by omega) (show ((b : Int) - (e * y0 : Nat)).natAbs ≤ D by omega)
 have h2 : ((e : Int) * (p * x : Int)) = ((p * (e * x) : Nat) : Int) := by simp only [Int.natCast_mul]; grind
 rw [e1, h2, Nat.mul_add]
 have := Int.natAbs_add_le ((p * (e * x) : Nat) : Int) (f * ((a : Int) - (e * x0 : Nat)) + g * ((b : Int) - (e * y0 : Nat)))
 rw [Int.natAbs_natCast] at this
 omega
theorem natAbs_of_mul {p : Nat} {A z : Int} (h : (p : Int) * A = z) : p * A.natAbs = z.natAbs := by
 rw [← h, Int.natAbs_mul, Int.natAbs_natCast]
theorem le_of_pmul {p A B : Nat} (hp : 0 < p) (h : p * A ≤ p * B) : A ≤ B := Nat.le_of_mul_le_mul_left h hp
theorem sum_dec {p e D a b x0 y0 : Nat} {s : PS} {A B : Int} (hp : 2 ≤ p) (hl : Lin p x0 y0 s) (ha : a ≤ e * x0 + D ∧ e * x0 ≤ a + D) (hb : b ≤ e * y0 + D ∧ e * y0 ≤ b + D) (hD : 6 * D < a + b) (h0 : 0 < a)
  (ea : (p : Int) * A = s.f0 * a + s.g0 * b) (eb : (p : Int) * B = s.f1 * a + s.g1 * b) : A.natAbs + B.natAbs < a + b := by
 rcases hl.sum with ⟨h1, h2, h3, h4⟩ | h
 ·rw [h1, h2, Int.one_mul, Int.zero_mul, Int.add_zero] at ea
  rw [h3, h4, Int.zero_mul, Int.zero_add] at eb
  have hB : B = b := Int.eq_of_mul_eq_mul_left (show (p : Int) ≠ 0 by omega) eb
  have := natAbs_of_mul ea
  rw [Int.natAbs_natCast] at this
  have h5 : 2 * A.natAbs ≤ p * A.natAbs := Nat.mul_le_mul_right _ hp
  omega
 ·have h1 := comb_apx (f := s.f0) (g := s.g0) (x := s.x) hl.s0 hl.lx ha hb
  have h2 := comb_apx (f := s.f1) (g := s.g1) (x := s.y) hl.s1 hl.ly ha hb
  rw [← natAbs_of_mul ea] at h1
  rw [← natAbs_of_mul eb] at h2
  have h1 := le_of_pmul (by omega) h1
  have h2 := le_of_pmul (by omega) h2
  have h3 : e * (2 * (s.x + s.y)) ≤ e * (x0 + y0) := Nat.mul_le_mul_left _ h
  have h4 : e * (2 * (s.x + s.y)) = 2 * (e * s.x + e * s.y) := by grind
  rw [h4, Nat.mul_add e x0 y0] at h3
  omega
theorem max_le {p a b M : Nat} {f g A : Int} (hp : 0 < p) (hs : f.natAbs + g.natAbs ≤ p) (h : (p : Int) * A = f * a + g * b) (ha : a ≤ M) (hb : b ≤ M) : A.natAbs ≤ M := by
 have h1 := comb_le (u := a) (v := b) hs (D := M) (by omega) (by omega)
 rw [← natAbs_of_mul h] at h1
 exact le_of_pmul hp h1
structure Out (lo m n a b : Nat) (s : PS) (A B : Int) : Prop where
 ra : ((2 ^ m : Nat) : Int) * A = s.f0 * a + s.g0 * b
 rb : ((2 ^ m : Nat) : Int) * B = s.f1 * a + s.g1 * b
 odd : B.natAbs % 2 = 1
 cop : Nat.Coprime B.natAbs A.natAbs
 pos : ¬ (A < 0 ∧ B < 0)
 dec : 0 < a → A.natAbs + B.natAbs < a + b
 le : ∀ M, a ≤ M → b ≤ M → A.natAbs ≤ M ∧ B.natAbs ≤ M
 low : ∃ t : Int, B = s.y + (2 ^ (lo - m) : Nat) * t
 sym : m + 2 ≤ lo → K a b = psgns m ⟨apx lo n a, apx lo n b, 1, 0, 0, 1⟩ * K A B
theorem outer {lo m n a b : Nat} (hm : 1 ≤ m) (hml : m ≤ lo) (hlo : lo ≤ 32) (hn : 64 < n → 2 ^ (n - 1) ≤ a ∨ 2 ^ (n - 1) ≤ b) (ho : b % 2 = 1) (hc : Nat.Coprime b a) :
  Lin (2 ^ m) (apx lo n a) (apx lo n b) (prun m ⟨apx lo n a, apx lo n b, 1, 0, 0, 1⟩) ∧ ∃ A B, Out lo m n a b (prun m ⟨apx lo n a, apx lo n b, 1, 0, 0, 1⟩) A B := by
 have hy : apx lo n b % 2 = 1 := by
  obtain ⟨t, ht⟩ := apx_low (lo := lo) (n := n) (a := b)
  obtain ⟨r, hr⟩ : ∃ r, lo = r + 1 := ⟨lo - 1, by omega⟩
  rw [hr, Nat.pow_succ, Nat.mul_comm, show ((2 * 2 ^ r : Nat) : Int) * t = 2 * ((2 ^ r : Nat) * t) by rw [Int.natCast_mul, Int.mul_assoc]; rfl, ← hr] at ht
  omega
 have hl := Lin.run (x0 := apx lo n a) (y0 := apx lo n b) hy m
 refine ⟨hl, ?_⟩
 have hp : 2 ≤ 2 ^ m := by
  obtain ⟨r, hr⟩ : ∃ r, m = r + 1 := ⟨m - 1, by omega⟩
  rw [hr, Nat.pow_succ]
  have := Nat.pow_pos (n := r) (show 0 < 2 by omega)
  omega
 obtain ⟨A, B, ht, hk⟩ := Tru.run (a := a) (b := b) (x0 := apx lo n a) (y0 := apx lo n b) hy (by omega) (by unfold Cop; simpa using hc) (by omega) m lo hml apx_low apx_low
 refine ⟨A, B, ht.ra, ht.rb, by have := ht.odd; omega, ht.cop, ht.pos, fun h0 => ?_, fun M h1 h2 => ⟨max_le (by omega) hl.s0 ht.ra h1 h2, max_le (by omega) hl.s1 ht.rb h1 h2⟩, ht.cb, hk⟩
 by_cases h64 : 64 < n
 ·refine sum_dec (e := 2 ^ (n - 64)) (D := 2 ^ (n - (64 - lo))) hp hl (apx_err h64 hlo) (apx_err h64 hlo) ?_ h0 ht.ra ht.rb
  have e : 2 ^ (n - 1) = 2 ^ (63 - lo) * 2 ^ (n - (64 - lo)) := by rw [← Nat.pow_add]; congr 1; omega
  have h8 : 8 ≤ 2 ^ (63 - lo) := by
   obtain ⟨r, hr⟩ : ∃ r, 63 - lo = 3 + r := ⟨60 - lo, by omega⟩
   rw [hr, Nat.pow_add]
   have := Nat.pow_pos (n := r) (show 0 < 2 by omega)
   omega
  have h9 : 8 * 2 ^ (n - (64 - lo)) ≤ 2 ^ (n - 1) := by rw [e]; exact Nat.mul_le_mul_right _ h8
  have hD := Nat.pow_pos (n := n - (64 - lo)) (show 0 < 2 by omega)
  rcases hn h64 with h | h <;> omega
 ·have ea : ∀ z, apx lo n z = z := fun z => by unfold apx; rw [if_pos (by omega)]
  refine sum_dec (e := 1) (D := 0) hp hl ?_ ?_ (by omega) h0 ht.ra ht.rb <;> rw [ea] <;> omega
theorem Out.symK {lo m n a b : Nat} {s : PS} {A B : Int} (h : Out lo m n a b s A B) (hm : m + 2 ≤ lo) : K a b = psgns m ⟨apx lo n a, apx lo n b, 1, 0, 0, 1⟩ * (if A < 0 ∧ B % 4 = 3 then -1 else 1) * K A.natAbs B.natAbs := by
 rw [h.sym hm, Int.mul_assoc]
 congr 1
 have hB : B % 2 = 1 := by have := h.odd; omega
 have hK : K (A.natAbs : Int) (B.natAbs : Int) = K A.natAbs B := by unfold K; rw [Int.natAbs_natCast]
 rw [hK]
 by_cases hA : A < 0
 ·have hB0 : 0 < B := by have := h.pos; omega
  have k := K_minus (a := A) (b := B) hB hB0 h.cop
  rw [show ((A.natAbs : Nat) : Int) = -A by omega, k]
  simp only [hA, true_and]
  split <;> simp
 ·rw [if_neg (by omega), Int.one_mul, show ((A.natAbs : Nat) : Int) = A by omega]
theorem K_zero {b : Nat} (hc : Nat.Coprime b 0) : b = 1 ∧ K (0 : Nat) b = 1 := by
 have hb : b = 1 := by simpa [Nat.Coprime] using hc
 subst hb
 exact ⟨rfl, rfl⟩
end Go.Num
namespace Go.Num
theorem or_sum {b i a : Nat} (h : b < 2 ^ i) : b ||| 2 ^ i * a = b + 2 ^ i * a := by
 rw [Nat.or_comm, ← Nat.two_pow_add_eq_or_of_lt h, Nat.add_comm]
theorem apx_nat {V n lo w v q A U : Nat} (hlo : lo ≤ 32) (hlo0 : 31 ≤ lo) (hn : 64 < n) (hV : V < 2 ^ n) (hq : q = (n - 1) / 64) (hA : A = n - 64 * q) (hU : U = min A (64 - lo)) (hw : w = V / 2 ^ (64 * q) % 2 ^ 64) (hv : v = V / 2 ^ (64 * (q - 1)) % 2 ^ 64) :
  (V % 2 ^ lo ||| (v / 2 ^ (lo + U) * 2 ^ (lo + U)) / 2 ^ U) ||| ((w / 2 ^ (A - U) * 2 ^ (A - U)) * 2 ^ (64 - A) % 2 ^ 64) = apx lo n V := by
 have hq1 : 1 ≤ q := by omega
 have hA1 : 1 ≤ A ∧ A ≤ 64 := by omega
 have hnA : n = 64 * q + A := by omega
 have p2 : ∀ k, 0 < 2 ^ k := fun k => Nat.pow_pos (by omega)
 have hwl : V / 2 ^ (64 * q) < 2 ^ A := by rw [Nat.div_lt_iff_lt_mul (p2 _), ← Nat.pow_add]; rw [hnA, Nat.add_comm] at hV; exact hV
 have hA64 : 2 ^ A ≤ 2 ^ 64 := Nat.pow_le_pow_right (by omega) hA1.2
 have ew : w = V / 2 ^ (64 * q) := by rw [hw, Nat.mod_eq_of_lt (by omega)]
 rw [← ew] at hwl
 have hlow : V % 2 ^ lo < 2 ^ lo := Nat.mod_lt _ (p2 _)
 unfold apx
 rw [if_neg (by omega)]
 by_cases hc : 64 - lo ≤ A
 ·have hU' : U = 64 - lo := by omega
  subst hU'
  have e1 : lo + (64 - lo) = 64 := by omega
  have hv64 : v < 2 ^ 64 := by rw [hv]; exact Nat.mod_lt _ (p2 _)
  rw [e1, Nat.div_eq_of_lt hv64, Nat.zero_mul, Nat.zero_div, Nat.or_zero]
  have e2 : (w / 2 ^ (A - (64 - lo)) * 2 ^ (A - (64 - lo))) * 2 ^ (64 - A) = 2 ^ lo * (w / 2 ^ (A - (64 - lo))) := by
   rw [Nat.mul_assoc, ← Nat.pow_add, Nat.mul_comm]
   congr 2
   omega
  have e3 : w / 2 ^ (A - (64 - lo)) = V / 2 ^ (n - (64 - lo)) := by
   rw [ew, Nat.div_div_eq_div_mul, ← Nat.pow_add]
   congr 2
   omega
  have e4 : w / 2 ^ (A - (64 - lo)) < 2 ^ (64 - lo) := by
   rw [Nat.div_lt_iff_lt_mul (p2 _), ← Nat.pow_add, show 64 - lo + (A - (64 - lo)) = A by omega]
   exact hwl
  have e5 : 2 ^ lo * (w / 2 ^ (A - (64 - lo))) < 2 ^ 64 := by
   have : 2 ^ lo * (w / 2 ^ (A - (64 - lo))) < 2 ^ lo * 2 ^ (64 - lo) := Nat.mul_lt_mul_of_pos_left e4 (p2 _)
   rw [← Nat.pow_add, e1] at this
   exact this
  rw [e2, Nat.mod_eq_of_lt e5, or_sum hlow, e3]
 ·have hU' : U = A := by omega
  subst hU'
  rw [Nat.sub_self, Nat.pow_zero, Nat.div_one, Nat.mul_one]
  have e1 : v / 2 ^ (lo + U) * 2 ^ (lo + U) / 2 ^ U = 2 ^ lo * (v / 2 ^ (lo + U)) := by
   rw [Nat.pow_add, ← Nat.mul_assoc, Nat.mul_div_cancel _ (p2 U), Nat.mul_comm]
  have e2 : w * 2 ^ (64 - U) < 2 ^ 64 := by
   have : w * 2 ^ (64 - U) < 2 ^ U * 2 ^ (64 - U) := Nat.mul_lt_mul_of_pos_right hwl (p2 _)
   rw [← Nat.pow_add, show U + (64 - U) = 64 by omega] at this
   exact this
  have hs : v / 2 ^ (lo + U) < 2 ^ (64 - lo - U) := by
   rw [Nat.div_lt_iff_lt_mul (p2 _), ← Nat.pow_add, show 64 - lo - U + (lo + U) = 64 by omega, hv]
   exact Nat.mod_lt _ (p2 _)
  have e3 : V % 2 ^ lo + 2 ^ lo * (v / 2 ^ (lo + U)) < 2 ^ (64 - U) := by
   have : 2 ^ lo * (v / 2 ^ (lo + U) + 1) ≤ 2 ^ lo * 2 ^ (64 - lo - U) := Nat.mul_le_mul_left _ hs
   rw [← Nat.pow_add, show lo + (64 - lo - U) = 64 - U by omega, Nat.mul_add] at this
   omega
  have e4 : V / 2 ^ (n - (64 - lo)) = w * 2 ^ (64 - lo - U) + v / 2 ^ (lo + U) := by
   have h1 : n - (64 - lo) = 64 * (q - 1) + (lo + U) := by omega
   have h2 : V / 2 ^ (64 * (q - 1)) = v + 2 ^ (lo + U) * (w * 2 ^ (64 - lo - U)) := by
    have h3 := Nat.mod_add_div (V / 2 ^ (64 * (q - 1))) (2 ^ 64)
    rw [← hv, Nat.div_div_eq_div_mul, ← Nat.pow_add, show 64 * (q - 1) + 64 = 64 * q by omega, ← ew] at h3
    rw [← h3]
    congr 1
    rw [Nat.mul_comm w, ← Nat.mul_assoc, ← Nat.pow_add, show lo + U + (64 - lo - U) = 64 by omega]
   rw [h1, Nat.pow_add, ← Nat.div_div_eq_div_mul, h2, Nat.add_mul_div_left _ _ (p2 _), Nat.add_comm]
  rw [e1, or_sum hlow, Nat.mod_eq_of_lt e2, Nat.mul_comm w, or_sum e3, e4, Nat.mul_add, ← Nat.mul_assoc, Nat.mul_comm (2 ^ lo) w, Nat.mul_assoc, ← Nat.pow_add, show lo + (64 - lo - U) = 64 - U by omega]
  rw [Nat.mul_comm w]
  omega
theorem and_high {x k : Nat} (hx : x < 2 ^ 64) (hk : k ≤ 64) : x &&& ((2 ^ 64 - 1) ^^^ (2 ^ k - 1)) = x / 2 ^ k * 2 ^ k := by
 apply Nat.eq_of_testBit_eq
 intro i
 rw [Nat.testBit_and, Nat.testBit_xor, Nat.testBit_two_pow_sub_one, Nat.testBit_two_pow_sub_one, ← Nat.shiftRight_eq_div_pow, ← Nat.shiftLeft_eq, Nat.testBit_shiftLeft, Nat.testBit_shiftRight]
 by_cases h1 : i < 64
 ·by_cases h2 : i < k
  ·simp [h1, h2, Nat.not_le.2 h2]
  ·simp [h1, h2, Nat.le_of_not_lt h2, Nat.add_sub_cancel' (Nat.le_of_not_lt h2)]
 ·have : x.testBit i = false := Nat.testBit_lt_two_pow (Nat.lt_of_lt_of_le hx (Nat.pow_le_pow_right (by omega) (by omega)))
  rw [this]
  have h2 : k ≤ i := by omega
  simp [h1, h2, Nat.add_sub_cancel' h2, this]
end Go.Num
