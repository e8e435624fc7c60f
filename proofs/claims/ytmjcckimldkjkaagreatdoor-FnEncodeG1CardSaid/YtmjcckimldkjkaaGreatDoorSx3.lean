/- Part 3 of the proof: for every message and domain the law FnEncodeG1 returns true (a verified symbolic evaluator, contracts of each function reached, the law, its row and card). Conditions: those of the given statement, none besides. -/
import Derived.Test.YtmjcckimldkjkaaGreatDoorSx2
namespace Go.Sx
open Go Go.Proofs
set_option maxRecDepth 100000
def cxNew : Cx Tryz.prog := { rds := [], efs := [cReset], eqs := [] }
theorem vc_bsz (K : SV → Mem → Prop) : (execF cx0 u0 Tryz.f78 64 [.any] (memL []) K) = K (.int .i64 (.lit 64)) Tr.leaf := by kernel_rfl
theorem vc_new (K : SV → Mem → Prop) : (execF cxNew u0 Tryz.f73 64 [] (memL []) K) = (∀ a : List Int, a = [(0 : Int), (0 : Int), (0 : Int), (0 : Int), (0 : Int), (0 : Int), (0 : Int), (0 : Int), (0 : Int), (0 : Int), (0 : Int), (0 : Int),
 (0 : Int), (0 : Int), (0 : Int), (0 : Int), (0 : Int), (0 : Int), (0 : Int), (0 : Int), (0 : Int), (0 : Int), (0 : Int), (0 : Int), (0 : Int), (0 : Int), (0 : Int), (0 : Int), (0 : Int), (0 : Int), (0 : Int), (0 : Int), (0 : Int), (0 :
 Int), (0 : Int), (0 : Int), (0 : Int), (0 : Int), (0 : Int), (0 : Int), (0 : Int), (0 : Int), (0 : Int), (0 : Int), (0 : Int), (0 : Int), (0 : Int), (0 : Int), (0 : Int), (0 : Int), (0 : Int), (0 : Int), (0 : Int), (0 : Int), (0 : Int), (0
 : Int), (0 : Int), (0 : Int), (0 : Int), (0 : Int), (0 : Int), (0 : Int), (0 : Int), (0 : Int)] → K (.ptr 521 (.lit 0)) (memL [(521, ⟨false, .segs [.cells [.int .u32 (.sym 1779033703), .int .u32 (.sym 3144134277), .int .u32 (.sym
 1013904242), .int .u32 (.sym 2773480762), .int .u32 (.sym 1359893119), .int .u32 (.sym 2600822924), .int .u32 (.sym 528734635), .int .u32 (.sym 1541459225)], .ints .u8 64 a, .cells [.int .i64 (.sym 0), .int .u64 (.sym 0), .bool (.lit
 false)]]⟩)])) := by kernel_rfl
def rBsz : R0 := fun args l =>
 match args, l with
 | [.any], [] => some (none, .int .i64 (.lit 64))
 | _, _ => none
theorem bsz_ok (args : List SV) (l : List (Nat × Reg)) (p : Ob) (v : SV) (h : rBsz args l = some (p, v)) (_ : p.ok) : ∃ U, execF cx0 U Tryz.f78 64 args (memL l) fun v' _ => v' = v := by
 refine ⟨u0, ?_⟩
 unfold rBsz at h
 split at h
 ·simp only [Option.some.injEq, Prod.mk.injEq] at h
  obtain ⟨rfl, rfl⟩ := h
  rw [vc_bsz]
 ·cases h
def cBsz : Rd Tryz.prog := mkR mixed 78 Tryz.func78 (by decide) (by kernel_rfl) [] [.skip] rBsz bsz_ok
def newReg : Reg := ⟨false, .segs [.cells [.int .u32 (.sym 1779033703), .int .u32 (.sym 3144134277), .int .u32 (.sym 1013904242), .int .u32 (.sym 2773480762), .int .u32 (.sym 1359893119), .int .u32 (.sym 2600822924), .int .u32 (.sym 528734635), .int .u32 (.sym 1541459225)],
   .ints .u8 64 (List.replicate 64 0), .cells [.int .i64 (.sym 0), .int .u64 (.sym 0), .bool (.lit false)]]⟩
def gNew : G0 := fun args l K =>
 match args, l with
 | [], [] => K (.ptr 521 (.lit 0)) (memL [(521, newReg)])
 | _, _ => False
theorem new_good : Good gNew := by
 constructor
 ·intro args l K K' hk h
  unfold gNew at h ⊢
  split at h
  ·exact hk _ _ h
  ·exact h.elim
 ·intro args l K h
  unfold gNew at h
  split at h
  ·exact ⟨_, _, h⟩
  ·exact h.elim
theorem new_ok (args : List SV) (l : List (Nat × Reg)) (K : SV → Mem → Prop) (_ : KUp K) (h : gNew args l K) : ∃ U, execF cxNew U Tryz.f73 64 args (memL l) K := by
 refine ⟨u0, ?_⟩
 unfold gNew at h
 split at h
 ·rw [vc_new]
  rintro ys rfl
  exact h
 ·exact h.elim
def cNew : Ef Tryz.prog := mkE mixed 73 Tryz.func73 (by decide) (by kernel_rfl) [] [] gNew new_good new_ok
end Go.Sx
namespace Go.Sx
open Go
theorem blk_left {M q : List Int} {j : Nat} (h : 64 * j + 64 ≤ M.length) : blk (M ++ q) j = blk M j := by
 unfold blk
 rw [List.drop_append_of_le_length (by omega), List.take_append_of_le_length (by simp; omega)]
theorem blk_right {M q : List Int} {a k : Nat} (h : M.length = 64 * a) : blk (M ++ q) (a + k) = blk q k := by
 unfold blk
 rw [show 64 * (a + k) = M.length + 64 * k by omega, List.drop_length_add_append]
theorem hB_left {S : S8} {M q : List Int} : ∀ {k : Nat}, 64 * k ≤ M.length → hB S (M ++ q) k = hB S M k
 | 0, _ => rfl
 | k + 1, h => by
  unfold hB
  rw [hB_left (by omega), blk_left (by omega)]
theorem hB_right {S : S8} {M q : List Int} {a : Nat} (h : M.length = 64 * a) : ∀ k, hB S (M ++ q) (a + k) = hB (hB S M a) q k
 | 0 => by rw [Nat.add_zero, hB_left (by omega)]; rfl
 | k + 1 => by
  rw [← Nat.add_assoc]
  show comp (hB S (M ++ q) (a + k)) (blk (M ++ q) (a + k)) = comp (hB (hB S M a) q k) (blk q k)
  rw [hB_right h k, blk_right h]
structure Abs (M : List Int) (H : S8) (x : List Int) (nx len : Int) : Prop where
 h : H = hB S0 M (M.length / 64)
 xl : x.length = 64
 xm : x.take (M.length % 64) = M.drop (64 * (M.length / 64))
 nx : nx = (M.length % 64 : Nat)
 len : len = (M.length : Nat)
 bytes : Bytes M
theorem Bytes.append {p q : List Int} (h : Bytes p) (k : Bytes q) : Bytes (p ++ q) := fun x hx => (List.mem_append.1 hx).elim (h x) (k x)
theorem Bytes.take {p : List Int} (h : Bytes p) (n : Nat) : Bytes (p.take n) := fun x hx => h x (List.mem_of_mem_take hx)
theorem Bytes.drop {p : List Int} (h : Bytes p) (n : Nat) : Bytes (p.drop n) := fun x hx => h x (List.mem_of_mem_drop hx)
theorem Bytes.nil : Bytes [] := nofun
theorem take_splice_mid {x q : List Int} {n : Nat} (h : n ≤ x.length) : (splice x n q).take (n + q.length) = x.take n ++ q := by
 unfold splice
 rw [List.take_append_of_le_length (by simp; omega), List.take_of_length_le (by simp; omega)]
theorem Abs.part {M : List Int} {H : S8} {x : List Int} {nx len : Int} (h : Abs M H x nx len) {q : List Int} (hq : Bytes q) (hl : M.length % 64 + q.length < 64) :
  Abs (M ++ q) H (splice x (M.length % 64) q) (M.length % 64 + q.length : Nat) (M.length + q.length : Nat) := by
 have e1 : (M ++ q).length = M.length + q.length := by simp
 have e2 : (M.length + q.length) / 64 = M.length / 64 := by omega
 have e3 : (M.length + q.length) % 64 = M.length % 64 + q.length := by omega
 refine ⟨?_, ?_, ?_, by rw [e1, e3], by rw [e1], h.bytes.append hq⟩
 ·rw [e1, e2, hB_left (by omega)]; exact h.h
 ·rw [splice_length (by have := h.xl; omega)]; exact h.xl
 ·rw [e1, e2, e3, take_splice_mid (by have := h.xl; omega), h.xm, List.drop_append_of_le_length (by omega)]
theorem Abs.full {M : List Int} {H : S8} {x : List Int} {nx len : Int} (h : Abs M H x nx len) {q : List Int} (hq : Bytes q) (hl : M.length % 64 + q.length = 64) :
  splice x (M.length % 64) q = M.drop (64 * (M.length / 64)) ++ q ∧
  Abs (M ++ q) (hB H (splice x (M.length % 64) q) 1) (splice x (M.length % 64) q) 0 (M.length + q.length : Nat) := by
 have hx : splice x (M.length % 64) q = M.drop (64 * (M.length / 64)) ++ q := by
  have := take_splice_mid (x := x) (q := q) (n := M.length % 64) (by have := h.xl; omega)
  rw [hl, List.take_of_length_le (by rw [splice_length (by have := h.xl; omega)]; exact Nat.le_of_eq h.xl)] at this
  rw [this, h.xm]
 refine ⟨hx, ?_⟩
 have e1 : (M ++ q).length = M.length + q.length := by simp
 have e2 : (M.length + q.length) / 64 = M.length / 64 + 1 := by omega
 have e3 : (M.length + q.length) % 64 = 0 := by omega
 refine ⟨?_, ?_, ?_, by rw [e1, e3]; rfl, by rw [e1], h.bytes.append hq⟩
 ·rw [e1, e2, hx, h.h]
  have hM : M = M.take (64 * (M.length / 64)) ++ M.drop (64 * (M.length / 64)) := (List.take_append_drop _ _).symm
  have hlen : (M.take (64 * (M.length / 64))).length = 64 * (M.length / 64) := by simp; omega
  have a1 : hB S0 M (M.length / 64) = hB S0 (M.take (64 * (M.length / 64))) (M.length / 64) := by
   have := hB_left (S := S0) (M := M.take (64 * (M.length / 64))) (q := M.drop (64 * (M.length / 64))) (k := M.length / 64) (by omega)
   rw [← hM] at this
   exact this
  have a2 := hB_right (S := S0) (q := M.drop (64 * (M.length / 64)) ++ q) hlen 1
  rw [← List.append_assoc, ← hM] at a2
  rw [a1, a2]
 ·rw [splice_length (by have := h.xl; omega)]; exact h.xl
 ·rw [e1, e3]; simp; omega
theorem Abs.blocks {M : List Int} {H : S8} {x : List Int} {nx len : Int} (h : Abs M H x nx len) {q : List Int} (hq : Bytes q) (h0 : M.length % 64 = 0) (hl : q.length % 64 = 0) :
  Abs (M ++ q) (hB H q (q.length / 64)) x 0 (M.length + q.length : Nat) := by
 have e1 : (M ++ q).length = M.length + q.length := by simp
 have e2 : (M.length + q.length) / 64 = M.length / 64 + q.length / 64 := by omega
 have e3 : (M.length + q.length) % 64 = 0 := by omega
 refine ⟨?_, h.xl, ?_, by rw [e1, e3]; rfl, by rw [e1], h.bytes.append hq⟩
 ·rw [e1, e2, hB_right (by omega), h.h]
 ·rw [e1, e3]; simp; omega
theorem Abs.empty {x : List Int} (h : x.length = 64) : Abs [] S0 x 0 0 := ⟨rfl, h, by simp, rfl, rfl, Bytes.nil⟩
theorem Abs.exists {M : List Int} (h : Bytes M) : ∃ H x nx len, Abs M H x nx len := by
 refine ⟨_, M.drop (64 * (M.length / 64)) ++ List.replicate (64 - M.length % 64) 0, _, _, rfl, by simp; omega, ?_, rfl, rfl, h⟩
 rw [List.take_append_of_le_length (by simp; omega), List.take_of_length_le (by simp; omega)]
end Go.Sx
namespace Go.Sx
open Go Go.Proofs
set_option maxRecDepth 100000
def cxWrite : Cx Tryz.prog := { rds := [], efs := [cBlock], eqs := [] }
def u1 : Nat → Lp := fun _ => .un 1
theorem vc_write (H : S8) (xs : List Int) (nx len : Int) (p : List Int) (l c : Nat) (K : SV → Mem → Prop) : (execF cxWrite u1 Tryz.f77 64 [.ptr 9 (.lit 0), .slice 17 (.lit 0) (.sym l) (.sym c)] (memL [(2, ⟨true, .ints .u32 kL⟩), (9, dgR
 false H xs nx len), (17, ⟨true, .ints .u8 p⟩)]) K) = (∀ j : Int, j = ((l : Nat) : Int) → ∀ D, D = len → ∀ E, E = IntKind.wrap IntKind.u64 j → ∀ k, k = IntKind.wrap IntKind.u64 (D + E) → ∀ s, s = nx → (decide (s > 0) = true → ∀ a, a = nx →
 (0 ≤ a ∧ a ≤ 64) ∧ ((0 + Min.min l (64 - Int.toNat a) ≤ p.length ∧ (if 64 = Int.toNat a then (0 : Nat) else Int.toNat a * 1) + Min.min l (64 - Int.toNat a) ≤ xs.length) ∧ ∀ F, F = nx → ∀ n, n = IntKind.wrap IntKind.i64 (F + ((Min.min l (64
 - Int.toNat a) : Nat) : Int)) → ∀ t, t = n → ((t == 64) = true → 64 ≤ List.length (splice xs (if 64 = Int.toNat a then (0 : Nat) else Int.toNat a * 1) (List.take (Min.min l (64 - Int.toNat a)) (List.drop 0 p))) ∧ ((kL = kL ∧ List.length
 (List.take 64 (List.drop 0 (splice xs (if 64 = Int.toNat a then (0 : Nat) else Int.toNat a * 1) (List.take (Min.min l (64 - Int.toNat a)) (List.drop 0 p))))) = 64 ∧ (64 : Nat) ≤ (64 : Nat) ∧ Bytes (List.take 64 (List.drop 0 (splice xs (if
 64 = Int.toNat a then (0 : Nat) else Int.toNat a * 1) (List.take (Min.min l (64 - Int.toNat a)) (List.drop 0 p))))) ∧ (64 : Nat) < (1099511627776 : Nat)) ∧ ∀ b : S8, b = hB (S8.mk (S8.a H) (S8.b H) (S8.c H) (S8.d H) (S8.e H) (S8.f H) (S8.g
 H) (S8.h H)) (List.take 64 (List.drop 0 (splice xs (if 64 = Int.toNat a then (0 : Nat) else Int.toNat a * 1) (List.take (Min.min l (64 - Int.toNat a)) (List.drop 0 p))))) (1 : Nat) → ∀ m : List Int, m = splice xs (if 64 = Int.toNat a then
 (0 : Nat) else Int.toNat a * 1) (List.take (Min.min l (64 - Int.toNat a)) (List.drop 0 p)) → ((0 ≤ ((Min.min l (64 - Int.toNat a) : Nat) : Int) ∧ ((Min.min l (64 - Int.toNat a) : Nat) : Int) ≤ ((l : Nat) : Int)) ∧ ∀ u : Int, u = ((l -
 Int.toNat ((Min.min l (64 - Int.toNat a) : Nat) : Int) : Nat) : Int) → (decide (u ≥ 64) = true → ∀ G : Int, G = ((l - Int.toNat ((Min.min l (64 - Int.toNat a) : Nat) : Int) : Nat) : Int) → ∀ d, d = bandn .i64 G (63 : Int) → (decide (d >
 65536) = true → ((0 : Int) ≤ (65536 : Int) ∧ 65536 ≤ ((c - Int.toNat ((Min.min l (64 - Int.toNat a) : Nat) : Int) : Nat) : Int)) ∧ (if c = Int.toNat ((Min.min l (64 - Int.toNat a) : Nat) : Int) then (0 : Nat) else Int.toNat ((Min.min l (64
 - Int.toNat a) : Nat) : Int) * 1) + 65536 ≤ p.length ∧ ((kL = kL ∧ List.length (List.take 65536 (List.drop (if c = Int.toNat ((Min.min l (64 - Int.toNat a) : Nat) : Int) then (0 : Nat) else Int.toNat ((Min.min l (64 - Int.toNat a) : Nat) :
 Int) * 1) p)) = 65536 ∧ 65536 ≤ c - Int.toNat ((Min.min l (64 - Int.toNat a) : Nat) : Int) - 0 ∧ Bytes (List.take 65536 (List.drop (if c = Int.toNat ((Min.min l (64 - Int.toNat a) : Nat) : Int) then (0 : Nat) else Int.toNat ((Min.min l (64
 - Int.toNat a) : Nat) : Int) * 1) p)) ∧ (65536 : Nat) < (1099511627776 : Nat)) ∧ ∀ L : S8, L = hB b (List.take 65536 (List.drop (if c = Int.toNat ((Min.min l (64
 - Int.toNat a) : Nat) : Int) then (0 : Nat) else Int.toNat ((Min.min l (64 - Int.toNat a) : Nat) : Int) * 1) p)) (1024 : Nat) → ∀ M : List Int, M = m → (((0 : Int) ≤ (65536 : Int) ∧ 65536 ≤ ((l - Int.toNat ((Min.min l (64 - Int.toNat a) :
 Nat) : Int) : Nat) : Int)) ∧ ∀ N, N = IntKind.wrap IntKind.i64 (d - 65536) → False))) ∧ (decide (d > 65536) = false → (0 ≤ d ∧ d ≤ ((c - Int.toNat ((Min.min l (64 - Int.toNat a) : Nat) : Int) : Nat) : Int)) ∧ (if c = Int.toNat ((Min.min l
 (64 - Int.toNat a) : Nat) : Int) then (0 : Nat) else Int.toNat ((Min.min l (64 - Int.toNat a) : Nat) : Int) * 1) + (Int.toNat d - 0) * 1 ≤ p.length ∧ ((kL = kL ∧ List.length (List.take ((Int.toNat d - 0) * 1) (List.drop (if c = Int.toNat
 ((Min.min l (64 - Int.toNat a) : Nat) : Int) then (0 : Nat) else Int.toNat ((Min.min l (64 - Int.toNat a) : Nat) : Int) * 1) p)) = Int.toNat d - 0 ∧ Int.toNat d - 0 ≤ c - Int.toNat ((Min.min l (64 - Int.toNat a) : Nat) : Int) - 0 ∧ Bytes
 (List.take ((Int.toNat d - 0) * 1) (List.drop (if c = Int.toNat ((Min.min l (64 - Int.toNat a) : Nat) : Int) then (0 : Nat) else Int.toNat ((Min.min l (64 - Int.toNat a) : Nat) : Int) * 1) p)) ∧ Int.toNat d - 0 < 1099511627776) ∧ ∀ g : S8,
 g = hB b (List.take ((Int.toNat d - 0) * 1) (List.drop (if c = Int.toNat ((Min.min l (64 - Int.toNat a) : Nat) : Int) then (0 : Nat) else Int.toNat ((Min.min l
 (64 - Int.toNat a) : Nat) : Int) * 1) p)) ((Int.toNat d - 0) / 64) → ∀ o : List Int, o = m → ((0 ≤ d ∧ d ≤ ((l - Int.toNat ((Min.min l (64 - Int.toNat a) : Nat) : Int) : Nat) : Int)) ∧ ∀ v : Int, v = ((l - Int.toNat ((Min.min l (64 -
 Int.toNat a) : Nat) : Int) - Int.toNat d : Nat) : Int) → (decide (v > 0) = true → ((if c = Int.toNat ((Min.min l (64 - Int.toNat a) : Nat) : Int) then (0 : Nat) else Int.toNat ((Min.min l (64 - Int.toNat a) : Nat) : Int) * 1) + (if c -
 Int.toNat ((Min.min l (64 - Int.toNat a) : Nat) : Int) = Int.toNat d then (0 : Nat) else Int.toNat d * 1) + Min.min (l - Int.toNat ((Min.min l (64 - Int.toNat a) : Nat) : Int) - Int.toNat d) (64 : Nat) ≤ p.length ∧ 0 + Min.min (l -
 Int.toNat ((Min.min l (64 - Int.toNat a) : Nat) : Int) - Int.toNat d) (64 : Nat) ≤ o.length) ∧ K (.tup [.int .i64 (.sym j), .val .nilIface]) (memL [(2, ⟨true, .ints .u32 kL⟩), (9, ⟨false, .segs [.cells [.int .u32 (.sym (S8.a g)), .int .u32
 (.sym (S8.b g)), .int .u32 (.sym (S8.c g)), .int .u32 (.sym (S8.d g)), .int .u32 (.sym (S8.e g)), .int .u32 (.sym (S8.f g)), .int .u32 (.sym (S8.g g)), .int .u32 (.sym (S8.h g))], .ints .u8 64 (splice o (0 : Nat) (List.take (Min.min (l -
 Int.toNat ((Min.min l (64 - Int.toNat a) : Nat) : Int) - Int.toNat d) (64 : Nat)) (List.drop ((if c = Int.toNat ((Min.min l (64 - Int.toNat a) : Nat) : Int) then (0 : Nat) else Int.toNat ((Min.min l (64 - Int.toNat a) : Nat) : Int) * 1) +
 (if c - Int.toNat ((Min.min l (64 - Int.toNat a) : Nat) : Int) = Int.toNat d then (0 : Nat) else Int.toNat d * 1)) p))), .cells [.int .i64 (.sym ((Min.min (l - Int.toNat ((Min.min l (64 - Int.toNat a) : Nat) : Int) - Int.toNat d) (64 :
 Nat) : Nat) : Int)), .int .u64 (.sym k), .bool (.lit false)]]⟩), (17, ⟨true, .ints .u8 p⟩)])) ∧ (decide (v > 0) = false → K (.tup [.int .i64 (.sym j), .val .nilIface]) (memL [(2, ⟨true, .ints .u32 kL⟩), (9, ⟨false, .segs [.cells [.int .u32
 (.sym (S8.a g)), .int .u32 (.sym (S8.b g)), .int .u32 (.sym (S8.c g)), .int .u32 (.sym (S8.d g)), .int .u32 (.sym (S8.e g)), .int .u32 (.sym (S8.f g)), .int .u32 (.sym (S8.g g)), .int .u32 (.sym (S8.h g))], .ints .u8 64 o, .cells [.int
 .i64 (.lit 0), .int .u64 (.sym k), .bool (.lit false)]]⟩), (17, ⟨true, .ints .u8 p⟩)])))))) ∧ (decide (u ≥ 64) = false → ∀ w : Int, w = ((l - Int.toNat ((Min.min l (64 - Int.toNat a) : Nat) : Int) : Nat) : Int) → (decide (w > 0) = true →
 ((if c = Int.toNat ((Min.min l (64 - Int.toNat a) : Nat) : Int) then (0 : Nat) else Int.toNat ((Min.min l (64 - Int.toNat a) : Nat) : Int) * 1) + Min.min (l - Int.toNat ((Min.min l (64 - Int.toNat a) : Nat) : Int)) (64 : Nat) ≤ p.length ∧
 0 + Min.min (l - Int.toNat ((Min.min l (64 - Int.toNat a) : Nat) : Int)) (64 : Nat) ≤ m.length) ∧ K (.tup [.int .i64 (.sym j), .val .nilIface]) (memL [(2, ⟨true, .ints .u32 kL⟩), (9, ⟨false, .segs [.cells [.int .u32 (.sym (S8.a b)), .int
 .u32 (.sym (S8.b b)), .int .u32 (.sym (S8.c b)), .int .u32 (.sym (S8.d b)), .int .u32 (.sym (S8.e b)), .int .u32 (.sym (S8.f b)), .int .u32 (.sym (S8.g b)), .int .u32 (.sym (S8.h b))], .ints .u8 64 (splice m (0 : Nat) (List.take (Min.min
 (l - Int.toNat ((Min.min l (64 - Int.toNat a) : Nat) : Int)) (64 : Nat)) (List.drop (if c = Int.toNat ((Min.min l (64 - Int.toNat a) : Nat) : Int) then (0 : Nat) else Int.toNat ((Min.min l (64 - Int.toNat a) : Nat) : Int) * 1) p))), .cells
 [.int .i64 (.sym ((Min.min (l - Int.toNat ((Min.min l (64 - Int.toNat a) : Nat) : Int)) (64 : Nat) : Nat) : Int)), .int .u64 (.sym k), .bool (.lit false)]]⟩), (17, ⟨true, .ints .u8 p⟩)])) ∧ (decide (w > 0) = false → K (.tup [.int .i64
 (.sym j), .val .nilIface]) (memL [(2, ⟨true, .ints .u32 kL⟩), (9, ⟨false, .segs [.cells [.int .u32 (.sym (S8.a b)), .int .u32 (.sym (S8.b b)), .int .u32 (.sym (S8.c b)), .int .u32 (.sym (S8.d b)), .int .u32 (.sym (S8.e b)), .int .u32 (.sym
 (S8.f b)), .int .u32 (.sym (S8.g b)), .int .u32 (.sym (S8.h b))], .ints .u8 64 m, .cells [.int .i64 (.lit 0), .int .u64 (.sym k), .bool (.lit false)]]⟩), (17, ⟨true, .ints .u8 p⟩)])))))) ∧ ((t == 64) = false → ((0 ≤ ((Min.min l (64 -
 Int.toNat a) : Nat) : Int) ∧ ((Min.min l (64 - Int.toNat a) : Nat) : Int) ≤ ((l : Nat) : Int)) ∧ ∀ x : Int, x = ((l - Int.toNat ((Min.min l (64 - Int.toNat a) : Nat) : Int) : Nat) : Int) → (decide (x ≥ 64) = true → ∀ I : Int, I = ((l -
 Int.toNat ((Min.min l (64 - Int.toNat a) : Nat) : Int) : Nat) : Int) → ∀ e, e = bandn .i64 I (63 : Int) → (decide (e > 65536) = true → ((0 : Int) ≤ (65536 : Int) ∧ 65536 ≤ ((c - Int.toNat ((Min.min l (64 - Int.toNat a) : Nat) : Int) : Nat)
 : Int)) ∧ (if c = Int.toNat ((Min.min l (64 - Int.toNat a) : Nat) : Int) then (0 : Nat) else Int.toNat ((Min.min l (64 - Int.toNat a) : Nat) : Int) * 1) + 65536 ≤ p.length ∧ ((kL = kL ∧ List.length (List.take 65536 (List.drop (if c =
 Int.toNat ((Min.min l (64 - Int.toNat a) : Nat) : Int) then (0 : Nat) else Int.toNat ((Min.min l (64 - Int.toNat a) : Nat) : Int) * 1) p)) = 65536 ∧ 65536 ≤ c - Int.toNat ((Min.min l (64 - Int.toNat a) : Nat) : Int) - 0 ∧ Bytes (List.take
 65536 (List.drop (if c = Int.toNat ((Min.min l (64 - Int.toNat a) : Nat) : Int) then (0 : Nat) else Int.toNat ((Min.min l (64 - Int.toNat a) : Nat) : Int) * 1) p)) ∧ (65536 : Nat) < (1099511627776 : Nat)) ∧ ∀ O : S8, O = hB (S8.mk (S8.a H)
 (S8.b H) (S8.c H) (S8.d H) (S8.e H) (S8.f H) (S8.g H) (S8.h H)) (List.take 65536 (List.drop (if c = Int.toNat ((Min.min l (64 - Int.toNat a) : Nat) : Int) then (0 : Nat) else Int.toNat ((Min.min l (64 - Int.toNat a) : Nat) : Int) * 1) p))
 (1024 : Nat) → ∀ Q : List Int, Q = splice xs (if 64 = Int.toNat a then (0 : Nat) else Int.toNat a * 1) (List.take (Min.min l (64 - Int.toNat a)) (List.drop 0 p)) → (((0 : Int) ≤ (65536 : Int) ∧ 65536 ≤ ((l - Int.toNat ((Min.min l (64 -
 Int.toNat a) : Nat) : Int) : Nat) : Int)) ∧ ∀ R, R = IntKind.wrap IntKind.i64 (e - 65536) → False))) ∧ (decide (e > 65536) = false → (0 ≤ e ∧ e ≤ ((c - Int.toNat ((Min.min l (64 - Int.toNat a) : Nat) : Int) : Nat) : Int)) ∧ (if c =
 Int.toNat ((Min.min l (64 - Int.toNat a) : Nat) : Int) then (0 : Nat) else Int.toNat ((Min.min l (64 - Int.toNat a) : Nat) : Int) * 1) + (Int.toNat e - 0) * 1 ≤ p.length ∧ ((kL = kL ∧ List.length (List.take ((Int.toNat e - 0) * 1)
 (List.drop (if c = Int.toNat ((Min.min l (64 - Int.toNat a) : Nat) : Int) then (0 : Nat) else Int.toNat ((Min.min l (64 - Int.toNat a) : Nat) : Int) * 1) p)) = Int.toNat e - 0 ∧ Int.toNat e - 0 ≤ c - Int.toNat ((Min.min l (64 - Int.toNat
 a) : Nat) : Int) - 0 ∧ Bytes (List.take ((Int.toNat e - 0) * 1) (List.drop (if c = Int.toNat ((Min.min l (64 - Int.toNat a) : Nat) : Int) then (0 : Nat) else Int.toNat ((Min.min l (64 - Int.toNat a) : Nat) : Int) * 1) p)) ∧ Int.toNat e - 0
 < 1099511627776) ∧ ∀ h : S8, h = hB H (List.take ((Int.toNat e - 0) * 1) (List.drop (if c = Int.toNat ((Min.min l (64 - Int.toNat a) : Nat) : Int) then (0 : Nat)
 else Int.toNat ((Min.min l (64 - Int.toNat a) : Nat) : Int) * 1) p)) ((Int.toNat e - 0) / 64) → ∀ q : List Int, q = splice xs (if 64 = Int.toNat a then (0 : Nat) else Int.toNat a * 1) (List.take (Min.min l (64 - Int.toNat a)) (List.drop 0
 p)) → ((0 ≤ e ∧ e ≤ ((l - Int.toNat ((Min.min l (64 - Int.toNat a) : Nat) : Int) : Nat) : Int)) ∧ ∀ y : Int, y = ((l - Int.toNat ((Min.min l (64 - Int.toNat a) : Nat) : Int) - Int.toNat e : Nat) : Int) → (decide (y > 0) = true → ((if c =
 Int.toNat ((Min.min l (64 - Int.toNat a) : Nat) : Int) then (0 : Nat) else Int.toNat ((Min.min l (64 - Int.toNat a) : Nat) : Int) * 1) + (if c - Int.toNat ((Min.min l (64 - Int.toNat a) : Nat) : Int) = Int.toNat e then (0 : Nat) else
 Int.toNat e * 1) + Min.min (l - Int.toNat ((Min.min l (64 - Int.toNat a) : Nat) : Int) - Int.toNat e) (64 : Nat) ≤ p.length ∧ 0 + Min.min (l - Int.toNat ((Min.min l (64 - Int.toNat a) : Nat) : Int) - Int.toNat e) (64 : Nat) ≤ q.length) ∧ K
 (.tup [.int .i64 (.sym j), .val .nilIface]) (memL [(2, ⟨true, .ints .u32 kL⟩), (9, ⟨false, .segs [.cells [.int .u32 (.sym (S8.a h)), .int .u32 (.sym (S8.b h)), .int .u32 (.sym (S8.c h)), .int .u32 (.sym (S8.d h)), .int .u32 (.sym (S8.e
 h)), .int .u32 (.sym (S8.f h)), .int .u32 (.sym (S8.g h)), .int .u32 (.sym (S8.h h))], .ints .u8 64 (splice q (0 : Nat) (List.take (Min.min (l - Int.toNat ((Min.min l (64 - Int.toNat a) : Nat) : Int) - Int.toNat e) (64 : Nat)) (List.drop
 ((if c = Int.toNat ((Min.min l (64 - Int.toNat a) : Nat) : Int) then (0 : Nat) else Int.toNat ((Min.min l (64 - Int.toNat a) : Nat) : Int) * 1) + (if c - Int.toNat ((Min.min l (64 - Int.toNat a) : Nat) : Int) = Int.toNat e then (0 : Nat)
 else Int.toNat e * 1)) p))), .cells [.int .i64 (.sym ((Min.min (l - Int.toNat ((Min.min l (64 - Int.toNat a) : Nat) : Int) - Int.toNat e) (64 : Nat) : Nat) : Int)), .int .u64 (.sym k), .bool (.lit false)]]⟩), (17, ⟨true, .ints .u8 p⟩)])) ∧
 (decide (y > 0) = false → K (.tup [.int .i64 (.sym j), .val .nilIface]) (memL [(2, ⟨true, .ints .u32 kL⟩), (9, ⟨false, .segs [.cells [.int .u32 (.sym (S8.a h)), .int .u32 (.sym (S8.b h)), .int .u32 (.sym (S8.c h)), .int .u32 (.sym (S8.d
 h)), .int .u32 (.sym (S8.e h)), .int .u32 (.sym (S8.f h)), .int .u32 (.sym (S8.g h)), .int .u32 (.sym (S8.h h))], .ints .u8 64 q, .cells [.int .i64 (.sym n), .int .u64 (.sym k), .bool (.lit false)]]⟩), (17, ⟨true, .ints .u8 p⟩)])))))) ∧
 (decide (x ≥ 64) = false → ∀ z : Int, z = ((l - Int.toNat ((Min.min l (64 - Int.toNat a) : Nat) : Int) : Nat) : Int) → (decide (z > 0) = true → ((if c = Int.toNat ((Min.min l (64 - Int.toNat a) : Nat) : Int) then (0 : Nat) else Int.toNat
 ((Min.min l (64 - Int.toNat a) : Nat) : Int) * 1) + Min.min (l - Int.toNat ((Min.min l (64 - Int.toNat a) : Nat) : Int)) (64 : Nat) ≤ p.length ∧ 0 + Min.min (l - Int.toNat ((Min.min l (64 - Int.toNat a) : Nat) : Int)) (64 : Nat) ≤
 List.length (splice xs (if 64 = Int.toNat a then (0 : Nat) else Int.toNat a * 1) (List.take (Min.min l (64 - Int.toNat a)) (List.drop 0 p)))) ∧ K (.tup [.int .i64 (.sym j), .val .nilIface]) (memL [(2, ⟨true, .ints .u32 kL⟩), (9, ⟨false,
 .segs [.cells [.int .u32 (.sym (S8.a H)), .int .u32 (.sym (S8.b H)), .int .u32 (.sym (S8.c H)), .int .u32 (.sym (S8.d H)), .int .u32 (.sym (S8.e H)), .int .u32 (.sym (S8.f H)), .int .u32 (.sym (S8.g H)), .int .u32 (.sym (S8.h H))], .ints
 .u8 64 (splice (splice xs (if 64 = Int.toNat a then (0 : Nat) else Int.toNat a * 1) (List.take (Min.min l (64 - Int.toNat a)) (List.drop 0 p))) (0 : Nat) (List.take (Min.min (l - Int.toNat ((Min.min l (64 - Int.toNat a) : Nat) : Int)) (64
 : Nat)) (List.drop (if c = Int.toNat ((Min.min l (64 - Int.toNat a) : Nat) : Int) then (0 : Nat) else Int.toNat ((Min.min l (64 - Int.toNat a) : Nat) : Int) * 1) p))), .cells [.int .i64 (.sym ((Min.min (l - Int.toNat ((Min.min l (64 -
 Int.toNat a) : Nat) : Int)) (64 : Nat) : Nat) : Int)), .int .u64 (.sym k), .bool (.lit false)]]⟩), (17, ⟨true, .ints .u8 p⟩)])) ∧ (decide (z > 0) = false → K (.tup [.int .i64 (.sym j), .val .nilIface]) (memL [(2, ⟨true, .ints .u32 kL⟩),
 (9, ⟨false, .segs [.cells [.int .u32 (.sym (S8.a H)), .int .u32 (.sym (S8.b H)), .int .u32 (.sym (S8.c H)), .int .u32 (.sym (S8.d H)), .int .u32 (.sym (S8.e H)), .int .u32 (.sym (S8.f H)), .int .u32 (.sym (S8.g H)), .int .u32 (.sym (S8.h
 H))], .ints .u8 64 (splice xs (if 64 = Int.toNat a then (0 : Nat) else Int.toNat a * 1) (List.take (Min.min l (64 - Int.toNat a)) (List.drop 0 p))), .cells [.int .i64 (.sym n), .int .u64 (.sym k), .bool (.lit false)]]⟩), (17, ⟨true, .ints
 .u8 p⟩)]))))))) ∧ (decide (s > 0) = false → ∀ A : Int, A = ((l : Nat) : Int) → (decide (A ≥ 64) = true → ∀ J : Int, J = ((l : Nat) : Int) → ∀ f, f = bandn .i64 J (63 : Int) → (decide (f > 65536) = true → ((0 : Int) ≤ (65536 : Int) ∧ 65536
 ≤ ((c : Nat) : Int)) ∧ 65536 ≤ p.length ∧ ((kL = kL ∧ List.length (List.take 65536 (List.drop 0 p)) = 65536 ∧ 65536 ≤ c - 0 ∧ Bytes (List.take 65536 (List.drop 0 p)) ∧ (65536 : Nat) < (1099511627776 : Nat)) ∧ ∀ S : S8, S = hB (S8.mk (S8.a
 H) (S8.b H) (S8.c H) (S8.d H) (S8.e H) (S8.f H) (S8.g H) (S8.h H)) (List.take 65536 (List.drop 0 p)) (1024 : Nat) → ∀ T : List Int, T = xs → (((0 : Int) ≤ (65536 : Int) ∧ 65536 ≤ ((l : Nat) : Int)) ∧ ∀ V, V = IntKind.wrap IntKind.i64 (f -
 65536) → False))) ∧ (decide (f > 65536) = false → (0 ≤ f ∧ f ≤ ((c : Nat) : Int)) ∧ 0 + (Int.toNat f - 0) * 1 ≤ p.length ∧ ((kL = kL ∧ List.length (List.take ((Int.toNat f - 0) * 1) (List.drop 0 p)) = Int.toNat f - 0 ∧ Int.toNat f - 0 ≤ c
 - 0 ∧ Bytes (List.take ((Int.toNat f - 0) * 1) (List.drop 0 p)) ∧ Int.toNat f - 0 < 1099511627776) ∧ ∀ i : S8, i = hB H (List.take ((Int.toNat f - 0) * 1)
 (List.drop 0 p)) ((Int.toNat f - 0) / 64) → ∀ r : List Int, r = xs → ((0 ≤ f ∧ f ≤ ((l : Nat) : Int)) ∧ ∀ B : Int, B = ((l - Int.toNat f : Nat) : Int) → (decide (B > 0) = true → ((if c = Int.toNat f then (0 : Nat) else Int.toNat f * 1) +
 Min.min (l - Int.toNat f) (64 : Nat) ≤ p.length ∧ 0 + Min.min (l - Int.toNat f) (64 : Nat) ≤ r.length) ∧ K (.tup [.int .i64 (.sym j), .val .nilIface]) (memL [(2, ⟨true, .ints .u32 kL⟩), (9, ⟨false, .segs [.cells [.int .u32 (.sym (S8.a i)),
 .int .u32 (.sym (S8.b i)), .int .u32 (.sym (S8.c i)), .int .u32 (.sym (S8.d i)), .int .u32 (.sym (S8.e i)), .int .u32 (.sym (S8.f i)), .int .u32 (.sym (S8.g i)), .int .u32 (.sym (S8.h i))], .ints .u8 64 (splice r (0 : Nat) (List.take
 (Min.min (l - Int.toNat f) (64 : Nat)) (List.drop (if c = Int.toNat f then (0 : Nat) else Int.toNat f * 1) p))), .cells [.int .i64 (.sym ((Min.min (l - Int.toNat f) (64 : Nat) : Nat) : Int)), .int .u64 (.sym k), .bool (.lit false)]]⟩),
 (17, ⟨true, .ints .u8 p⟩)])) ∧ (decide (B > 0) = false → K (.tup [.int .i64 (.sym j), .val .nilIface]) (memL [(2, ⟨true, .ints .u32 kL⟩), (9, ⟨false, .segs [.cells [.int .u32 (.sym (S8.a i)), .int .u32 (.sym (S8.b i)), .int .u32 (.sym
 (S8.c i)), .int .u32 (.sym (S8.d i)), .int .u32 (.sym (S8.e i)), .int .u32 (.sym (S8.f i)), .int .u32 (.sym (S8.g i)), .int .u32 (.sym (S8.h i))], .ints .u8 64 r, .cells [.int .i64 (.sym nx), .int .u64 (.sym k), .bool (.lit false)]]⟩),
 (17, ⟨true, .ints .u8 p⟩)])))))) ∧ (decide (A ≥ 64) = false → ∀ C : Int, C = ((l : Nat) : Int) → (decide (C > 0) = true → (0 + Min.min l (64 : Nat) ≤ p.length ∧ 0 + Min.min l (64 : Nat) ≤ xs.length) ∧ K (.tup [.int .i64 (.sym j), .val
 .nilIface]) (memL [(2, ⟨true, .ints .u32 kL⟩), (9, ⟨false, .segs [.cells [.int .u32 (.sym (S8.a H)), .int .u32 (.sym (S8.b H)), .int .u32 (.sym (S8.c H)), .int .u32 (.sym (S8.d H)), .int .u32 (.sym (S8.e H)), .int .u32 (.sym (S8.f H)),
 .int .u32 (.sym (S8.g H)), .int .u32 (.sym (S8.h H))], .ints .u8 64 (splice xs (0 : Nat) (List.take (Min.min l (64 : Nat)) (List.drop 0 p))), .cells [.int .i64 (.sym ((Min.min l (64 : Nat) : Nat) : Int)), .int .u64 (.sym k), .bool (.lit
 false)]]⟩), (17, ⟨true, .ints .u8 p⟩)])) ∧ (decide (C > 0) = false → K (.tup [.int .i64 (.sym j), .val .nilIface]) (memL [(2, ⟨true, .ints .u32 kL⟩), (9, ⟨false, .segs [.cells [.int .u32 (.sym (S8.a H)), .int .u32 (.sym (S8.b H)), .int
 .u32 (.sym (S8.c H)), .int .u32 (.sym (S8.d H)), .int .u32 (.sym (S8.e H)), .int .u32 (.sym (S8.f H)), .int .u32 (.sym (S8.g H)), .int .u32 (.sym (S8.h H))], .ints .u8 64 xs, .cells [.int .i64 (.sym nx), .int .u64 (.sym k), .bool (.lit
 false)]]⟩), (17, ⟨true, .ints .u8 p⟩)]))))) := by kernel_rfl
end Go.Sx
namespace Go.Sx
open Go
theorem bandn_63 {n : Nat} (h : n < 2 ^ 40) : bandn .i64 (n : Int) 63 = ((n / 64 * 64 : Nat) : Int) := by
 have e : (BitVec.ofNat 64 n &&& ~~~(63#64)).toNat = n / 64 * 64 := by
  apply Nat.eq_of_testBit_eq
  intro i
  have hn : n / 64 * 64 = (n >>> 6) <<< 6 := by rw [Nat.shiftRight_eq_div_pow, Nat.shiftLeft_eq]
  rw [hn, Nat.testBit_shiftLeft, Nat.testBit_shiftRight]
  rw [BitVec.testBit_toNat, BitVec.getLsbD_and, BitVec.getLsbD_not, BitVec.getLsbD_ofNat]
  by_cases hi : i < 64
  ·have h63 : (63#64 : BitVec 64).getLsbD i = decide (i < 6) := by
    have : ∀ j : Fin 64, (63#64 : BitVec 64).getLsbD j.val = decide (j.val < 6) := by decide
    exact this ⟨i, hi⟩
   rw [h63]
   by_cases h6 : i < 6
   ·simp [hi, h6]; omega
   ·simp [hi, h6, show 6 ≤ i by omega, show 6 + (i - 6) = i by omega]
  ·have : n.testBit i = false := Nat.testBit_lt_two_pow (Nat.lt_of_lt_of_le h (Nat.pow_le_pow_right (by omega) (by omega)))
   simp [hi]
   intro _
   rw [show 6 + (i - 6) = i by omega]
   exact this
 have e1 : BitVec.ofInt 64 (n : Int) = BitVec.ofNat 64 n := by simp
 show IntKind.i64.wrap ((BitVec.ofInt 64 (n : Int) &&& ~~~(63#64)).toNat : Nat) = _
 rw [e1, e]
 exact wrap64 (by omega) (by omega)
end Go.Sx
namespace Go.Sx
open Go Go.Proofs
set_option maxRecDepth 100000
set_option maxHeartbeats 4000000
theorem S8.eta (H : S8) : S8.mk H.a H.b H.c H.d H.e H.f H.g H.h = H := rfl
theorem write_walk (M : List Int) (H : S8) (xs : List Int) (nx len : Int) (p : List Int) (l c : Nat) (K : SV → Mem → Prop) (hA : Abs M H xs nx len) (hp : Bytes p) (hl : p.length = l) (hc : l ≤ c) (hbig : l ≤ 65536) (hM : M.length < 2 ^ 40) (hup : KUp K)
  (hK : ∀ H' x' nx' len', Abs (M ++ p) H' x' nx' len' → K (.tup [.int .i64 (.sym (l : Int)), .val .nilIface]) (memL [(2, ⟨true, .ints .u32 kL⟩), (9, dgR false H' x' nx' len'), (17, ⟨true, .ints .u8 p⟩)])) :
  execF cxWrite u1 Tryz.f77 64 [.ptr 9 (.lit 0), .slice 17 (.lit 0) (.sym l) (.sym c)] (memL [(2, ⟨true, .ints .u32 kL⟩), (9, dgR false H xs nx len), (17, ⟨true, .ints .u8 p⟩)]) K := by
 rw [vc_write]
 have hnx := hA.nx
 have hlen := hA.len
 have hxl := hA.xl
 subst hnx
 rintro x0 rfl x1 rfl x2 rfl x3 hx3 x4 rfl
 rw [wrapu64 (x := (l : Int)) (by omega) (by omega), hlen, wrapu64 (by omega) (by omega)] at hx3
 refine ⟨fun hpos => ?_, fun hpos => ?_⟩
 ·rintro x5 rfl
  simp only [decide_eq_true_eq] at hpos
  simp only [Int.toNat_natCast, Nat.mul_one, List.drop_zero, Nat.zero_add, Nat.sub_zero, S8.eta]
  rw [if_neg (by omega)]
  generalize hr : M.length % 64 = r at *
  generalize hn1 : min l (64 - r) = n1
  refine ⟨⟨by omega, by omega⟩, ⟨by omega, by omega⟩, ?_⟩
  rintro x6 rfl x7 hx7 x8 rfl
  rw [wrap64 (by omega) (by omega)] at hx7
  have hn1l : n1 ≤ l := by omega
  have e0 : ∀ n, p.drop n1 = (p.drop n1).take n ++ p.drop (n1 + n) := fun n => by
   rw [← List.drop_drop, List.take_append_drop]
  refine ⟨fun hf => ?_, fun hf => ?_⟩
  ·simp only [beq_iff_eq] at hf
   obtain ⟨hx, A1⟩ := hA.full (q := p.take n1) (hp.take _) (by rw [hr]; simp; omega)
   rw [hr] at hx A1
   have hsl : (splice xs r (p.take n1)).length = 64 := A1.xl
   rw [List.take_of_length_le (l := splice xs r (p.take n1)) (by omega)]
   have hby : Bytes (splice xs r (p.take n1)) := by rw [hx]; exact (hA.bytes.drop _).append (hp.take _)
   refine ⟨by omega, ⟨trivial, by omega, by omega, hby, by omega⟩, ?_⟩
   rintro H9 hH9
   rw [← hH9] at A1
   rintro ys10 rfl
   refine ⟨⟨by omega, by omega⟩, ?_⟩
   rintro x10 rfl
   have hpl : (p.take n1).length = n1 := by simp; omega
   rw [hpl] at A1
   have hm0 : (M ++ p.take n1).length % 64 = 0 := by simp; omega
   refine ⟨fun hge => ?_, fun hge => ?_⟩
   ·simp only [decide_eq_true_eq] at hge
    rw [if_neg (by omega : ¬ c = n1)]
    rintro x11 rfl x12 hx12
    rw [bandn_63 (by omega)] at hx12
    obtain ⟨n2, hn2⟩ : ∃ n2, n2 = (l - n1) / 64 * 64 := ⟨_, rfl⟩
    rw [← hn2] at hx12
    subst hx12
    simp only [Int.toNat_natCast]
    refine ⟨fun hbad => ?_, fun _ => ?_⟩
    ·simp only [decide_eq_true_eq] at hbad
     omega
    ·have hq : ((p.drop n1).take n2).length = n2 := by simp; omega
     refine ⟨by omega, by omega, ⟨trivial, hq, by omega, (hp.drop _).take _, by omega⟩, ?_⟩
     rintro H15 hH15
     have A2 := A1.blocks (q := (p.drop n1).take n2) ((hp.drop _).take _) hm0 (by rw [hq]; omega)
     rw [hq, ← hH15] at A2
     rintro ys15 rfl
     refine ⟨by omega, ?_⟩
     rintro x16 rfl
     have hlenM : (M ++ p.take n1 ++ (p.drop n1).take n2).length = M.length + n1 + n2 := by simp; omega
     refine ⟨fun hgt => ?_, fun hgt => ?_⟩
     ·simp only [decide_eq_true_eq] at hgt
      rw [if_neg (by omega : ¬ c - n1 = n2), Nat.min_eq_left (by omega)]
      rw [List.take_of_length_le (l := p.drop (n1 + n2)) (by simp; omega)]
      have A3 := A2.part (q := p.drop (n1 + n2)) (hp.drop _) (by rw [hlenM]; simp; omega)
      have hq3 : (p.drop (n1 + n2)).length = l - n1 - n2 := by simp; omega
      refine ⟨⟨by omega, by omega⟩, ?_⟩
      have : M ++ p.take n1 ++ (p.drop n1).take n2 ++ p.drop (n1 + n2) = M ++ p := by
       rw [List.append_assoc, List.append_assoc, ← e0 n2, List.take_append_drop]
      rw [this, hlenM, hq3, show (M.length + n1 + n2) % 64 = 0 by omega, Nat.zero_add] at A3
      have := hK _ _ _ _ A3
      rw [show x3 = ((M.length + n1 + n2 + (l - n1 - n2) : Nat) : Int) by omega]
      exact this
     ·simp only [decide_eq_false_iff_not] at hgt
      have : M ++ p.take n1 ++ (p.drop n1).take n2 = M ++ p := by
       have h2 := e0 n2
       rw [List.drop_of_length_le (i := n1 + n2) (by omega), List.append_nil] at h2
       rw [← h2, List.append_assoc, List.take_append_drop]
      rw [this] at A2
      have lit0 := hK _ _ _ _ A2
      rw [show x3 = (((M ++ p.take n1).length + n2 : Nat) : Int) by simp; omega]
      (refine KUp.gen hup ?_ ?_ lit0 <;> rfl)
   ·simp only [decide_eq_false_iff_not] at hge
    rintro x17 rfl
    refine ⟨fun hgt => ?_, fun hgt => ?_⟩
    ·simp only [decide_eq_true_eq] at hgt
     rw [if_neg (by omega : ¬ c = n1), Nat.min_eq_left (by omega)]
     rw [List.take_of_length_le (l := p.drop n1) (by simp; omega)]
     have A3 := A1.part (q := p.drop n1) (hp.drop _) (by rw [hm0]; simp; omega)
     have hq3 : (p.drop n1).length = l - n1 := by simp; omega
     refine ⟨⟨by omega, by omega⟩, ?_⟩
     rw [List.append_assoc, List.take_append_drop, hm0, hq3, Nat.zero_add] at A3
     have := hK _ _ _ _ A3
     rw [show x3 = (((M ++ p.take n1).length + (l - n1) : Nat) : Int) by simp; omega]
     exact this
    ·simp only [decide_eq_false_iff_not] at hgt
     have hpp : p.take n1 = p := List.take_of_length_le (by omega)
     rw [hpp] at A1 ⊢
     have lit0 := hK _ _ _ _ A1
     rw [show x3 = ((M.length + n1 : Nat) : Int) by omega]
     (refine KUp.gen hup ?_ ?_ lit0 <;> rfl)
  ·simp only [beq_eq_false_iff_ne, ne_eq] at hf
   obtain rfl : n1 = l := by omega
   have A1 := hA.part (q := p) hp (by omega)
   rw [hr, hl] at A1
   refine ⟨⟨by omega, by omega⟩, ?_⟩
   rintro x18 rfl
   refine ⟨fun hge => ?_, fun _ => ?_⟩
   ·simp only [decide_eq_true_eq] at hge
    omega
   ·rintro x23 rfl
    refine ⟨fun hgt => ?_, fun _ => ?_⟩
    ·simp only [decide_eq_true_eq] at hgt
     omega
    ·rw [List.take_of_length_le (by omega), hx7, hx3]
     have := hK _ _ _ _ A1
     exact this
 ·simp only [decide_eq_false_iff_not] at hpos
  have hm0 : M.length % 64 = 0 := by omega
  simp only [Int.toNat_natCast, Nat.mul_one, List.drop_zero, Nat.zero_add, Nat.sub_zero, S8.eta]
  rintro x26 rfl
  refine ⟨fun hge => ?_, fun hge => ?_⟩
  ·simp only [decide_eq_true_eq] at hge
   rintro x27 rfl x28 hx28
   rw [bandn_63 (by omega)] at hx28
   obtain ⟨n2, hn2⟩ : ∃ n2, n2 = l / 64 * 64 := ⟨_, rfl⟩
   rw [← hn2] at hx28
   subst hx28
   simp only [Int.toNat_natCast]
   refine ⟨fun hbad => ?_, fun _ => ?_⟩
   ·simp only [decide_eq_true_eq] at hbad
    omega
   ·have hq : (p.take n2).length = n2 := by simp; omega
    refine ⟨by omega, by omega, ⟨trivial, hq, by omega, hp.take _, by omega⟩, ?_⟩
    rintro H15 hH15
    have A2 := hA.blocks (q := p.take n2) (hp.take _) hm0 (by rw [hq]; omega)
    rw [hq, ← hH15] at A2
    rintro ys38 rfl
    refine ⟨by omega, ?_⟩
    rintro x16 rfl
    have hlenM : (M ++ p.take n2).length = M.length + n2 := by simp; omega
    refine ⟨fun hgt => ?_, fun hgt => ?_⟩
    ·simp only [decide_eq_true_eq] at hgt
     rw [if_neg (by omega : ¬ c = n2), Nat.min_eq_left (by omega)]
     rw [List.take_of_length_le (l := p.drop n2) (by simp; omega)]
     have A3 := A2.part (q := p.drop n2) (hp.drop _) (by rw [hlenM]; simp; omega)
     have hq3 : (p.drop n2).length = l - n2 := by simp; omega
     refine ⟨⟨by omega, by omega⟩, ?_⟩
     rw [List.append_assoc, List.take_append_drop, hlenM, hq3, show (M.length + n2) % 64 = 0 by omega, Nat.zero_add] at A3
     have := hK _ _ _ _ A3
     rw [show x3 = ((M.length + n2 + (l - n2) : Nat) : Int) by omega]
     exact this
    ·simp only [decide_eq_false_iff_not] at hgt
     rw [List.take_of_length_le (by omega)] at A2
     have := hK _ _ _ _ A2
     rw [show x3 = ((M.length + n2 : Nat) : Int) by omega]
     rw [hm0]
     exact this
  ·simp only [decide_eq_false_iff_not] at hge
   rintro x17 rfl
   refine ⟨fun hgt => ?_, fun hgt => ?_⟩
   ·simp only [decide_eq_true_eq] at hgt
    rw [Nat.min_eq_left (by omega), List.take_of_length_le (by omega)]
    have A3 := hA.part (q := p) hp (by omega)
    refine ⟨⟨by omega, by omega⟩, ?_⟩
    rw [hm0, hl, Nat.zero_add] at A3
    have := hK _ _ _ _ A3
    rw [hx3]
    exact this
   ·simp only [decide_eq_false_iff_not] at hgt
    obtain rfl : p = [] := List.eq_nil_of_length_eq_zero (by omega)
    have := hK H xs ((M.length % 64 : Nat) : Int) x1 (by rw [List.append_nil]; exact hA)
    rw [show x3 = x1 by omega]
    exact this
end Go.Sx
namespace Go.Sx
open Go Go.Proofs
set_option maxRecDepth 100000
theorem vc_writenil (H : S8) (xs : List Int) (nx len : Int) (K : SV → Mem → Prop) : (execF cxWrite u1 Tryz.f77 64 [.ptr 9 (.lit 0), .val (.slice none 0 0)] (memL [(2, ⟨true, .ints .u32 kL⟩), (9, dgR false H xs nx len)]) K) = (∀ c, c = len →
 ∀ d, d = IntKind.wrap IntKind.u64 (c + 0) → ∀ a, a = nx → (decide (a > 0) = true → ∀ b, b = nx → (0 ≤ b ∧ b ≤ 64) ∧ False) ∧ (decide (a > 0) = false → K (.tup [.int .i64 (.lit 0), .val .nilIface]) (memL [(2, ⟨true, .ints .u32 kL⟩), (9,
 ⟨false, .segs [.cells [.int .u32 (.sym (S8.a H)), .int .u32 (.sym (S8.b H)), .int .u32 (.sym (S8.c H)), .int .u32 (.sym (S8.d H)), .int .u32 (.sym (S8.e H)), .int .u32 (.sym (S8.f H)), .int .u32 (.sym (S8.g H)), .int .u32 (.sym (S8.h H))],
 .ints .u8 64 xs, .cells [.int .i64 (.sym nx), .int .u64 (.sym d), .bool (.lit false)]]⟩)]))) := by kernel_rfl
def gWrite : G0 := fun args l K =>
 match args, l with
 | [.ptr 9 (.lit 0), .slice 17 (.lit 0) (.sym n) (.sym c)], [(2, ⟨true, .ints .u32 ks⟩), (9, ⟨false, .segs [.cells [.int .u32 (.sym h0), .int .u32 (.sym h1), .int .u32 (.sym h2), .int .u32 (.sym h3), .int .u32 (.sym h4), .int .u32 (.sym h5), .int .u32 (.sym h6), .int .u32 (.sym h7)], .ints .u8 64 xs, .cells [.int .i64 (.sym nx), .int .u64 (.sym len), .bool (.lit false)]]⟩), (17, ⟨true, .ints .u8 p⟩)] =>
  ∃ M, (ks = kL ∧ Abs M ⟨h0, h1, h2, h3, h4, h5, h6, h7⟩ xs nx len ∧ Bytes p ∧ p.length = n ∧ n ≤ c ∧ n ≤ 65536 ∧ M.length < 2 ^ 40) ∧
   ∀ H' x' nx' len', Abs (M ++ p) H' x' nx' len' → K (.tup [.int .i64 (.sym n), .val .nilIface]) (memL [(2, ⟨true, .ints .u32 kL⟩), (9, dgR false H' x' nx' len'), (17, ⟨true, .ints .u8 p⟩)])
 | [.ptr 9 (.lit 0), .val (.slice none 0 0)], [(2, ⟨true, .ints .u32 ks⟩), (9, ⟨false, .segs [.cells [.int .u32 (.sym h0), .int .u32 (.sym h1), .int .u32 (.sym h2), .int .u32 (.sym h3), .int .u32 (.sym h4), .int .u32 (.sym h5), .int .u32 (.sym h6), .int .u32 (.sym h7)], .ints .u8 64 xs, .cells [.int .i64 (.sym nx), .int .u64 (.sym len), .bool (.lit false)]]⟩)] =>
  ∃ M, (ks = kL ∧ Abs M ⟨h0, h1, h2, h3, h4, h5, h6, h7⟩ xs nx len ∧ M.length % 64 = 0 ∧ M.length < 2 ^ 40) ∧
   ∀ H' x' nx' len', Abs M H' x' nx' len' → K (.tup [.int .i64 (.lit 0), .val .nilIface]) (memL [(2, ⟨true, .ints .u32 kL⟩), (9, dgR false H' x' nx' len')])
 | _, _ => False
theorem write_good : Good gWrite := by
 constructor
 ·intro args l K K' hk h
  unfold gWrite at h ⊢
  split at h
  ·obtain ⟨M, h1, h2⟩ := h
   exact ⟨M, h1, fun H' x' nx' len' ha => hk _ _ (h2 H' x' nx' len' ha)⟩
  ·obtain ⟨M, h1, h2⟩ := h
   exact ⟨M, h1, fun H' x' nx' len' ha => hk _ _ (h2 H' x' nx' len' ha)⟩
  ·exact h.elim
 ·intro args l K h
  unfold gWrite at h
  split at h
  ·obtain ⟨M, h1, h2⟩ := h
   obtain ⟨H, x, nx, len, ha⟩ := Abs.exists (h1.2.1.bytes.append h1.2.2.1)
   exact ⟨_, _, h2 H x nx len ha⟩
  ·obtain ⟨M, h1, h2⟩ := h
   exact ⟨_, _, h2 _ _ _ _ h1.2.1⟩
  ·exact h.elim
theorem write_ok (args : List SV) (l : List (Nat × Reg)) (K : SV → Mem → Prop) (hup : KUp K) (h : gWrite args l K) : ∃ U, execF cxWrite U Tryz.f77 64 args (memL l) K := by
 refine ⟨u1, ?_⟩
 unfold gWrite at h
 split at h
 ·rename_i n c ks h0 h1 h2 h3 h4 h5 h6 h7 xs nx len p
  obtain ⟨M, ⟨hk, k1, k2, k3, k4, k5, k6⟩, k7⟩ := h
  subst hk
  exact write_walk M ⟨h0, h1, h2, h3, h4, h5, h6, h7⟩ xs nx len p n c K k1 k2 k3 k4 k5 k6 hup k7
 ·rename_i ks h0 h1 h2 h3 h4 h5 h6 h7 xs nx len
  obtain ⟨M, ⟨hk, k1, k2, k3⟩, k7⟩ := h
  subst hk
  have := vc_writenil ⟨h0, h1, h2, h3, h4, h5, h6, h7⟩ xs nx len K
  unfold dgR i32 at this
  rw [this]
  have e1 := k1.nx
  have e2 := k1.len
  rintro x0 rfl x1 hx1 x2 rfl
  refine ⟨fun hb => ?_, fun _ => ?_⟩
  ·simp only [decide_eq_true_eq] at hb
   omega
  ·rw [Int.add_zero, wrapu64 (by omega) (by omega)] at hx1
   subst hx1
   exact k7 _ _ _ _ k1
 ·exact h.elim
def cWrite : Ef Tryz.prog := mkE mixed 77 Tryz.func77 (by decide) (by kernel_rfl) [1] [.parts dgSh false, .sl 1 true] gWrite write_good write_ok
def cxCs : Cx Tryz.prog := { rds := [], efs := [cWrite, cBe64, cBe32], eqs := [] }
theorem vc_cs (H : S8) (xs : List Int) (nx len : Int) (K : SV → Mem → Prop) : (execF cxCs u0 Tryz.f102 64 [.ptr 9 (.lit 0)] (memL [(2, ⟨true, .ints .u32 kL⟩), (9, dgR false H xs nx len)]) K) = (∀ w, w = len → ∀ V, V = Int.tmod w (64 : Int) →
 (decide (V < 56) = true → ∀ x2, x2 = Int.tmod w (64 : Int) → ∀ X, X = IntKind.wrap IntKind.u64 (56 - x2) → ∀ x4, x4 = shlv .u64 w 3 → ∀ g, g = IntKind.wrap IntKind.u64 (X + 8) → ((0 ≤ g ∧ g ≤ 72) ∧ ∀ c, c = IntKind.wrap IntKind.u64 (X + 0)
 → (0 ≤ c ∧ c ≤ ((Int.toNat g - 0 : Nat) : Int)) ∧ (if 72 = Int.toNat c then (0 : Nat) else Int.toNat c * 1) + (Int.toNat g - 0 - Int.toNat c) * 1 ≤ 72 ∧ ((8 ≤ Int.toNat g - 0 - Int.toNat c ∧ 8 ≤ List.length (List.take ((Int.toNat g - 0 -
 Int.toNat c) * 1) (List.drop (if 72 = Int.toNat c then (0 : Nat) else Int.toNat c * 1) [(128 : Int), (0 : Int), (0 : Int), (0 : Int), (0 : Int), (0 : Int), (0 : Int), (0 : Int), (0 : Int), (0 : Int), (0 : Int), (0 : Int), (0 : Int), (0 :
 Int), (0 : Int), (0 : Int), (0 : Int), (0 : Int), (0 : Int), (0 : Int), (0 : Int), (0 : Int), (0 : Int), (0 : Int), (0 : Int), (0 : Int), (0 : Int), (0 : Int), (0 : Int), (0 : Int), (0 : Int), (0 : Int), (0 : Int), (0 : Int), (0 : Int), (0
 : Int), (0 : Int), (0 : Int), (0 : Int), (0 : Int), (0 : Int), (0 : Int), (0 : Int), (0 : Int), (0 : Int), (0 : Int), (0 : Int), (0 : Int), (0 : Int), (0 : Int), (0 : Int), (0 : Int), (0 : Int), (0 : Int), (0 : Int), (0 : Int), (0 : Int),
 (0 : Int), (0 : Int), (0 : Int), (0 : Int), (0 : Int), (0 : Int), (0 : Int), (0 : Int), (0 : Int), (0 : Int), (0 : Int), (0 : Int), (0 : Int), (0 : Int), (0 : Int)]))) ∧ ∀ z : List Int, z = wr8 (List.take ((Int.toNat g - 0 - Int.toNat c) *
 1) (List.drop (if 72 = Int.toNat c then (0 : Nat) else Int.toNat c * 1) [(128 : Int), (0 : Int), (0 : Int), (0 : Int), (0 : Int), (0 : Int), (0 : Int), (0 : Int), (0 : Int), (0 : Int), (0 : Int), (0 : Int), (0 : Int), (0 : Int), (0 : Int),
 (0 : Int), (0 : Int), (0 : Int), (0 : Int), (0 : Int), (0 : Int), (0 : Int), (0 : Int), (0 : Int), (0 : Int), (0 : Int), (0 : Int), (0 : Int), (0 : Int), (0 : Int), (0 : Int), (0 : Int), (0 : Int), (0 : Int), (0 : Int), (0 : Int), (0 :
 Int), (0 : Int), (0 : Int), (0 : Int), (0 : Int), (0 : Int), (0 : Int), (0 : Int), (0 : Int), (0 : Int), (0 : Int), (0 : Int), (0 : Int), (0 : Int), (0 : Int), (0 : Int), (0 : Int), (0 : Int), (0 : Int), (0 : Int), (0 : Int), (0 : Int), (0
 : Int), (0 : Int), (0 : Int), (0 : Int), (0 : Int), (0 : Int), (0 : Int), (0 : Int), (0 : Int), (0 : Int), (0 : Int), (0 : Int), (0 : Int), (0 : Int)])) x4 → z.length = List.length (List.take ((Int.toNat g - 0 - Int.toNat c) * 1)
 (List.drop (if 72 = Int.toNat c then (0 : Nat) else Int.toNat c * 1) [(128 : Int), (0 : Int), (0 : Int), (0 : Int), (0 : Int), (0 : Int), (0 : Int), (0 : Int), (0 : Int), (0 : Int), (0 : Int), (0 : Int), (0 : Int), (0 : Int), (0 : Int), (0
 : Int), (0 : Int), (0 : Int), (0 : Int), (0 : Int), (0 : Int), (0 : Int), (0 : Int), (0 : Int), (0 : Int), (0 : Int), (0 : Int), (0 : Int), (0 : Int), (0 : Int), (0 : Int), (0 : Int), (0 : Int), (0 : Int), (0 : Int), (0 : Int), (0 : Int),
 (0 : Int), (0 : Int), (0 : Int), (0 : Int), (0 : Int), (0 : Int), (0 : Int), (0 : Int), (0 : Int), (0 : Int), (0 : Int), (0 : Int), (0 : Int), (0 : Int), (0 : Int), (0 : Int), (0 : Int), (0 : Int), (0 : Int), (0 : Int), (0 : Int), (0 :
 Int), (0 : Int), (0 : Int), (0 : Int), (0 : Int), (0 : Int), (0 : Int), (0 : Int), (0 : Int), (0 : Int), (0 : Int), (0 : Int), (0 : Int), (0 : Int)])) ∧ ((if 72 = Int.toNat c then (0 : Nat) else Int.toNat c * 1) + z.length ≤ 72 ∧ ∀ x :
 List Int, x = splice [(128 : Int), (0 : Int), (0 : Int), (0 : Int), (0 : Int), (0 : Int), (0 : Int), (0 : Int), (0 : Int), (0 : Int), (0 : Int), (0 : Int), (0 : Int), (0 : Int), (0 : Int), (0 : Int), (0 : Int), (0 : Int), (0 : Int), (0 :
 Int), (0 : Int), (0 : Int), (0 : Int), (0 : Int), (0 : Int), (0 : Int), (0 : Int), (0 : Int), (0 : Int), (0 : Int), (0 : Int), (0 : Int), (0 : Int), (0 : Int), (0 : Int), (0 : Int), (0 : Int), (0 : Int), (0 : Int), (0 : Int), (0 : Int), (0
 : Int), (0 : Int), (0 : Int), (0 : Int), (0 : Int), (0 : Int), (0 : Int), (0 : Int), (0 : Int), (0 : Int), (0 : Int), (0 : Int), (0 : Int), (0 : Int), (0 : Int), (0 : Int), (0 : Int), (0 : Int), (0 : Int), (0 : Int), (0 : Int), (0 : Int),
 (0 : Int), (0 : Int), (0 : Int), (0 : Int), (0 : Int), (0 : Int), (0 : Int), (0 : Int), (0 : Int)] (if 72 = Int.toNat c then (0 : Nat) else Int.toNat c * 1) z → (0 + (Int.toNat g - 0) * 1 ≤ x.length ∧ ∃ Y : List Int, (kL = kL ∧ Abs Y
 H xs nx len ∧ Bytes (List.take ((Int.toNat g - 0) * 1) (List.drop 0 x)) ∧ List.length (List.take ((Int.toNat g - 0) * 1) (List.drop 0 x)) = Int.toNat g - 0 ∧
 Int.toNat g - 0 ≤ 72 ∧ Int.toNat g - 0 ≤ 65536 ∧ Y.length < 1099511627776) ∧ ∀ (e : S8) (cc : List Int) (Z cd : Int), Abs (Y ++ List.take ((Int.toNat g - 0) * 1) (List.drop 0 x)) e cc Z cd → ∀ ce : List Int, ce = cc → ∀ aa, aa = Z → ((aa
 != 0) = true → False) ∧ ((aa != 0) = false → ∀ cf, cf = S8.a e → (32 : Nat) ≤ (32 : Nat) ∧ (((4 : Nat) ≤ (32 : Nat) ∧ (4 : Nat) ≤ (32 : Nat)) ∧ ∀ A : List Int, A = wr4 (List.take 32 (List.drop 0 [(0 : Int), (0 : Int), (0 : Int), (0 : Int),
 (0 : Int), (0 : Int), (0 : Int), (0 : Int), (0 : Int), (0 : Int), (0 : Int), (0 : Int), (0 : Int), (0 : Int), (0 : Int), (0 : Int), (0 : Int), (0 : Int), (0 : Int), (0 : Int), (0 : Int), (0 : Int), (0 : Int), (0 : Int), (0 : Int), (0 :
 Int), (0 : Int), (0 : Int), (0 : Int), (0 : Int), (0 : Int), (0 : Int)])) cf → A.length = 32 ∧ (0 + A.length ≤ 32 ∧ ∀ i : List Int, i = splice [(0 : Int), (0 : Int), (0 : Int), (0 : Int), (0 : Int), (0 : Int), (0 : Int), (0 : Int), (0 :
 Int), (0 : Int), (0 : Int), (0 : Int), (0 : Int), (0 : Int), (0 : Int), (0 : Int), (0 : Int), (0 : Int), (0 : Int), (0 : Int), (0 : Int), (0 : Int), (0 : Int), (0 : Int), (0 : Int), (0 : Int), (0 : Int), (0 : Int), (0 : Int), (0 : Int), (0
 : Int), (0 : Int)] (0 : Nat) A → ∀ cg, cg = S8.b e → 32 ≤ i.length ∧ (((4 : Nat) ≤ (28 : Nat) ∧ 4 ≤ List.length (List.take 28 (List.drop 4 i))) ∧ ∀ B : List Int, B = wr4 (List.take 28 (List.drop 4 i)) cg → B.length = List.length (List.take
 28 (List.drop 4 i)) ∧ (4 + B.length ≤ i.length ∧ ∀ j : List Int, j = splice i (4 : Nat) B → ∀ ch, ch = S8.c e → 32 ≤ j.length ∧ (((4 : Nat) ≤ (24 : Nat) ∧ 4 ≤ List.length (List.take 24 (List.drop 8 j))) ∧ ∀ C : List Int, C = wr4 (List.take
 24 (List.drop 8 j)) ch → C.length = List.length (List.take 24 (List.drop 8 j)) ∧ (8 + C.length ≤ j.length ∧ ∀ k : List Int, k = splice j (8 : Nat) C → ∀ ci, ci = S8.d e → 32 ≤ k.length ∧ (((4 : Nat) ≤ (20 : Nat) ∧ 4 ≤ List.length
 (List.take 20 (List.drop 12 k))) ∧ ∀ D : List Int, D = wr4 (List.take 20 (List.drop 12 k)) ci → D.length = List.length (List.take 20 (List.drop 12 k)) ∧ (12 + D.length ≤ k.length ∧ ∀ l : List Int, l = splice k (12 : Nat) D → ∀ cj, cj =
 S8.e e → 32 ≤ l.length ∧ (((4 : Nat) ≤ (16 : Nat) ∧ 4 ≤ List.length (List.take 16 (List.drop 16 l))) ∧ ∀ E : List Int, E = wr4 (List.take 16 (List.drop 16 l)) cj → E.length = List.length (List.take 16 (List.drop 16 l)) ∧ (16 + E.length ≤
 l.length ∧ ∀ m : List Int, m = splice l (16 : Nat) E → ∀ ck, ck = S8.f e → 32 ≤ m.length ∧ (((4 : Nat) ≤ (12 : Nat) ∧ 4 ≤ List.length (List.take 12 (List.drop 20 m))) ∧ ∀ F : List Int, F = wr4 (List.take 12 (List.drop 20 m)) ck → F.length
 = List.length (List.take 12 (List.drop 20 m)) ∧ (20 + F.length ≤ m.length ∧ ∀ n : List Int, n = splice m (20 : Nat) F → ∀ cl, cl = S8.g e → 32 ≤ n.length ∧ (((4 : Nat) ≤ (8 : Nat) ∧ 4 ≤ List.length (List.take 8 (List.drop 24 n))) ∧ ∀ G :
 List Int, G = wr4 (List.take 8 (List.drop 24 n)) cl → G.length = List.length (List.take 8 (List.drop 24 n)) ∧ (24 + G.length ≤ n.length ∧ ∀ o : List Int, o = splice n (24 : Nat) G → ∀ cm, cm = S8.h e → 32 ≤ o.length ∧ (((4 : Nat) ≤ (4 :
 Nat) ∧ 4 ≤ List.length (List.take 4 (List.drop 28 o))) ∧ ∀ I : List Int, I = wr4 (List.take 4 (List.drop 28 o)) cm → I.length = List.length (List.take 4 (List.drop 28 o)) ∧ (28 + I.length ≤ o.length ∧ ∀ a : List Int, a = splice o (28 :
 Nat) I → (32 ≤ a.length ∧ ∀ ab : Int, ab = List.getD a 0 (0 : Int) → ∀ ac : Int, ac = List.getD a 1 (0 : Int) → ∀ ad : Int, ad = List.getD a 2 (0 : Int) → ∀ ae : Int, ae = List.getD a 3 (0 : Int) → ∀ af : Int, af = List.getD a 4 (0 : Int)
 → ∀ ag : Int, ag = List.getD a 5 (0 : Int) → ∀ ah : Int, ah = List.getD a 6 (0 : Int) → ∀ ai : Int, ai = List.getD a 7 (0 : Int) → ∀ aj : Int, aj = List.getD a 8 (0 : Int) → ∀ ak : Int, ak = List.getD a 9 (0 : Int) → ∀ al : Int, al =
 List.getD a 10 (0 : Int) → ∀ am : Int, am = List.getD a 11 (0 : Int) → ∀ an : Int, an = List.getD a 12 (0 : Int) → ∀ ao : Int, ao = List.getD a 13 (0 : Int) → ∀ ap : Int, ap = List.getD a 14 (0 : Int) → ∀ aq : Int, aq = List.getD a 15 (0 :
 Int) → ∀ ar : Int, ar = List.getD a 16 (0 : Int) → ∀ au : Int, au = List.getD a 17 (0 : Int) → ∀ av : Int, av = List.getD a 18 (0 : Int) → ∀ aw : Int, aw = List.getD a 19 (0 : Int) → ∀ ax : Int, ax = List.getD a 20 (0 : Int) → ∀ ay : Int,
 ay = List.getD a 21 (0 : Int) → ∀ az : Int, az = List.getD a 22 (0 : Int) → ∀ a0 : Int, a0 = List.getD a 23 (0 : Int) → ∀ a1 : Int, a1 = List.getD a 24 (0 : Int) → ∀ a2 : Int, a2 = List.getD a 25 (0 : Int) → ∀ a3 : Int, a3 = List.getD a 26
 (0 : Int) → ∀ a4 : Int, a4 = List.getD a 27 (0 : Int) → ∀ a5 : Int, a5 = List.getD a 28 (0 : Int) → ∀ a6 : Int, a6 = List.getD a 29 (0 : Int) → ∀ a7 : Int, a7 = List.getD a 30 (0 : Int) → ∀ a8 : Int, a8 = List.getD a 31 (0 : Int) → K (.agg
 [.int .u8 (.sym ab), .int .u8 (.sym ac), .int .u8 (.sym ad), .int .u8 (.sym ae), .int .u8 (.sym af), .int .u8 (.sym ag), .int .u8 (.sym ah), .int .u8 (.sym ai), .int .u8 (.sym aj), .int .u8 (.sym ak), .int .u8 (.sym al), .int .u8 (.sym
 am), .int .u8 (.sym an), .int .u8 (.sym ao), .int .u8 (.sym ap), .int .u8 (.sym aq), .int .u8 (.sym ar), .int .u8 (.sym au), .int .u8 (.sym av), .int .u8 (.sym aw), .int .u8 (.sym ax), .int .u8 (.sym ay), .int .u8 (.sym az), .int .u8 (.sym
 a0), .int .u8 (.sym a1), .int .u8 (.sym a2), .int .u8 (.sym a3), .int .u8 (.sym a4), .int .u8 (.sym a5), .int .u8 (.sym a6), .int .u8 (.sym a7), .int .u8 (.sym a8)]) (memL [(2, ⟨true, .ints .u32 kL⟩), (9, ⟨false, .segs [.cells [.int .u32
 (.sym (S8.a e)), .int .u32 (.sym (S8.b e)), .int .u32 (.sym (S8.c e)), .int .u32 (.sym (S8.d e)), .int .u32 (.sym (S8.e e)), .int .u32 (.sym (S8.f e)), .int .u32 (.sym (S8.g e)), .int .u32 (.sym (S8.h e))], .ints .u8 64 ce, .cells [.int
 .i64 (.sym Z), .int .u64 (.sym cd), .bool (.lit false)]]⟩), (513, ⟨false, .cells [.int .u8 (.sym ab), .int .u8 (.sym ac), .int .u8 (.sym ad), .int .u8 (.sym ae), .int .u8 (.sym af), .int .u8 (.sym ag), .int .u8 (.sym ah), .int .u8 (.sym
 ai), .int .u8 (.sym aj), .int .u8 (.sym ak), .int .u8 (.sym al), .int .u8 (.sym am), .int .u8 (.sym an), .int .u8 (.sym ao), .int .u8 (.sym ap), .int .u8 (.sym aq), .int .u8 (.sym ar), .int .u8 (.sym au), .int .u8 (.sym av), .int .u8 (.sym
 aw), .int .u8 (.sym ax), .int .u8 (.sym ay), .int .u8 (.sym az), .int .u8 (.sym a0), .int .u8 (.sym a1), .int .u8 (.sym a2), .int .u8 (.sym a3), .int .u8 (.sym a4), .int .u8 (.sym a5), .int .u8 (.sym a6), .int .u8 (.sym a7), .int .u8 (.sym
 a8)]⟩), (561, ⟨false, .ints .u8 x⟩), (817, ⟨false, .ints .u8 a⟩)])))))))))))))))))))))))) ∧ (decide (V < 56) = false → ∀ cn, cn = Int.tmod w (64 : Int) → ∀ a9, a9 = IntKind.wrap IntKind.u64 (120 - cn) → ∀ co, co = shlv .u64 w 3 → ∀ h, h =
 IntKind.wrap IntKind.u64 (a9 + 8) → ((0 ≤ h ∧ h ≤ 72) ∧ ∀ d, d = IntKind.wrap IntKind.u64 (a9 + 0) → (0 ≤ d ∧ d ≤ ((Int.toNat h - 0 : Nat) : Int)) ∧ (if 72 = Int.toNat d then (0 : Nat) else Int.toNat d * 1) + (Int.toNat h - 0 - Int.toNat
 d) * 1 ≤ 72 ∧ ((8 ≤ Int.toNat h - 0 - Int.toNat d ∧ 8 ≤ List.length (List.take ((Int.toNat h - 0 - Int.toNat d) * 1) (List.drop (if 72 = Int.toNat d then (0 : Nat) else Int.toNat d * 1) [(128 : Int), (0 : Int), (0 : Int), (0 : Int), (0 :
 Int), (0 : Int), (0 : Int), (0 : Int), (0 : Int), (0 : Int), (0 : Int), (0 : Int), (0 : Int), (0 : Int), (0 : Int), (0 : Int), (0 : Int), (0 : Int), (0 : Int), (0 : Int), (0 : Int), (0 : Int), (0 : Int), (0 : Int), (0 : Int), (0 : Int), (0
 : Int), (0 : Int), (0 : Int), (0 : Int), (0 : Int), (0 : Int), (0 : Int), (0 : Int), (0 : Int), (0 : Int), (0 : Int), (0 : Int), (0 : Int), (0 : Int), (0 : Int), (0 : Int), (0 : Int), (0 : Int), (0 : Int), (0 : Int), (0 : Int), (0 : Int),
 (0 : Int), (0 : Int), (0 : Int), (0 : Int), (0 : Int), (0 : Int), (0 : Int), (0 : Int), (0 : Int), (0 : Int), (0 : Int), (0 : Int), (0 : Int), (0 : Int), (0 : Int), (0 : Int), (0 : Int), (0 : Int), (0 : Int), (0 : Int), (0 : Int), (0 :
 Int), (0 : Int), (0 : Int)]))) ∧ ∀ J : List Int, J = wr8 (List.take ((Int.toNat h - 0 - Int.toNat d) * 1) (List.drop (if 72 = Int.toNat d then (0 : Nat) else Int.toNat d * 1) [(128 : Int), (0 : Int), (0 : Int), (0 : Int), (0 : Int), (0 :
 Int), (0 : Int), (0 : Int), (0 : Int), (0 : Int), (0 : Int), (0 : Int), (0 : Int), (0 : Int), (0 : Int), (0 : Int), (0 : Int), (0 : Int), (0 : Int), (0 : Int), (0 : Int), (0 : Int), (0 : Int), (0 : Int), (0 : Int), (0 : Int), (0 : Int), (0
 : Int), (0 : Int), (0 : Int), (0 : Int), (0 : Int), (0 : Int), (0 : Int), (0 : Int), (0 : Int), (0 : Int), (0 : Int), (0 : Int), (0 : Int), (0 : Int), (0 : Int), (0 : Int), (0 : Int), (0 : Int), (0 : Int), (0 : Int), (0 : Int), (0 : Int),
 (0 : Int), (0 : Int), (0 : Int), (0 : Int), (0 : Int), (0 : Int), (0 : Int), (0 : Int), (0 : Int), (0 : Int), (0 : Int), (0 : Int), (0 : Int), (0 : Int), (0 : Int), (0 : Int), (0 : Int), (0 : Int), (0 : Int), (0 : Int), (0 : Int), (0 :
 Int), (0 : Int)])) co → J.length = List.length (List.take ((Int.toNat h - 0 - Int.toNat d) * 1) (List.drop (if 72 = Int.toNat d then (0 : Nat) else Int.toNat d * 1) [(128 : Int), (0 : Int), (0 : Int), (0 : Int), (0 : Int), (0 : Int), (0 :
 Int), (0 : Int), (0 : Int), (0 : Int), (0 : Int), (0 : Int), (0 : Int), (0 : Int), (0 : Int), (0 : Int), (0 : Int), (0 : Int), (0 : Int), (0 : Int), (0 : Int), (0 : Int), (0 : Int), (0 : Int), (0 : Int), (0 : Int), (0 : Int), (0 : Int), (0
 : Int), (0 : Int), (0 : Int), (0 : Int), (0 : Int), (0 : Int), (0 : Int), (0 : Int), (0 : Int), (0 : Int), (0 : Int), (0 : Int), (0 : Int), (0 : Int), (0 : Int), (0 : Int), (0 : Int), (0 : Int), (0 : Int), (0 : Int), (0 : Int), (0 : Int),
 (0 : Int), (0 : Int), (0 : Int), (0 : Int), (0 : Int), (0 : Int), (0 : Int), (0 : Int), (0 : Int), (0 : Int), (0 : Int), (0 : Int), (0 : Int), (0 : Int), (0 : Int), (0 : Int), (0 : Int), (0 : Int), (0 : Int), (0 : Int), (0 : Int), (0 :
 Int)])) ∧ ((if 72 = Int.toNat d then (0 : Nat) else Int.toNat d * 1) + J.length ≤ 72 ∧ ∀ y : List Int, y = splice [(128 : Int), (0 : Int), (0 : Int), (0 : Int), (0 : Int), (0 : Int), (0 : Int), (0 : Int), (0 : Int), (0 : Int), (0 : Int),
 (0 : Int), (0 : Int), (0 : Int), (0 : Int), (0 : Int), (0 : Int), (0 : Int), (0 : Int), (0 : Int), (0 : Int), (0 : Int), (0 : Int), (0 : Int), (0 : Int), (0 : Int), (0 : Int), (0 : Int), (0 : Int), (0 : Int), (0 : Int), (0 : Int), (0 :
 Int), (0 : Int), (0 : Int), (0 : Int), (0 : Int), (0 : Int), (0 : Int), (0 : Int), (0 : Int), (0 : Int), (0 : Int), (0 : Int), (0 : Int), (0 : Int), (0 : Int), (0 : Int), (0 : Int), (0 : Int), (0 : Int), (0 : Int), (0 : Int), (0 : Int), (0
 : Int), (0 : Int), (0 : Int), (0 : Int), (0 : Int), (0 : Int), (0 : Int), (0 : Int), (0 : Int), (0 : Int), (0 : Int), (0 : Int), (0 : Int), (0 : Int), (0 : Int), (0 : Int), (0 : Int), (0 : Int)] (if 72 = Int.toNat d then (0 : Nat) else
 Int.toNat d * 1) J → (0 + (Int.toNat h - 0) * 1 ≤ y.length ∧ ∃ ba : List Int, (kL = kL ∧ Abs ba H xs nx len ∧ Bytes (List.take ((Int.toNat h - 0) * 1) (List.drop
 0 y)) ∧ List.length (List.take ((Int.toNat h - 0) * 1) (List.drop 0 y)) = Int.toNat h - 0 ∧ Int.toNat h - 0 ≤ 72 ∧ Int.toNat h - 0 ≤ 65536 ∧ ba.length < 1099511627776) ∧ ∀ (f : S8) (cp : List Int) (bb cq : Int), Abs (ba ++ List.take
 ((Int.toNat h - 0) * 1) (List.drop 0 y)) f cp bb cq → ∀ cr : List Int, cr = cp → ∀ bc, bc = bb → ((bc != 0) = true → False) ∧ ((bc != 0) = false → ∀ cs, cs = S8.a f → (32 : Nat) ≤ (32 : Nat) ∧ (((4 : Nat) ≤ (32 : Nat) ∧ (4 : Nat) ≤ (32 :
 Nat)) ∧ ∀ L : List Int, L = wr4 (List.take 32 (List.drop 0 [(0 : Int), (0 : Int), (0 : Int), (0 : Int), (0 : Int), (0 : Int), (0 : Int), (0 : Int), (0 : Int), (0 : Int), (0 : Int), (0 : Int), (0 : Int), (0 : Int), (0 : Int), (0 : Int), (0
 : Int), (0 : Int), (0 : Int), (0 : Int), (0 : Int), (0 : Int), (0 : Int), (0 : Int), (0 : Int), (0 : Int), (0 : Int), (0 : Int), (0 : Int), (0 : Int), (0 : Int), (0 : Int)])) cs → L.length = 32 ∧ (0 + L.length ≤ 32 ∧ ∀ p : List Int, p =
 splice [(0 : Int), (0 : Int), (0 : Int), (0 : Int), (0 : Int), (0 : Int), (0 : Int), (0 : Int), (0 : Int), (0 : Int), (0 : Int), (0 : Int), (0 : Int), (0 : Int), (0 : Int), (0 : Int), (0 : Int), (0 : Int), (0 : Int), (0 : Int), (0 : Int),
 (0 : Int), (0 : Int), (0 : Int), (0 : Int), (0 : Int), (0 : Int), (0 : Int), (0 : Int), (0 : Int), (0 : Int), (0 : Int)] (0 : Nat) L → ∀ ct, ct = S8.b f → 32 ≤ p.length ∧ (((4 : Nat) ≤ (28 : Nat) ∧ 4 ≤ List.length (List.take 28 (List.drop
 4 p))) ∧ ∀ M : List Int, M = wr4 (List.take 28 (List.drop 4 p)) ct → M.length = List.length (List.take 28 (List.drop 4 p)) ∧ (4 + M.length ≤ p.length ∧ ∀ q : List Int, q = splice p (4 : Nat) M → ∀ cu, cu = S8.c f → 32 ≤ q.length ∧ (((4 :
 Nat) ≤ (24 : Nat) ∧ 4 ≤ List.length (List.take 24 (List.drop 8 q))) ∧ ∀ N : List Int, N = wr4 (List.take 24 (List.drop 8 q)) cu → N.length = List.length (List.take 24 (List.drop 8 q)) ∧ (8 + N.length ≤ q.length ∧ ∀ r : List Int, r = splice
 q (8 : Nat) N → ∀ cv, cv = S8.d f → 32 ≤ r.length ∧ (((4 : Nat) ≤ (20 : Nat) ∧ 4 ≤ List.length (List.take 20 (List.drop 12 r))) ∧ ∀ O : List Int, O = wr4 (List.take 20 (List.drop 12 r)) cv → O.length = List.length (List.take 20 (List.drop
 12 r)) ∧ (12 + O.length ≤ r.length ∧ ∀ s : List Int, s = splice r (12 : Nat) O → ∀ cw, cw = S8.e f → 32 ≤ s.length ∧ (((4 : Nat) ≤ (16 : Nat) ∧ 4 ≤ List.length (List.take 16 (List.drop 16 s))) ∧ ∀ Q : List Int, Q = wr4 (List.take 16
 (List.drop 16 s)) cw → Q.length = List.length (List.take 16 (List.drop 16 s)) ∧ (16 + Q.length ≤ s.length ∧ ∀ t : List Int, t = splice s (16 : Nat) Q → ∀ cx, cx = S8.f f → 32 ≤ t.length ∧ (((4 : Nat) ≤ (12 : Nat) ∧ 4 ≤ List.length
 (List.take 12 (List.drop 20 t))) ∧ ∀ R : List Int, R = wr4 (List.take 12 (List.drop 20 t)) cx → R.length = List.length (List.take 12 (List.drop 20 t)) ∧ (20 + R.length ≤ t.length ∧ ∀ u : List Int, u = splice t (20 : Nat) R → ∀ cy, cy =
 S8.g f → 32 ≤ u.length ∧ (((4 : Nat) ≤ (8 : Nat) ∧ 4 ≤ List.length (List.take 8 (List.drop 24 u))) ∧ ∀ S : List Int, S = wr4 (List.take 8 (List.drop 24 u)) cy → S.length = List.length (List.take 8 (List.drop 24 u)) ∧ (24 + S.length ≤
 u.length ∧ ∀ v : List Int, v = splice u (24 : Nat) S → ∀ cz, cz = S8.h f → 32 ≤ v.length ∧ (((4 : Nat) ≤ (4 : Nat) ∧ 4 ≤ List.length (List.take 4 (List.drop 28 v))) ∧ ∀ T : List Int, T = wr4 (List.take 4 (List.drop 28 v)) cz → T.length =
 List.length (List.take 4 (List.drop 28 v)) ∧ (28 + T.length ≤ v.length ∧ ∀ b : List Int, b = splice v (28 : Nat) T → (32 ≤ b.length ∧ ∀ bd : Int, bd = List.getD b 0 (0 : Int) → ∀ be : Int, be = List.getD b 1 (0 : Int) → ∀ bf : Int, bf =
 List.getD b 2 (0 : Int) → ∀ bg : Int, bg = List.getD b 3 (0 : Int) → ∀ bh : Int, bh = List.getD b 4 (0 : Int) → ∀ bi : Int, bi = List.getD b 5 (0 : Int) → ∀ bj : Int, bj = List.getD b 6 (0 : Int) → ∀ bk : Int, bk = List.getD b 7 (0 : Int)
 → ∀ bl : Int, bl = List.getD b 8 (0 : Int) → ∀ bm : Int, bm = List.getD b 9 (0 : Int) → ∀ bn : Int, bn = List.getD b 10 (0 : Int) → ∀ bo : Int, bo = List.getD b 11 (0 : Int) → ∀ bp : Int, bp = List.getD b 12 (0 : Int) → ∀ bq : Int, bq =
 List.getD b 13 (0 : Int) → ∀ br : Int, br = List.getD b 14 (0 : Int) → ∀ bs : Int, bs = List.getD b 15 (0 : Int) → ∀ bt : Int, bt = List.getD b 16 (0 : Int) → ∀ bu : Int, bu = List.getD b 17 (0 : Int) → ∀ bv : Int, bv = List.getD b 18 (0 :
 Int) → ∀ bw : Int, bw = List.getD b 19 (0 : Int) → ∀ bx : Int, bx = List.getD b 20 (0 : Int) → ∀ bz : Int, bz = List.getD b 21 (0 : Int) → ∀ b0 : Int, b0 = List.getD b 22 (0 : Int) → ∀ b1 : Int, b1 = List.getD b 23 (0 : Int) → ∀ b2 : Int,
 b2 = List.getD b 24 (0 : Int) → ∀ b3 : Int, b3 = List.getD b 25 (0 : Int) → ∀ b4 : Int, b4 = List.getD b 26 (0 : Int) → ∀ b5 : Int, b5 = List.getD b 27 (0 : Int) → ∀ b6 : Int, b6 = List.getD b 28 (0 : Int) → ∀ b7 : Int, b7 = List.getD b 29
 (0 : Int) → ∀ b8 : Int, b8 = List.getD b 30 (0 : Int) → ∀ b9 : Int, b9 = List.getD b 31 (0 : Int) → K (.agg [.int .u8 (.sym bd), .int .u8 (.sym be), .int .u8 (.sym bf), .int .u8 (.sym bg), .int .u8 (.sym bh), .int .u8 (.sym bi), .int .u8
 (.sym bj), .int .u8 (.sym bk), .int .u8 (.sym bl), .int .u8 (.sym bm), .int .u8 (.sym bn), .int .u8 (.sym bo), .int .u8 (.sym bp), .int .u8 (.sym bq), .int .u8 (.sym br), .int .u8 (.sym bs), .int .u8 (.sym bt), .int .u8 (.sym bu), .int .u8
 (.sym bv), .int .u8 (.sym bw), .int .u8 (.sym bx), .int .u8 (.sym bz), .int .u8 (.sym b0), .int .u8 (.sym b1), .int .u8 (.sym b2), .int .u8 (.sym b3), .int .u8 (.sym b4), .int .u8 (.sym b5), .int .u8 (.sym b6), .int .u8 (.sym b7), .int .u8
 (.sym b8), .int .u8 (.sym b9)]) (memL [(2, ⟨true, .ints .u32 kL⟩), (9, ⟨false, .segs [.cells [.int .u32 (.sym (S8.a f)), .int .u32 (.sym (S8.b f)), .int .u32 (.sym (S8.c f)), .int .u32 (.sym (S8.d f)), .int .u32 (.sym (S8.e f)), .int .u32
 (.sym (S8.f f)), .int .u32 (.sym (S8.g f)), .int .u32 (.sym (S8.h f))], .ints .u8 64 cr, .cells [.int .i64 (.sym bb), .int .u64 (.sym cq), .bool (.lit false)]]⟩), (513, ⟨false, .cells [.int .u8 (.sym bd), .int .u8 (.sym be), .int .u8 (.sym
 bf), .int .u8 (.sym bg), .int .u8 (.sym bh), .int .u8 (.sym bi), .int .u8 (.sym bj), .int .u8 (.sym bk), .int .u8 (.sym bl), .int .u8 (.sym bm), .int .u8 (.sym bn), .int .u8 (.sym bo), .int .u8 (.sym bp), .int .u8 (.sym bq), .int .u8 (.sym
 br), .int .u8 (.sym bs), .int .u8 (.sym bt), .int .u8 (.sym bu), .int .u8 (.sym bv), .int .u8 (.sym bw), .int .u8 (.sym bx), .int .u8 (.sym bz), .int .u8 (.sym b0), .int .u8 (.sym b1), .int .u8 (.sym b2), .int .u8 (.sym b3), .int .u8 (.sym
 b4), .int .u8 (.sym b5), .int .u8 (.sym b6), .int .u8 (.sym b7), .int .u8 (.sym b8), .int .u8 (.sym b9)]⟩), (561, ⟨false, .ints .u8 y⟩), (817, ⟨false, .ints .u8 b⟩)]))))))))))))))))))))))))) := by kernel_rfl
end Go.Sx
namespace Go.Sx
open Go
def by8 (x : Int) : Int := IntKind.u8.wrap x
def out4 (x : Int) : List Int := [by8 (shrv .u32 x 24), by8 (shrv .u32 x 16), by8 (shrv .u32 x 8), by8 x]
def out32 (H : S8) : List Int := out4 H.a ++ out4 H.b ++ out4 H.c ++ out4 H.d ++ out4 H.e ++ out4 H.f ++ out4 H.g ++ out4 H.h
def len8 (x : Int) : List Int := [b64 x 56, b64 x 48, b64 x 40, b64 x 32, b64 x 24, b64 x 16, b64 x 8, b64 x 0]
def padN (n : Nat) : Nat := if n % 64 < 56 then 56 - n % 64 else 120 - n % 64
def padding (n : Nat) : List Int := 128 :: List.replicate (padN n - 1) 0 ++ len8 (shlv .u64 (n : Int) 3)
def sha (M : List Int) : List Int := out32 (hB S0 (M ++ padding M.length) ((M.length + padN M.length + 8) / 64))
theorem padding_length (n : Nat) : (padding n).length = padN n + 8 := by
 unfold padding padN len8
 simp
 split <;> omega
theorem u8_range (x : Int) : 0 ≤ IntKind.u8.wrap x ∧ IntKind.u8.wrap x < 256 := by
 unfold IntKind.wrap
 simp [IntKind.bits, IntKind.signed]
 omega
theorem padding_bytes (n : Nat) : Bytes (padding n) := by
 intro x hx
 unfold padding len8 b64 at hx
 simp only [List.cons_append, List.mem_cons, List.mem_append, List.mem_replicate, List.not_mem_nil, or_false] at hx
 rcases hx with rfl | ⟨_, rfl⟩ | rfl | rfl | rfl | rfl | rfl | rfl | rfl | rfl
 ·omega
 ·omega
 all_goals exact u8_range _
theorem sha_length (M : List Int) : (sha M).length = 32 := rfl
theorem sha_bytes (M : List Int) : Bytes (sha M) := by
 intro x hx
 unfold sha out32 out4 by8 at hx
 simp only [List.cons_append, List.nil_append, List.mem_cons, List.not_mem_nil, or_false] at hx
 have : ∃ y, x = IntKind.u8.wrap y := by
  repeat (rcases hx with rfl | hx; exact ⟨_, rfl⟩)
 obtain ⟨y, rfl⟩ := this
 exact u8_range y
theorem wr8_eq (x : Int) : wr8 (List.replicate 8 0) x = len8 x := rfl
theorem pad_row {n : Nat} (h1 : 1 ≤ n) (h2 : n ≤ 64) (x : Int) :
  (splice (128 :: List.replicate 71 0) n (len8 x)).take (n + 8) = 128 :: List.replicate (n - 1) 0 ++ len8 x := by
 have := take_splice_mid (x := 128 :: List.replicate 71 0) (q := len8 x) (n := n) (by simp; omega)
 have hl : (len8 x).length = 8 := rfl
 rw [hl] at this
 rw [this]
 obtain ⟨k, rfl⟩ : ∃ k, n = k + 1 := ⟨n - 1, by omega⟩
 rw [List.take_succ_cons, List.take_replicate, Nat.min_eq_left (by omega)]
 rfl
end Go.Sx
namespace Go.Sx
open Go Go.Proofs
set_option maxRecDepth 100000
set_option maxHeartbeats 4000000
theorem z128 : ([128, 0, 0, 0, 0, 0, 0, 0, 0, 0, 0, 0, 0, 0, 0, 0, 0, 0, 0, 0, 0, 0, 0, 0, 0, 0, 0, 0, 0, 0, 0, 0, 0, 0, 0, 0, 0, 0, 0, 0, 0, 0, 0, 0, 0, 0, 0, 0, 0, 0, 0, 0, 0, 0, 0, 0, 0, 0, 0, 0, 0, 0, 0, 0, 0, 0, 0, 0, 0, 0, 0, 0] : List Int) = 128 :: List.replicate 71 0 := rfl
theorem z32 : ([0, 0, 0, 0, 0, 0, 0, 0, 0, 0, 0, 0, 0, 0, 0, 0, 0, 0, 0, 0, 0, 0, 0, 0, 0, 0, 0, 0, 0, 0, 0, 0] : List Int) = List.replicate 32 0 := rfl
theorem cs_walk (M : List Int) (H : S8) (xs : List Int) (nx len : Int) (K : SV → Mem → Prop) (hA : Abs M H xs nx len) (hM : M.length < 2 ^ 39) (hup : KUp K)
  (hK : ∀ bs, bs = sha M → ∀ H' x' nx' len', K (.agg (picks .u8 bs 0 32)) (memL [(2, ⟨true, .ints .u32 kL⟩), (9, dgR false H' x' nx' len')])) :
  execF cxCs u0 Tryz.f102 64 [.ptr 9 (.lit 0)] (memL [(2, ⟨true, .ints .u32 kL⟩), (9, dgR false H xs nx len)]) K := by
 rw [vc_cs]
 have hlen := hA.len
 rintro x0 rfl x1 hx1
 have e1 : x1 = (M.length % 64 : Nat) := by rw [hx1, hlen]; exact_mod_cast rfl
 refine ⟨fun hlt => ?_, fun hlt => ?_⟩
 all_goals
  simp only [decide_eq_true_eq, decide_eq_false_iff_not] at hlt
  rintro x2 hx2 x3 hx3 x4 hx4 x5 hx5
  have e2 : x2 = (M.length % 64 : Nat) := by rw [hx2, ← hx1, e1]
  have hpn : x3 = padN M.length := by
   rw [hx3, wrapu64 (by omega) (by omega)]
   unfold padN
   split <;> omega
  have hp1 : 1 ≤ padN M.length := by unfold padN; split <;> omega
  have hp2 : padN M.length ≤ 64 := by unfold padN; split <;> omega
  have hpm : (M.length + padN M.length + 8) % 64 = 0 := by unfold padN; split <;> omega
  rw [wrapu64 (by omega) (by omega)] at hx5
  have e5 : x5.toNat = padN M.length + 8 := by omega
  refine ⟨⟨by omega, by omega⟩, ?_⟩
  rintro x6 hx6
  rw [wrapu64 (by omega) (by omega)] at hx6
  have e6 : x6.toNat = padN M.length := by omega
  rw [e5, e6, if_neg (by omega)]
  simp only [Nat.sub_zero, Nat.mul_one, Nat.add_sub_cancel_left, Nat.zero_add, List.drop_zero, z128]
  have e8 : List.take 8 (List.drop (padN M.length) (128 :: List.replicate 71 (0 : Int))) = List.replicate 8 0 := by
   obtain ⟨k, hk⟩ : ∃ k, padN M.length = k + 1 := ⟨padN M.length - 1, by omega⟩
   rw [hk, List.drop_succ_cons, List.drop_replicate, List.take_replicate]
   congr 1
   omega
  rw [e8]
  refine ⟨⟨by omega, by omega⟩, by omega, ⟨by omega, by simp⟩, ?_⟩
  rintro ys7 rfl
  refine ⟨rfl, ?_, ?_⟩
  ·show padN M.length + 8 ≤ 72
   omega
  rintro ys8 rfl
  rw [wr8_eq]
  have hsl : (splice (128 :: List.replicate 71 0) (padN M.length) (len8 x4)).length = 72 := by
   rw [splice_length]
   ·simp
   ·show padN M.length + 8 ≤ _
    simp
    omega
  have hpad : (splice (128 :: List.replicate 71 0) (padN M.length) (len8 x4)).take (padN M.length + 8) = padding M.length := by
   rw [pad_row hp1 hp2, hx4, hlen]
   rfl
  rw [hpad]
  have hpl := padding_length M.length
  refine ⟨by rw [hsl]; omega, M, ⟨trivial, hA, padding_bytes _, hpl, by omega, by omega, by omega⟩, ?_⟩
  rintro x10 x11 x12 x13 hB ys14 rfl x15 rfl
  have hl2 : (M ++ padding M.length).length = M.length + padN M.length + 8 := by rw [List.length_append, hpl]; omega
  have h0 : x15 = 0 := by rw [hB.nx, hl2, hpm]; rfl
  subst h0
  refine ⟨fun h => absurd h (by decide), fun _ => ?_⟩
  have hsha : out32 x10 = sha M := by rw [hB.h, hl2]; rfl
  obtain ⟨a, b, c, d, e, f, g, h⟩ := x10
  dsimp only
  rintro x16 rfl
  refine ⟨by omega, ⟨by omega, by omega⟩, ?_⟩
  rintro ys17 rfl
  refine ⟨rfl, Nat.le_of_ble_eq_true rfl, ?_⟩
  rintro ys18 h18
  obtain rfl : ys18 = out4 x16 ++ List.replicate 28 0 := h18
  rintro x19 rfl
  refine ⟨Nat.le_of_ble_eq_true rfl, ⟨by omega, Nat.le_of_ble_eq_true rfl⟩, ?_⟩
  rintro ys20 rfl
  refine ⟨rfl, Nat.le_of_ble_eq_true rfl, ?_⟩
  rintro ys21 h21
  obtain rfl : ys21 = out4 x16 ++ out4 x19 ++ List.replicate 24 0 := h21
  rintro x22 rfl
  refine ⟨Nat.le_of_ble_eq_true rfl, ⟨by omega, Nat.le_of_ble_eq_true rfl⟩, ?_⟩
  rintro ys23 rfl
  refine ⟨rfl, Nat.le_of_ble_eq_true rfl, ?_⟩
  rintro ys24 h24
  obtain rfl : ys24 = out4 x16 ++ out4 x19 ++ out4 x22 ++ List.replicate 20 0 := h24
  rintro x25 rfl
  refine ⟨Nat.le_of_ble_eq_true rfl, ⟨by omega, Nat.le_of_ble_eq_true rfl⟩, ?_⟩
  rintro ys26 rfl
  refine ⟨rfl, Nat.le_of_ble_eq_true rfl, ?_⟩
  rintro ys27 h27
  obtain rfl : ys27 = out4 x16 ++ out4 x19 ++ out4 x22 ++ out4 x25 ++ List.replicate 16 0 := h27
  rintro x28 rfl
  refine ⟨Nat.le_of_ble_eq_true rfl, ⟨by omega, Nat.le_of_ble_eq_true rfl⟩, ?_⟩
  rintro ys29 rfl
  refine ⟨rfl, Nat.le_of_ble_eq_true rfl, ?_⟩
  rintro ys30 h30
  obtain rfl : ys30 = out4 x16 ++ out4 x19 ++ out4 x22 ++ out4 x25 ++ out4 x28 ++ List.replicate 12 0 := h30
  rintro x31 rfl
  refine ⟨Nat.le_of_ble_eq_true rfl, ⟨by omega, Nat.le_of_ble_eq_true rfl⟩, ?_⟩
  rintro ys32 rfl
  refine ⟨rfl, Nat.le_of_ble_eq_true rfl, ?_⟩
  rintro ys33 h33
  obtain rfl : ys33 = out4 x16 ++ out4 x19 ++ out4 x22 ++ out4 x25 ++ out4 x28 ++ out4 x31 ++ List.replicate 8 0 := h33
  rintro x34 rfl
  refine ⟨Nat.le_of_ble_eq_true rfl, ⟨by omega, Nat.le_of_ble_eq_true rfl⟩, ?_⟩
  rintro ys35 rfl
  refine ⟨rfl, Nat.le_of_ble_eq_true rfl, ?_⟩
  rintro ys36 h36
  obtain rfl : ys36 = out4 x16 ++ out4 x19 ++ out4 x22 ++ out4 x25 ++ out4 x28 ++ out4 x31 ++ out4 x34 ++ List.replicate 4 0 := h36
  rintro x37 rfl
  refine ⟨Nat.le_of_ble_eq_true rfl, ⟨by omega, Nat.le_of_ble_eq_true rfl⟩, ?_⟩
  rintro ys38 rfl
  refine ⟨rfl, Nat.le_of_ble_eq_true rfl, ?_⟩
  rintro ys39 h39
  obtain h39 : ys39 = out32 ⟨x16, x19, x22, x25, x28, x31, x34, x37⟩ := h39
  rw [hsha] at h39
  refine ⟨by rw [h39]; exact Nat.le_of_ble_eq_true rfl, ?_⟩
  rintro x40 rfl x41 rfl x42 rfl x43 rfl x44 rfl x45 rfl x46 rfl x47 rfl x48 rfl x49 rfl x50 rfl x51 rfl x52 rfl x53 rfl x54 rfl x55 rfl x56 rfl x57 rfl x58 rfl x59 rfl x60 rfl x61 rfl x62 rfl x63 rfl x64 rfl x65 rfl x66 rfl x67 rfl x68 rfl x69 rfl x70 rfl x71 rfl
  have := hK _ h39 ⟨x16, x19, x22, x25, x28, x31, x34, x37⟩ ys14 0 x13
  exact hup.le (memL_more (k := [_, _, _]) (l := [_, _]) [2, 9, 513, 561, 817] rfl (by decide)) this
end Go.Sx
namespace Go.Sx
open Go Go.Proofs
set_option maxRecDepth 100000
def gCs : G0 := fun args l K =>
 match args, l with
 | [.ptr 9 (.lit 0)], [(2, ⟨true, .ints .u32 ks⟩), (9, ⟨false, .segs [.cells [.int .u32 (.sym h0), .int .u32 (.sym h1), .int .u32 (.sym h2), .int .u32 (.sym h3), .int .u32 (.sym h4), .int .u32 (.sym h5), .int .u32 (.sym h6), .int .u32 (.sym h7)], .ints .u8 64 xs, .cells [.int .i64 (.sym nx), .int .u64 (.sym len), .bool (.lit false)]]⟩)] =>
  ∃ M, (ks = kL ∧ Abs M ⟨h0, h1, h2, h3, h4, h5, h6, h7⟩ xs nx len ∧ M.length < 2 ^ 39) ∧
   ∀ bs, bs = sha M → ∀ H' x' nx' len', K (.agg (picks .u8 bs 0 32)) (memL [(2, ⟨true, .ints .u32 kL⟩), (9, dgR false H' x' nx' len')])
 | _, _ => False
theorem cs_good : Good gCs := by
 constructor
 ·intro args l K K' hk h
  unfold gCs at h ⊢
  split at h
  ·obtain ⟨M, h1, h2⟩ := h
   exact ⟨M, h1, fun bs hb H' x' nx' len' => hk _ _ (h2 bs hb H' x' nx' len')⟩
  ·exact h.elim
 ·intro args l K h
  unfold gCs at h
  split at h
  ·obtain ⟨M, h1, h2⟩ := h
   exact ⟨_, _, h2 _ rfl S0 [] 0 0⟩
  ·exact h.elim
theorem cs_ok (args : List SV) (l : List (Nat × Reg)) (K : SV → Mem → Prop) (hup : KUp K) (h : gCs args l K) : ∃ U, execF cxCs U Tryz.f102 64 args (memL l) K := by
 refine ⟨u0, ?_⟩
 unfold gCs at h
 split at h
 ·rename_i ks h0 h1 h2 h3 h4 h5 h6 h7 xs nx len
  obtain ⟨M, ⟨hk, k1, k2⟩, k3⟩ := h
  subst hk
  exact cs_walk M ⟨h0, h1, h2, h3, h4, h5, h6, h7⟩ xs nx len K k1 k2 hup k3
 ·exact h.elim
def cCs : Ef Tryz.prog := mkE mixed 102 Tryz.func102 (by decide) (by kernel_rfl) [1] [.parts dgSh false] gCs cs_good cs_ok
def cxSum : Cx Tryz.prog := { rds := [], efs := [cCs], eqs := [] }
theorem vc_sum (H : S8) (xs : List Int) (nx len : Int) (K : SV → Mem → Prop) : (execF cxSum u0 Tryz.f79 64 [.ptr 9 (.lit 0), .val (.slice none 0 0)] (memL [(2, ⟨true, .ints .u32 kL⟩), (9, dgR true H xs nx len)]) K) = (∀ g, g = S8.a H → ∀ h,
 h = S8.b H → ∀ i, i = S8.c H → ∀ j, j = S8.d H → ∀ k, k = S8.e H → ∀ l, l = S8.f H → ∀ m, m = S8.g H → ∀ n, n = S8.h H → ∀ o : Int, o = List.getD xs 0 (0 : Int) → ∀ p : Int, p = List.getD xs 1 (0 : Int) → ∀ q : Int, q = List.getD xs 2 (0 :
 Int) → ∀ r : Int, r = List.getD xs 3 (0 : Int) → ∀ s : Int, s = List.getD xs 4 (0 : Int) → ∀ t : Int, t = List.getD xs 5 (0 : Int) → ∀ u : Int, u = List.getD xs 6 (0 : Int) → ∀ v : Int, v = List.getD xs 7 (0 : Int) → ∀ w : Int, w =
 List.getD xs 8 (0 : Int) → ∀ x : Int, x = List.getD xs 9 (0 : Int) → ∀ y : Int, y = List.getD xs 10 (0 : Int) → ∀ z : Int, z = List.getD xs 11 (0 : Int) → ∀ A : Int, A = List.getD xs 12 (0 : Int) → ∀ B : Int, B = List.getD xs 13 (0 : Int)
 → ∀ C : Int, C = List.getD xs 14 (0 : Int) → ∀ D : Int, D = List.getD xs 15 (0 : Int) → ∀ E : Int, E = List.getD xs 16 (0 : Int) → ∀ F : Int, F = List.getD xs 17 (0 : Int) → ∀ G : Int, G = List.getD xs 18 (0 : Int) → ∀ I : Int, I =
 List.getD xs 19 (0 : Int) → ∀ J : Int, J = List.getD xs 20 (0 : Int) → ∀ L : Int, L = List.getD xs 21 (0 : Int) → ∀ M : Int, M = List.getD xs 22 (0 : Int) → ∀ N : Int, N = List.getD xs 23 (0 : Int) → ∀ O : Int, O = List.getD xs 24 (0 :
 Int) → ∀ Q : Int, Q = List.getD xs 25 (0 : Int) → ∀ R : Int, R = List.getD xs 26 (0 : Int) → ∀ S : Int, S = List.getD xs 27 (0 : Int) → ∀ T : Int, T = List.getD xs 28 (0 : Int) → ∀ V : Int, V = List.getD xs 29 (0 : Int) → ∀ X : Int, X =
 List.getD xs 30 (0 : Int) → ∀ Y : Int, Y = List.getD xs 31 (0 : Int) → ∀ Z : Int, Z = List.getD xs 32 (0 : Int) → ∀ aa : Int, aa = List.getD xs 33 (0 : Int) → ∀ ab : Int, ab = List.getD xs 34 (0 : Int) → ∀ ac : Int, ac = List.getD xs 35 (0
 : Int) → ∀ ad : Int, ad = List.getD xs 36 (0 : Int) → ∀ ae : Int, ae = List.getD xs 37 (0 : Int) → ∀ af : Int, af = List.getD xs 38 (0 : Int) → ∀ ag : Int, ag = List.getD xs 39 (0 : Int) → ∀ ah : Int, ah = List.getD xs 40 (0 : Int) → ∀ ai
 : Int, ai = List.getD xs 41 (0 : Int) → ∀ aj : Int, aj = List.getD xs 42 (0 : Int) → ∀ ak : Int, ak = List.getD xs 43 (0 : Int) → ∀ al : Int, al = List.getD xs 44 (0 : Int) → ∀ am : Int, am = List.getD xs 45 (0 : Int) → ∀ an : Int, an =
 List.getD xs 46 (0 : Int) → ∀ ao : Int, ao = List.getD xs 47 (0 : Int) → ∀ ap : Int, ap = List.getD xs 48 (0 : Int) → ∀ aq : Int, aq = List.getD xs 49 (0 : Int) → ∀ ar : Int, ar = List.getD xs 50 (0 : Int) → ∀ au : Int, au = List.getD xs
 51 (0 : Int) → ∀ av : Int, av = List.getD xs 52 (0 : Int) → ∀ aw : Int, aw = List.getD xs 53 (0 : Int) → ∀ ax : Int, ax = List.getD xs 54 (0 : Int) → ∀ ay : Int, ay = List.getD xs 55 (0 : Int) → ∀ az : Int, az = List.getD xs 56 (0 : Int) →
 ∀ a0 : Int, a0 = List.getD xs 57 (0 : Int) → ∀ a1 : Int, a1 = List.getD xs 58 (0 : Int) → ∀ a2 : Int, a2 = List.getD xs 59 (0 : Int) → ∀ a3 : Int, a3 = List.getD xs 60 (0 : Int) → ∀ a4 : Int, a4 = List.getD xs 61 (0 : Int) → ∀ a5 : Int, a5
 = List.getD xs 62 (0 : Int) → ∀ a6 : Int, a6 = List.getD xs 63 (0 : Int) → ∀ a7, a7 = nx → ∀ a8, a8 = len → ∃ c : List Int, (kL = kL ∧ Abs c (S8.mk g h i j k l m n) [o, p, q, r, s, t, u, v, w, x, y, z, A, B, C, D, E, F, G, I, J, L, M, N,
 O, Q, R, S, T, V, X, Y, Z, aa, ab, ac, ad, ae, af, ag, ah, ai, aj, ak, al, am, an, ao, ap, aq, ar, au, av, aw, ax, ay, az, a0, a1, a2, a3, a4, a5, a6] a7 a8 ∧ c.length < 549755813888) ∧ ∀ a : List Int, a = sha c → ∀ (b : S8) (bb : List
 Int) (a9 ba : Int) (d : List Int), d = bb → (True ∧ Nat.le (32 : Nat) (List.length [List.getD a 0 (0 : Int), List.getD a 1 (0 : Int), List.getD a 2 (0 : Int), List.getD a 3 (0 : Int), List.getD a 4 (0 : Int), List.getD a 5 (0 : Int),
 List.getD a 6 (0 : Int), List.getD a 7 (0 : Int), List.getD a 8 (0 : Int), List.getD a 9 (0 : Int), List.getD a 10 (0 : Int), List.getD a 11 (0 : Int), List.getD a 12 (0 : Int), List.getD a 13 (0 : Int), List.getD a 14 (0 : Int), List.getD
 a 15 (0 : Int), List.getD a 16 (0 : Int), List.getD a 17 (0 : Int), List.getD a 18 (0 : Int), List.getD a 19 (0 : Int), List.getD a 20 (0 : Int), List.getD a 21 (0 : Int), List.getD a 22 (0 : Int), List.getD a 23 (0 : Int), List.getD a 24
 (0 : Int), List.getD a 25 (0 : Int), List.getD a 26 (0 : Int), List.getD a 27 (0 : Int), List.getD a 28 (0 : Int), List.getD a 29 (0 : Int), List.getD a 30 (0 : Int), List.getD a 31 (0 : Int)]) ∧ (32 : Nat) ≤ (549755813888 : Nat) ∧ (32 :
 Nat) ≤ (549755813888 : Nat)) ∧ ((32 : Nat) = (0 : Nat) → K (.val (.slice none 0 0)) (memL [(2, ⟨true, .ints .u32 kL⟩), (9, ⟨true, .segs [.cells [.int .u32 (.sym (S8.a H)), .int .u32 (.sym (S8.b H)), .int .u32 (.sym (S8.c H)), .int .u32
 (.sym (S8.d H)), .int .u32 (.sym (S8.e H)), .int .u32 (.sym (S8.f H)), .int .u32 (.sym (S8.g H)), .int .u32 (.sym (S8.h H))], .ints .u8 64 xs, .cells [.int .i64 (.sym nx), .int .u64 (.sym len), .bool (.lit false)]]⟩), (545, ⟨false, .segs
 [.cells [.int .u32 (.sym (S8.a b)), .int .u32 (.sym (S8.b b)), .int .u32 (.sym (S8.c b)), .int .u32 (.sym (S8.d b)), .int .u32 (.sym (S8.e b)), .int .u32 (.sym (S8.f b)), .int .u32 (.sym (S8.g b)), .int .u32 (.sym (S8.h b))], .ints .u8 64
 d, .cells [.int .i64 (.sym a9), .int .u64 (.sym ba), .bool (.lit false)]]⟩), (569, ⟨false, .cells [.int .u8 (.sym (List.getD a 0 (0 : Int))), .int .u8 (.sym (List.getD a 1 (0 : Int))), .int .u8 (.sym (List.getD a 2 (0 : Int))), .int .u8
 (.sym (List.getD a 3 (0 : Int))), .int .u8 (.sym (List.getD a 4 (0 : Int))), .int .u8 (.sym (List.getD a 5 (0 : Int))), .int .u8 (.sym (List.getD a 6 (0 : Int))), .int .u8 (.sym (List.getD a 7 (0 : Int))), .int .u8 (.sym (List.getD a 8 (0
 : Int))), .int .u8 (.sym (List.getD a 9 (0 : Int))), .int .u8 (.sym (List.getD a 10 (0 : Int))), .int .u8 (.sym (List.getD a 11 (0 : Int))), .int .u8 (.sym (List.getD a 12 (0 : Int))), .int .u8 (.sym (List.getD a 13 (0 : Int))), .int .u8
 (.sym (List.getD a 14 (0 : Int))), .int .u8 (.sym (List.getD a 15 (0 : Int))), .int .u8 (.sym (List.getD a 16 (0 : Int))), .int .u8 (.sym (List.getD a 17 (0 : Int))), .int .u8 (.sym (List.getD a 18 (0 : Int))), .int .u8 (.sym (List.getD a
 19 (0 : Int))), .int .u8 (.sym (List.getD a 20 (0 : Int))), .int .u8 (.sym (List.getD a 21 (0 : Int))), .int .u8 (.sym (List.getD a 22 (0 : Int))), .int .u8 (.sym (List.getD a 23 (0 : Int))), .int .u8 (.sym (List.getD a 24 (0 : Int))),
 .int .u8 (.sym (List.getD a 25 (0 : Int))), .int .u8 (.sym (List.getD a 26 (0 : Int))), .int .u8 (.sym (List.getD a 27 (0 : Int))), .int .u8 (.sym (List.getD a 28 (0 : Int))), .int .u8 (.sym (List.getD a 29 (0 : Int))), .int .u8 (.sym
 (List.getD a 30 (0 : Int))), .int .u8 (.sym (List.getD a 31 (0 : Int)))]⟩)])) ∧ ((0 : Nat) < (32 : Nat) → ∀ (e : Nat) (f : List Int), 32 ≤ e ∧ f.length = e * 1 ∧ List.take 32 f = [] ++ List.take 32 (List.drop 0 [List.getD a 0 (0 : Int),
 List.getD a 1 (0 : Int), List.getD a 2 (0 : Int), List.getD a 3 (0 : Int), List.getD a 4 (0 : Int), List.getD a 5 (0 : Int), List.getD a 6 (0 : Int), List.getD a 7 (0 : Int), List.getD a 8 (0 : Int), List.getD a 9 (0 : Int), List.getD a 10
 (0 : Int), List.getD a 11 (0 : Int), List.getD a 12 (0 : Int), List.getD a 13 (0 : Int), List.getD a 14 (0 : Int), List.getD a 15 (0 : Int), List.getD a 16 (0 : Int), List.getD a 17 (0 : Int), List.getD a 18 (0 : Int), List.getD a 19 (0 :
 Int), List.getD a 20 (0 : Int), List.getD a 21 (0 : Int), List.getD a 22 (0 : Int), List.getD a 23 (0 : Int), List.getD a 24 (0 : Int), List.getD a 25 (0 : Int), List.getD a 26 (0 : Int), List.getD a 27 (0 : Int), List.getD a 28 (0 : Int),
 List.getD a 29 (0 : Int), List.getD a 30 (0 : Int), List.getD a 31 (0 : Int)]) → K (.slice 617 (.lit 0) (.lit 32) (.sym e)) (memL [(2, ⟨true, .ints .u32 kL⟩), (9, ⟨true, .segs [.cells [.int .u32 (.sym (S8.a H)), .int .u32 (.sym (S8.b H)),
 .int .u32 (.sym (S8.c H)), .int .u32 (.sym (S8.d H)), .int .u32 (.sym (S8.e H)), .int .u32 (.sym (S8.f H)), .int .u32 (.sym (S8.g H)), .int .u32 (.sym (S8.h H))], .ints .u8 64 xs, .cells [.int .i64 (.sym nx), .int .u64 (.sym len), .bool
 (.lit false)]]⟩), (545, ⟨false, .segs [.cells [.int .u32 (.sym (S8.a b)), .int .u32 (.sym (S8.b b)), .int .u32 (.sym (S8.c b)), .int .u32 (.sym (S8.d b)), .int .u32 (.sym (S8.e b)), .int .u32 (.sym (S8.f b)), .int .u32 (.sym (S8.g b)),
 .int .u32 (.sym (S8.h b))], .ints .u8 64 d, .cells [.int .i64 (.sym a9), .int .u64 (.sym ba), .bool (.lit false)]]⟩), (569, ⟨false, .cells [.int .u8 (.sym (List.getD a 0 (0 : Int))), .int .u8 (.sym (List.getD a 1 (0 : Int))), .int .u8
 (.sym (List.getD a 2 (0 : Int))), .int .u8 (.sym (List.getD a 3 (0 : Int))), .int .u8 (.sym (List.getD a 4 (0 : Int))), .int .u8 (.sym (List.getD a 5 (0 : Int))), .int .u8 (.sym (List.getD a 6 (0 : Int))), .int .u8 (.sym (List.getD a 7 (0
 : Int))), .int .u8 (.sym (List.getD a 8 (0 : Int))), .int .u8 (.sym (List.getD a 9 (0 : Int))), .int .u8 (.sym (List.getD a 10 (0 : Int))), .int .u8 (.sym (List.getD a 11 (0 : Int))), .int .u8 (.sym (List.getD a 12 (0 : Int))), .int .u8
 (.sym (List.getD a 13 (0 : Int))), .int .u8 (.sym (List.getD a 14 (0 : Int))), .int .u8 (.sym (List.getD a 15 (0 : Int))), .int .u8 (.sym (List.getD a 16 (0 : Int))), .int .u8 (.sym (List.getD a 17 (0 : Int))), .int .u8 (.sym (List.getD a
 18 (0 : Int))), .int .u8 (.sym (List.getD a 19 (0 : Int))), .int .u8 (.sym (List.getD a 20 (0 : Int))), .int .u8 (.sym (List.getD a 21 (0 : Int))), .int .u8 (.sym (List.getD a 22 (0 : Int))), .int .u8 (.sym (List.getD a 23 (0 : Int))),
 .int .u8 (.sym (List.getD a 24 (0 : Int))), .int .u8 (.sym (List.getD a 25 (0 : Int))), .int .u8 (.sym (List.getD a 26 (0 : Int))), .int .u8 (.sym (List.getD a 27 (0 : Int))), .int .u8 (.sym (List.getD a 28 (0 : Int))), .int .u8 (.sym
 (List.getD a 29 (0 : Int))), .int .u8 (.sym (List.getD a 30 (0 : Int))), .int .u8 (.sym (List.getD a 31 (0 : Int)))]⟩), (617, ⟨false, .ints .u8 f⟩)]))) := by kernel_rfl
theorem list64 {xs : List Int} (h : xs.length = 64) : [xs.getD 0 0, xs.getD 1 0, xs.getD 2 0, xs.getD 3 0, xs.getD 4 0, xs.getD 5 0, xs.getD 6 0, xs.getD 7 0, xs.getD 8 0, xs.getD 9 0, xs.getD 10 0, xs.getD 11 0, xs.getD 12 0, xs.getD 13 0, xs.getD 14 0, xs.getD 15 0, xs.getD 16 0, xs.getD 17 0, xs.getD 18 0, xs.getD 19 0, xs.getD 20 0, xs.getD 21 0, xs.getD 22 0, xs.getD 23 0, xs.getD 24 0, xs.getD 25 0, xs.getD 26 0, xs.getD 27 0, xs.getD 28 0, xs.getD 29 0, xs.getD 30 0, xs.getD 31 0, xs.getD 32 0, xs.getD 33 0, xs.getD 34 0, xs.getD 35 0, xs.getD 36 0, xs.getD 37 0, xs.getD 38 0, xs.getD 39 0, xs.getD 40 0, xs.getD 41 0, xs.getD 42 0, xs.getD 43 0, xs.getD 44 0, xs.getD 45 0, xs.getD 46 0, xs.getD 47 0, xs.getD 48 0, xs.getD 49 0, xs.getD 50 0, xs.getD 51 0, xs.getD 52 0, xs.getD 53 0, xs.getD 54 0, xs.getD 55 0, xs.getD 56 0, xs.getD 57 0, xs.getD 58 0, xs.getD 59 0, xs.getD 60 0, xs.getD 61 0, xs.getD 62 0, xs.getD 63 0] = xs := by
 apply List.ext_getElem
 ·simpa using h.symm
 ·intro i h1 h2
  simp only [List.length_cons, List.length_nil] at h1
  have hi : i < 64 := by omega
  have : ∀ j : Nat, j < 64 → (hj : j < xs.length) → ((List.range 64).map (fun k => xs.getD k 0))[j]? = some (xs[j]) := by
   intro j hj hj2
   simp [hj, List.getD_eq_getElem?_getD, List.getElem?_eq_getElem hj2]
  have h3 := this i hi h2
  have h4 : ∀ l : List Int, l = (List.range 64).map (fun k => xs.getD k 0) → ∀ (hl : i < l.length), l[i] = xs[i] := by
   rintro l rfl hl
   rw [List.getElem?_eq_getElem hl] at h3
   exact Option.some.inj h3
  exact h4 _ rfl h1
theorem list32 {xs : List Int} (h : xs.length = 32) : [xs.getD 0 0, xs.getD 1 0, xs.getD 2 0, xs.getD 3 0, xs.getD 4 0, xs.getD 5 0, xs.getD 6 0, xs.getD 7 0, xs.getD 8 0, xs.getD 9 0, xs.getD 10 0, xs.getD 11 0, xs.getD 12 0, xs.getD 13 0, xs.getD 14 0, xs.getD 15 0, xs.getD 16 0, xs.getD 17 0, xs.getD 18 0, xs.getD 19 0, xs.getD 20 0, xs.getD 21 0, xs.getD 22 0, xs.getD 23 0, xs.getD 24 0, xs.getD 25 0, xs.getD 26 0, xs.getD 27 0, xs.getD 28 0, xs.getD 29 0, xs.getD 30 0, xs.getD 31 0] = xs := by
 apply List.ext_getElem
 ·simpa using h.symm
 ·intro i h1 h2
  simp only [List.length_cons, List.length_nil] at h1
  have hi : i < 32 := by omega
  have : ∀ j : Nat, j < 32 → (hj : j < xs.length) → ((List.range 32).map (fun k => xs.getD k 0))[j]? = some (xs[j]) := by
   intro j hj hj2
   simp [hj, List.getD_eq_getElem?_getD, List.getElem?_eq_getElem hj2]
  have h3 := this i hi h2
  have h4 : ∀ l : List Int, l = (List.range 32).map (fun k => xs.getD k 0) → ∀ (hl : i < l.length), l[i] = xs[i] := by
   rintro l rfl hl
   rw [List.getElem?_eq_getElem hl] at h3
   exact Option.some.inj h3
  exact h4 _ rfl h1
def gSum : G0 := fun args l K =>
 match args, l with
 | [.ptr 9 (.lit 0), .val (.slice none 0 0)], [(2, ⟨true, .ints .u32 ks⟩), (9, ⟨true, .segs [.cells [.int .u32 (.sym h0), .int .u32 (.sym h1), .int .u32 (.sym h2), .int .u32 (.sym h3), .int .u32 (.sym h4), .int .u32 (.sym h5), .int .u32 (.sym h6), .int .u32 (.sym h7)], .ints .u8 64 xs, .cells [.int .i64 (.sym nx), .int .u64 (.sym len), .bool (.lit false)]]⟩)] =>
  ∃ M, (ks = kL ∧ Abs M ⟨h0, h1, h2, h3, h4, h5, h6, h7⟩ xs nx len ∧ M.length < 2 ^ 39) ∧
   ∀ ys cap, ys.take 32 = sha M ∧ ys.length = cap ∧ 32 ≤ cap → K (.slice 617 (.lit 0) (.lit 32) (.sym cap)) (memL [(2, ⟨true, .ints .u32 kL⟩), (9, dgR true ⟨h0, h1, h2, h3, h4, h5, h6, h7⟩ xs nx len), (617, ⟨false, .ints .u8 ys⟩)])
 | _, _ => False
theorem sum_good : Good gSum := by
 constructor
 ·intro args l K K' hk h
  unfold gSum at h ⊢
  split at h
  ·obtain ⟨M, h1, h2⟩ := h
   exact ⟨M, h1, fun ys cap hy => hk _ _ (h2 ys cap hy)⟩
  ·exact h.elim
 ·intro args l K h
  unfold gSum at h
  split at h
  ·obtain ⟨M, h1, h2⟩ := h
   exact ⟨_, _, h2 (sha M) 32 ⟨rfl, rfl, Nat.le_refl _⟩⟩
  ·exact h.elim
set_option maxHeartbeats 4000000
theorem sum_ok (args : List SV) (l : List (Nat × Reg)) (K : SV → Mem → Prop) (hup : KUp K) (h : gSum args l K) : ∃ U, execF cxSum U Tryz.f79 64 args (memL l) K := by
 refine ⟨u0, ?_⟩
 unfold gSum at h
 split at h
 ·rename_i ks h0 h1 h2 h3 h4 h5 h6 h7 xs nx len
  obtain ⟨M, ⟨hk, k1, k2⟩, k3⟩ := h
  subst hk
  have := vc_sum ⟨h0, h1, h2, h3, h4, h5, h6, h7⟩ xs nx len K
  unfold dgR i32 at this
  rw [this]
  rintro x0 rfl x1 rfl x2 rfl x3 rfl x4 rfl x5 rfl x6 rfl x7 rfl x8 rfl x9 rfl x10 rfl x11 rfl x12 rfl x13 rfl x14 rfl x15 rfl x16 rfl x17 rfl x18 rfl x19 rfl x20 rfl x21 rfl x22 rfl x23 rfl x24 rfl x25 rfl x26 rfl x27 rfl x28 rfl x29 rfl x30 rfl x31 rfl x32 rfl x33 rfl x34 rfl x35 rfl x36 rfl x37 rfl x38 rfl x39 rfl x40 rfl x41 rfl x42 rfl x43 rfl x44 rfl x45 rfl x46 rfl x47 rfl x48 rfl x49 rfl x50 rfl x51 rfl x52 rfl x53 rfl x54 rfl x55 rfl x56 rfl x57 rfl x58 rfl x59 rfl x60 rfl x61 rfl x62 rfl x63 rfl x64 rfl x65 rfl x66 rfl x67 rfl x68 rfl x69 rfl x70 rfl x71 rfl x72 rfl x73 rfl
  rw [list64 k1.xl]
  refine ⟨M, ⟨rfl, k1, k2⟩, ?_⟩
  rintro bs hbs x76 x77 x78 x79 ys80 rfl
  have hbl : bs.length = 32 := by rw [hbs]; rfl
  rw [list32 hbl]
  refine ⟨⟨trivial, by rw [hbl]; exact Nat.le_refl _, by omega, by omega⟩, fun h => absurd h (by omega), fun _ => ?_⟩
  rintro cap ys ⟨hc, hr, ht⟩
  rw [Nat.mul_one] at hr
  have hb : List.take 32 (List.drop 0 bs) = bs := by rw [List.drop_zero, List.take_of_length_le (by omega)]
  rw [hb, List.nil_append, hbs] at ht
  refine hup.le (memL_sub [2, 9, 545, 569, 617] rfl (by decide) ?_) (k3 ys cap ⟨ht, hr, hc⟩)
  intro x hx
  simp only [List.mem_cons, List.not_mem_nil, or_false] at hx ⊢
  rcases hx with h | h | h
  ·exact .inl h
  ·exact .inr (.inl h)
  ·exact .inr (.inr (.inr (.inr h)))
 ·exact h.elim
def cSum : Ef Tryz.prog := mkE mixed 79 Tryz.func79 (by decide) (by kernel_rfl) [1] [.parts dgSh true, .sl 1 false] gSum sum_good sum_ok
theorem vc_errn (b : ByteArray) (K : SV → Mem → Prop) : (execF cx0 u0 Tryz.f75 64 [.val (.string b)] (memL []) K) = K (.iface 126 (.ptr 537 (.lit 0))) (memL [(537, ⟨false, .cells [.val (.string b)]⟩)]) := by kernel_rfl
def gErr : G0 := fun args l K =>
 match args, l with
 | [.val (.string b)], [] => K (.iface 126 (.ptr 537 (.lit 0))) (memL [(537, ⟨false, .cells [.val (.string b)]⟩)])
 | _, _ => False
theorem err_good : Good gErr := by
 constructor
 ·intro args l K K' hk h
  unfold gErr at h ⊢
  split at h
  ·exact hk _ _ h
  ·exact h.elim
 ·intro args l K h
  unfold gErr at h
  split at h
  ·exact ⟨_, _, h⟩
  ·exact h.elim
theorem err_ok (args : List SV) (l : List (Nat × Reg)) (K : SV → Mem → Prop) (_ : KUp K) (h : gErr args l K) : ∃ U, execF cx0 U Tryz.f75 64 args (memL l) K := by
 refine ⟨u0, ?_⟩
 unfold gErr at h
 split at h
 ·rw [vc_errn]
  exact h
 ·exact h.elim
def cErr : Ef Tryz.prog := mkE mixed 75 Tryz.func75 (by decide) (by kernel_rfl) [] [.val] gErr err_good err_ok
end Go.Sx
namespace Go.Sx
open Go
def xorL (a b : List Int) : List Int := (List.range 32).map fun k => bxor .u8 (a.getD k 0) (b.getD k 0)
def bI (first D : List Int) : Nat → List Int
 | 0 => List.replicate 32 0
 | i + 1 => sha (xorL first (bI first D i) ++ [IntKind.u8.wrap ((i : Int) + 1)] ++ D)
def outN (first D : List Int) : Nat → List Int
 | 0 => []
 | i + 1 => outN first D i ++ bI first D (i + 1)
def domL (dst : List Int) : List Int := dst ++ [IntKind.u8.wrap (dst.length : Nat)]
def firstL (msg dst : List Int) (n : Int) : List Int := sha (List.replicate 64 0 ++ msg ++ [IntKind.u8.wrap (IntKind.i64.wrap (Int.tdiv n 256)), IntKind.u8.wrap n, 0] ++ domL dst)
def expand (msg dst : List Int) (n : Nat) : List Int := (outN (firstL msg dst n) (domL dst) ((n + 31) / 32)).take n
theorem xorL_length (a b : List Int) : (xorL a b).length = 32 := by simp [xorL]
theorem xorL_bytes (a b : List Int) : Bytes (xorL a b) := by
 intro x hx
 unfold xorL at hx
 obtain ⟨k, _, rfl⟩ := List.mem_map.1 hx
 exact u8_range _
theorem bI_length (first D : List Int) : ∀ i, (bI first D i).length = 32
 | 0 => by simp [bI]
 | i + 1 => rfl
theorem bI_bytes (first D : List Int) : ∀ i, Bytes (bI first D i)
 | 0 => by intro x hx; simp [bI] at hx; omega
 | i + 1 => sha_bytes _
theorem outN_length (first D : List Int) : ∀ i, (outN first D i).length = 32 * i
 | 0 => rfl
 | i + 1 => by simp [outN, outN_length first D i, bI_length]; omega
theorem domL_length (dst : List Int) : (domL dst).length = dst.length + 1 := by simp [domL]
theorem domL_bytes {dst : List Int} (h : Bytes dst) : Bytes (domL dst) := by
 refine h.append ?_
 intro x hx
 simp only [List.mem_cons, List.not_mem_nil, or_false] at hx
 rw [hx]
 exact u8_range _
theorem outN_prefix (first D : List Int) {i j : Nat} (h : i ≤ j) {n : Nat} (hn : n ≤ 32 * i) : (outN first D j).take n = (outN first D i).take n := by
 induction j with
 | zero => rw [show i = 0 by omega]
 | succ j ih =>
  rcases Nat.lt_or_ge i (j + 1) with hlt | hge
  ·rw [outN, List.take_append_of_le_length (by rw [outN_length]; omega)]
   exact ih (by omega)
  ·rw [show i = j + 1 by omega]
theorem xorL_congr {a a' b b' : List Int} (ha : a.take 32 = a'.take 32) (hb : b.take 32 = b'.take 32) : xorL a b = xorL a' b' := by
 unfold xorL
 apply List.map_congr_left
 intro k hk
 have hk := List.mem_range.1 hk
 have e : ∀ x y : List Int, x.take 32 = y.take 32 → x.getD k 0 = y.getD k 0 := by
  intro x y h
  have := congrArg (fun l => l.getD k 0) h
  simpa [List.getD_eq_getElem?_getD, List.getElem?_take, hk] using this
 rw [e _ _ ha, e _ _ hb]
theorem xorL_take {a b : List Int} {k : Nat} (h : k < 32) : (xorL a b).take (k + 1) = (xorL a b).take k ++ [bxor .u8 (a.getD k 0) (b.getD k 0)] := by
 rw [List.take_add_one]
 congr 1
 unfold xorL
 simp [h]
end Go.Sx
namespace Go.Sx
open Go Go.Proofs
set_option maxRecDepth 100000
theorem vc_join4 (x1 x2 x3 x4 : List Int) (n1 n2 n3 n4 c1 c2 c3 c4 : Nat) (K : SV → Mem → Prop) : (execF cx0 u9 Tryz.f36 64 [.slice 33 (.lit 0) (.lit 4) (.lit 4)] (memL [(1, ⟨true, .ints .u8 x1⟩), (9, ⟨true, .ints .u8 x2⟩), (17, ⟨true,
 .ints .u8 x3⟩), (25, ⟨true, .ints .u8 x4⟩), (33, ⟨true, .cells [.slice 1 (.lit 0) (.sym n1) (.sym c1), .slice 9 (.lit 0) (.sym n2) (.sym c2), .slice 17 (.lit 0) (.sym n3) (.sym c3), .slice 25 (.lit 0) (.sym n4) (.sym c4)]⟩)]) K) = ((((0 :
 Nat) ≤ (0 : Nat) ∧ (0 : Nat) ≤ (0 : Nat)) ∧ Nat.le (0 + n1 * 1) x1.length ∧ (0 + n1) * 1 ≤ 549755813888 ∧ 0 + n1 ≤ 549755813888) ∧ ∀ (a : Nat) (b : List Int), 0 + n1 ≤ a ∧ b.length = a * 1 ∧ List.take ((0 + n1) * 1) b = List.take 0
 (List.drop 0 []) ++ List.take (n1 * 1) (List.drop 0 x1) → (((n1 ≤ a ∧ 0 + a * 1 ≤ b.length) ∧ Nat.le (0 + n2 * 1) x2.length ∧ (n1 + n2) * 1 ≤ 549755813888 ∧ n1 + n2 ≤ 549755813888) ∧ ∀ (c : Nat) (d : List Int), n1 + n2 ≤ c ∧ d.length = c *
 1 ∧ List.take ((n1 + n2) * 1) d = List.take (n1 * 1) (List.drop 0 b) ++ List.take (n2 * 1) (List.drop 0 x2) → (((n1 + n2 ≤ c ∧ 0 + c * 1 ≤ d.length) ∧ Nat.le (0 + n3 * 1) x3.length ∧ (n1 + n2 + n3) * 1 ≤ 549755813888 ∧ n1 + n2 + n3 ≤
 549755813888) ∧ ∀ (e : Nat) (f : List Int), n1 + n2 + n3 ≤ e ∧ f.length = e * 1 ∧ List.take ((n1 + n2 + n3) * 1) f = List.take ((n1 + n2) * 1) (List.drop 0 d) ++ List.take (n3 * 1) (List.drop 0 x3) → (((n1 + n2 + n3 ≤ e ∧ 0 + e * 1 ≤
 f.length) ∧ Nat.le (0 + n4 * 1) x4.length ∧ (n1 + n2 + n3 + n4) * 1 ≤ 549755813888 ∧ n1 + n2 + n3 + n4 ≤ 549755813888) ∧ ∀ (g : Nat) (h : List Int), n1 + n2 + n3 + n4 ≤ g ∧ h.length = g * 1 ∧ List.take ((n1 + n2 + n3 + n4) * 1) h =
 List.take ((n1 + n2 + n3) * 1) (List.drop 0 f) ++ List.take (n4 * 1) (List.drop 0 x4) → K (.slice 953 (.lit 0) (.sym (n1 + n2 + n3 + n4)) (.sym g)) (memL [(1, ⟨true, .ints .u8 x1⟩), (9, ⟨true, .ints .u8 x2⟩), (17, ⟨true, .ints .u8 x3⟩),
 (25, ⟨true, .ints .u8 x4⟩), (33, ⟨true, .cells [.slice 1 (.lit 0) (.sym n1) (.sym c1), .slice 9 (.lit 0) (.sym n2) (.sym c2), .slice 17 (.lit 0) (.sym n3) (.sym c3), .slice 25 (.lit 0) (.sym n4) (.sym c4)]⟩), (953, ⟨false, .ints .u8
 h⟩)]))))) := by kernel_rfl
theorem vc_join3 (x1 x2 x3 : List Int) (n1 n2 n3 c1 c2 c3 : Nat) (K : SV → Mem → Prop) : (execF cx0 u9 Tryz.f36 64 [.slice 25 (.lit 0) (.lit 3) (.lit 3)] (memL [(1, ⟨true, .ints .u8 x1⟩), (9, ⟨true, .ints .u8 x2⟩), (17, ⟨true, .ints .u8
 x3⟩), (25, ⟨true, .cells [.slice 1 (.lit 0) (.sym n1) (.sym c1), .slice 9 (.lit 0) (.sym n2) (.sym c2), .slice 17 (.lit 0) (.sym n3) (.sym c3)]⟩)]) K) = ((((0 : Nat) ≤ (0 : Nat) ∧ (0 : Nat) ≤ (0 : Nat)) ∧ Nat.le (0 + n1 * 1) x1.length ∧ (0
 + n1) * 1 ≤ 549755813888 ∧ 0 + n1 ≤ 549755813888) ∧ ∀ (a : Nat) (b : List Int), 0 + n1 ≤ a ∧ b.length = a * 1 ∧ List.take ((0 + n1) * 1) b = List.take 0 (List.drop 0 []) ++ List.take (n1 * 1) (List.drop 0 x1) → (((n1 ≤ a ∧ 0 + a * 1 ≤
 b.length) ∧ Nat.le (0 + n2 * 1) x2.length ∧ (n1 + n2) * 1 ≤ 549755813888 ∧ n1 + n2 ≤ 549755813888) ∧ ∀ (c : Nat) (d : List Int), n1 + n2 ≤ c ∧ d.length = c * 1 ∧ List.take ((n1 + n2) * 1) d = List.take (n1 * 1) (List.drop 0 b) ++ List.take
 (n2 * 1) (List.drop 0 x2) → (((n1 + n2 ≤ c ∧ 0 + c * 1 ≤ d.length) ∧ Nat.le (0 + n3 * 1) x3.length ∧ (n1 + n2 + n3) * 1 ≤ 549755813888 ∧ n1 + n2 + n3 ≤ 549755813888) ∧ ∀ (e : Nat) (f : List Int), n1 + n2 + n3 ≤ e ∧ f.length = e * 1 ∧
 List.take ((n1 + n2 + n3) * 1) f = List.take ((n1 + n2) * 1) (List.drop 0 d) ++ List.take (n3 * 1) (List.drop 0 x3) → K (.slice 841 (.lit 0) (.sym (n1 + n2 + n3)) (.sym e)) (memL [(1, ⟨true, .ints .u8 x1⟩), (9, ⟨true, .ints .u8 x2⟩), (17,
 ⟨true, .ints .u8 x3⟩), (25, ⟨true, .cells [.slice 1 (.lit 0) (.sym n1) (.sym c1), .slice 9 (.lit 0) (.sym n2) (.sym c2), .slice 17 (.lit 0) (.sym n3) (.sym c3)]⟩), (841, ⟨false, .ints .u8 f⟩)])))) := by kernel_rfl
theorem vc_joinn (x1 x3 x4 : List Int) (n1 n3 n4 c1 c3 c4 : Nat) (K : SV → Mem → Prop) : (execF cx0 u9 Tryz.f36 64 [.slice 25 (.lit 0) (.lit 4) (.lit 4)] (memL [(1, ⟨true, .ints .u8 x1⟩), (9, ⟨true, .ints .u8 x3⟩), (17, ⟨true, .ints .u8
 x4⟩), (25, ⟨true, .cells [.slice 1 (.lit 0) (.sym n1) (.sym c1), .val (.slice none 0 0), .slice 9 (.lit 0) (.sym n3) (.sym c3), .slice 17 (.lit 0) (.sym n4) (.sym c4)]⟩)]) K) = ((((0 : Nat) ≤ (0 : Nat) ∧ (0 : Nat) ≤ (0 : Nat)) ∧ Nat.le (0
 + n1 * 1) x1.length ∧ (0 + n1) * 1 ≤ 549755813888 ∧ 0 + n1 ≤ 549755813888) ∧ ∀ (a : Nat) (b : List Int), 0 + n1 ≤ a ∧ b.length = a * 1 ∧ List.take ((0 + n1) * 1) b = List.take 0 (List.drop 0 []) ++ List.take (n1 * 1) (List.drop 0 x1) →
 (((n1 ≤ a ∧ 0 + a * 1 ≤ b.length) ∧ True ∧ (n1 + 0) * 1 ≤ 549755813888 ∧ n1 + 0 ≤ 549755813888) ∧ ∀ (c : Nat) (d : List Int), n1 + 0 ≤ c ∧ d.length = c * 1 ∧ List.take ((n1 + 0) * 1) d = List.take (n1 * 1) (List.drop 0 b) ++ [] → (((n1 + 0
 ≤ c ∧ 0 + c * 1 ≤ d.length) ∧ Nat.le (0 + n3 * 1) x3.length ∧ (n1 + 0 + n3) * 1 ≤ 549755813888 ∧ n1 + 0 + n3 ≤ 549755813888) ∧ ∀ (e : Nat) (f : List Int), n1 + 0 + n3 ≤ e ∧ f.length = e * 1 ∧ List.take ((n1 + 0 + n3) * 1) f = List.take
 ((n1 + 0) * 1) (List.drop 0 d) ++ List.take (n3 * 1) (List.drop 0 x3) → (((n1 + 0 + n3 ≤ e ∧ 0 + e * 1 ≤ f.length) ∧ Nat.le (0 + n4 * 1) x4.length ∧ (n1 + 0 + n3 + n4) * 1 ≤ 549755813888 ∧ n1 + 0 + n3 + n4 ≤ 549755813888) ∧ ∀ (g : Nat) (h
 : List Int), n1 + 0 + n3 + n4 ≤ g ∧ h.length = g * 1 ∧ List.take ((n1 + 0 + n3 + n4) * 1) h = List.take ((n1 + 0 + n3) * 1) (List.drop 0 f) ++ List.take (n4 * 1) (List.drop 0 x4) → K (.slice 953 (.lit 0) (.sym (n1 + 0 + n3 + n4)) (.sym g))
 (memL [(1, ⟨true, .ints .u8 x1⟩), (9, ⟨true, .ints .u8 x3⟩), (17, ⟨true, .ints .u8 x4⟩), (25, ⟨true, .cells [.slice 1 (.lit 0) (.sym n1) (.sym c1), .val (.slice none 0 0), .slice 9 (.lit 0) (.sym n3) (.sym c3), .slice 17 (.lit 0) (.sym n4)
 (.sym c4)]⟩), (953, ⟨false, .ints .u8 h⟩)]))))) := by kernel_rfl
structure Rw (ys xs : List Int) (n cap : Nat) : Prop where
 xl : xs.length = n
 le : n ≤ cap
 len : ys.length = cap
 row : ys.take n = xs
theorem Rw.self (xs : List Int) : Rw xs xs xs.length xs.length := ⟨rfl, Nat.le_refl _, rfl, List.take_of_length_le (Nat.le_refl _)⟩
theorem Rw.step {ys xs zs us : List Int} {n m cap cap' : Nat} (h : Rw ys xs n cap) (hz : zs.length = m) (hc : n + m ≤ cap') (hl : us.length = cap') (ht : us.take (n + m) = ys.take n ++ zs) : Rw us (xs ++ zs) (n + m) cap' :=
 ⟨by rw [List.length_append, h.xl, hz], hc, hl, by rw [ht, h.row]⟩
def gJoin : G0 := fun args l K =>
 match args, l with
 | [.slice 33 (.lit 0) (.lit 4) (.lit 4)], [(1, ⟨true, .ints .u8 x1⟩), (9, ⟨true, .ints .u8 x2⟩), (17, ⟨true, .ints .u8 x3⟩), (25, ⟨true, .ints .u8 x4⟩), (33, ⟨true, .cells [.slice 1 (.lit 0) (.sym n1) (.sym c1), .slice 9 (.lit 0) (.sym n2) (.sym c2), .slice 17 (.lit 0) (.sym n3) (.sym c3), .slice 25 (.lit 0) (.sym n4) (.sym c4)]⟩)] =>
  ((x1.length = n1 ∧ x2.length = n2 ∧ x3.length = n3 ∧ x4.length = n4) ∧ n1 + n2 + n3 + n4 ≤ 2 ^ 39) ∧
  ∀ ys cap n, Rw ys (x1 ++ x2 ++ x3 ++ x4) n cap → K (.slice 953 (.lit 0) (.sym n) (.sym cap)) (memL [(1, ⟨true, .ints .u8 x1⟩), (9, ⟨true, .ints .u8 x2⟩), (17, ⟨true, .ints .u8 x3⟩), (25, ⟨true, .ints .u8 x4⟩),
   (33, ⟨true, .cells [.slice 1 (.lit 0) (.sym n1) (.sym c1), .slice 9 (.lit 0) (.sym n2) (.sym c2), .slice 17 (.lit 0) (.sym n3) (.sym c3), .slice 25 (.lit 0) (.sym n4) (.sym c4)]⟩), (953, ⟨false, .ints .u8 ys⟩)])
 | [.slice 25 (.lit 0) (.lit 3) (.lit 3)], [(1, ⟨true, .ints .u8 x1⟩), (9, ⟨true, .ints .u8 x2⟩), (17, ⟨true, .ints .u8 x3⟩), (25, ⟨true, .cells [.slice 1 (.lit 0) (.sym n1) (.sym c1), .slice 9 (.lit 0) (.sym n2) (.sym c2), .slice 17 (.lit 0) (.sym n3) (.sym c3)]⟩)] =>
  ((x1.length = n1 ∧ x2.length = n2 ∧ x3.length = n3) ∧ n1 + n2 + n3 ≤ 2 ^ 39) ∧
  ∀ ys cap n, Rw ys (x1 ++ x2 ++ x3) n cap → K (.slice 841 (.lit 0) (.sym n) (.sym cap)) (memL [(1, ⟨true, .ints .u8 x1⟩), (9, ⟨true, .ints .u8 x2⟩), (17, ⟨true, .ints .u8 x3⟩),
   (25, ⟨true, .cells [.slice 1 (.lit 0) (.sym n1) (.sym c1), .slice 9 (.lit 0) (.sym n2) (.sym c2), .slice 17 (.lit 0) (.sym n3) (.sym c3)]⟩), (841, ⟨false, .ints .u8 ys⟩)])
 | [.slice 25 (.lit 0) (.lit 4) (.lit 4)], [(1, ⟨true, .ints .u8 x1⟩), (9, ⟨true, .ints .u8 x3⟩), (17, ⟨true, .ints .u8 x4⟩), (25, ⟨true, .cells [.slice 1 (.lit 0) (.sym n1) (.sym c1), .val (.slice none 0 0), .slice 9 (.lit 0) (.sym n3) (.sym c3), .slice 17 (.lit 0) (.sym n4) (.sym c4)]⟩)] =>
  ((x1.length = n1 ∧ x3.length = n3 ∧ x4.length = n4) ∧ n1 + n3 + n4 ≤ 2 ^ 39) ∧
  ∀ ys cap n, Rw ys (x1 ++ x3 ++ x4) n cap → K (.slice 953 (.lit 0) (.sym n) (.sym cap)) (memL [(1, ⟨true, .ints .u8 x1⟩), (9, ⟨true, .ints .u8 x3⟩), (17, ⟨true, .ints .u8 x4⟩),
   (25, ⟨true, .cells [.slice 1 (.lit 0) (.sym n1) (.sym c1), .val (.slice none 0 0), .slice 9 (.lit 0) (.sym n3) (.sym c3), .slice 17 (.lit 0) (.sym n4) (.sym c4)]⟩), (953, ⟨false, .ints .u8 ys⟩)])
 | _, _ => False
theorem join_good : Good gJoin := by
 constructor
 ·intro args l K K' hk h
  unfold gJoin at h ⊢
  split at h
  ·exact ⟨h.1, fun ys cap n hy => hk _ _ (h.2 ys cap n hy)⟩
  ·exact ⟨h.1, fun ys cap n hy => hk _ _ (h.2 ys cap n hy)⟩
  ·exact ⟨h.1, fun ys cap n hy => hk _ _ (h.2 ys cap n hy)⟩
  ·exact h.elim
 ·intro args l K h
  unfold gJoin at h
  split at h
  ·exact ⟨_, _, h.2 _ _ _ (Rw.self _)⟩
  ·exact ⟨_, _, h.2 _ _ _ (Rw.self _)⟩
  ·exact ⟨_, _, h.2 _ _ _ (Rw.self _)⟩
  ·exact h.elim
theorem Rw.first {ys xs : List Int} {n cap : Nat} (hx : xs.length = n) (h : 0 + n ≤ cap ∧ ys.length = cap * 1 ∧ ys.take ((0 + n) * 1) = List.take 0 (List.drop 0 []) ++ List.take (n * 1) (List.drop 0 xs)) : Rw ys xs n cap := by
 simp only [Nat.zero_add, Nat.mul_one, List.drop_zero, List.take_zero, List.nil_append] at h
 exact ⟨hx, h.1, h.2.1, by rw [h.2.2, List.take_of_length_le (by omega)]⟩
theorem Rw.next {ys xs zs us : List Int} {n m cap cap' : Nat} (h : Rw ys xs n cap) (hz : zs.length = m) (hu : n + m ≤ cap' ∧ us.length = cap' * 1 ∧ us.take ((n + m) * 1) = List.take (n * 1) (List.drop 0 ys) ++ List.take (m * 1) (List.drop 0 zs)) :
  Rw us (xs ++ zs) (n + m) cap' := by
 simp only [Nat.mul_one, List.drop_zero] at hu
 exact h.step hz hu.1 hu.2.1 (by rw [hu.2.2, List.take_of_length_le (by omega : zs.length ≤ m)])
theorem Rw.fits {ys xs : List Int} {n cap : Nat} (h : Rw ys xs n cap) : n ≤ cap ∧ 0 + cap * 1 ≤ ys.length := ⟨h.le, by rw [h.len]; omega⟩
theorem Rw.nothing {ys xs us : List Int} {n cap cap' : Nat} (h : Rw ys xs n cap) (hu : n + 0 ≤ cap' ∧ us.length = cap' * 1 ∧ us.take ((n + 0) * 1) = List.take (n * 1) (List.drop 0 ys) ++ []) :
  Rw us xs (n + 0) cap' := by
 have := h.next (zs := []) (m := 0) rfl (by simpa using hu)
 rwa [List.append_nil] at this
theorem join_ok (args : List SV) (l : List (Nat × Reg)) (K : SV → Mem → Prop) (_ : KUp K) (h : gJoin args l K) : ∃ U, execF cx0 U Tryz.f36 64 args (memL l) K := by
 refine ⟨u9, ?_⟩
 unfold gJoin at h
 split at h
 ·obtain ⟨⟨⟨h1, h2, h3, h4⟩, h5⟩, h6⟩ := h
  rw [vc_join4]
  refine ⟨⟨by omega, nle (by omega), by omega, by omega⟩, fun cap1 y1 e1 => ?_⟩
  have r1 := Rw.first h1 e1
  refine ⟨⟨r1.fits, nle (by omega), by omega, by omega⟩, fun cap2 y2 e2 => ?_⟩
  have r2 := r1.next h2 e2
  refine ⟨⟨r2.fits, nle (by omega), by omega, by omega⟩, fun cap3 y3 e3 => ?_⟩
  have r3 := r2.next h3 e3
  refine ⟨⟨r3.fits, nle (by omega), by omega, by omega⟩, fun cap4 y4 e4 => ?_⟩
  exact h6 _ _ _ (r3.next h4 e4)
 ·obtain ⟨⟨⟨h1, h2, h3⟩, h5⟩, h6⟩ := h
  rw [vc_join3]
  refine ⟨⟨by omega, nle (by omega), by omega, by omega⟩, fun cap1 y1 e1 => ?_⟩
  have r1 := Rw.first h1 e1
  refine ⟨⟨r1.fits, nle (by omega), by omega, by omega⟩, fun cap2 y2 e2 => ?_⟩
  have r2 := r1.next h2 e2
  refine ⟨⟨r2.fits, nle (by omega), by omega, by omega⟩, fun cap3 y3 e3 => ?_⟩
  exact h6 _ _ _ (r2.next h3 e3)
 ·obtain ⟨⟨⟨h1, h3, h4⟩, h5⟩, h6⟩ := h
  rw [vc_joinn]
  refine ⟨⟨by omega, nle (by omega), by omega, by omega⟩, fun cap1 y1 e1 => ?_⟩
  have r1 := Rw.first h1 e1
  refine ⟨⟨r1.fits, trivial, by omega, by omega⟩, fun cap2 y2 e2 => ?_⟩
  have r2 := r1.nothing e2
  refine ⟨⟨r2.fits, nle (by omega), by omega, by omega⟩, fun cap3 y3 e3 => ?_⟩
  have r3 := r2.next h3 e3
  refine ⟨⟨r3.fits, nle (by omega), by omega, by omega⟩, fun cap4 y4 e4 => ?_⟩
  exact h6 _ _ _ (r3.next h4 e4)
 ·exact h.elim
def cJoin : Ef Tryz.prog := mkE mixed 36 Tryz.func36 (by decide) (by kernel_rfl) [] [.sls] gJoin join_good join_ok
def rConst : R0 := fun args l =>
 match args, l with
 | [], [] => some (none, .agg (kL.map fun x => .int .u32 (.lit x)))
 | _, _ => none
theorem const_ok (args : List SV) (l : List (Nat × Reg)) (p : Ob) (v : SV) (h : rConst args l = some (p, v)) (_ : p.ok) : ∃ U, execF cx0 U Tryz.f99 64 args (memL l) fun v' _ => v' = v := by
 refine ⟨u0, ?_⟩
 unfold rConst at h
 split at h
 ·simp only [Option.some.injEq, Prod.mk.injEq] at h
  obtain ⟨rfl, rfl⟩ := h
  rw [vc_const]
  rfl
 ·cases h
def cConst : Rd Tryz.prog := mkR mixed 99 Tryz.func99 (by decide) (by kernel_rfl) [] [] rConst const_ok
def cxSB : Cx Tryz.prog := { rds := [cTurned, cConst], efs := [], eqs := [] }
end Go.Sx
namespace Go.Sx
open Go Go.Proofs
def i64n (n : Nat) : SV := .int .i64 (.sym (n : Nat))
def liSB0 (xs : List Int) : LI where
 ι := Nat × List Int
 keep := [0, 1, 2, 4, 5]
 keepR := [1, 513, 521]
 F := fun i => ⟨[(6, i64n i.1)], [(537, ⟨false, .ints .u32 i.2⟩)]⟩
 I := fun _ i => i.1 ≤ 16 ∧ i.2.length = 64 ∧ ∀ j, j < i.1 → i.2.getD j 0 = W xs j
 μ := fun i => 16 - i.1
def liSB2 (xs : List Int) : LI where
 ι := Nat × List Int
 keep := [0, 1, 2, 4, 5]
 keepR := [1, 513, 521]
 F := fun i => ⟨[(7, i64n i.1)], [(537, ⟨false, .ints .u32 i.2⟩)]⟩
 I := fun _ i => 16 ≤ i.1 ∧ i.1 ≤ 64 ∧ i.2.length = 64 ∧ ∀ j, j < i.1 → i.2.getD j 0 = W xs j
 μ := fun i => 64 - i.1
def liSB4 (H : S8) (xs : List Int) : LI where
 ι := Nat
 keep := [0, 1, 2, 4, 5, 10, 11]
 keepR := [1, 513, 521, 537]
 F := fun i => ⟨[(12, i64n i)], [(617, ⟨false, .ints .u32 kL⟩), (625, ⟨false, s8C (rounds H xs i)⟩)]⟩
 I := fun _ i => i ≤ 64
 μ := fun i => 64 - i
def uSB (H : S8) (xs : List Int) : Nat → Lp := fun n =>
 match n with
 | 0 => .inv (liSB0 xs)
 | 2 => .inv (liSB2 xs)
 | 4 => .inv (liSB4 H xs)
 | _ => .un 9
def cxEX : Cx Tryz.prog := { rds := [cSize, cBsz], efs := [cNew, cReset, cWrite, cSum, cErr], eqs := [] }
structure ExI where
 j : Nat
 b : List Int
 bc : Nat
 res : List Int
 H : S8
 x : List Int
 nx : Int
 len : Int
def liEX0 (rd : Nat) (first D : List Int) (n : Int) : LI where
 ι := ExI
 keep := [1, 2, 8, 9, 10, 21, 31]
 keepR := [2, rd, 1177]
 F := fun i => ⟨[(30, .slice 1641 (.lit 0) (.lit 32) (.sym i.bc)), (32, .int .i64 (.sym ((i.j : Nat) + 1)))],
  [(529, dgR false i.H i.x i.nx i.len), (1641, ⟨false, .ints .u8 i.b⟩), (1569, ⟨false, .ints .u8 i.res⟩)]⟩
 I := fun _ i => 1 ≤ i.j ∧ 32 * (i.j : Int) < n + 32 ∧ Rw i.b (bI first D i.j) 32 i.bc ∧ (i.res.length : Int) = n ∧ i.res.take (32 * i.j) = (outN first D i.j).take n.toNat ∧ i.x.length = 64
 μ := fun i => n.toNat + 32 - 32 * i.j
 k := 1
def liEX2 (rd : Nat) : LI where
 ι := Nat × List Int
 keep := [1, 2, 8, 9, 10, 21, 30, 31, 32, 33]
 keepR := [2, rd, 529, 1177, 1569, 1641]
 F := fun i => ⟨[(34, i64n i.1)], [(1705, ⟨false, .ints .u8 i.2⟩)]⟩
 I := fun st i => i.2.length = 32 ∧ i.2.take i.1 = (xorL (st.reg 1177) (st.reg 1641)).take i.1 ∧ i.1 ≤ 32
 μ := fun i => 32 - i.1
def uEX (rd : Nat) (msg dst : List Int) (n : Int) : Nat → Lp := fun b =>
 match b with
 | 0 => .inv (liEX0 rd (firstL msg dst n) (domL dst) n)
 | 2 => .inv (liEX2 rd)
 | _ => .un 0
end Go.Sx
namespace Go.Sx
open Go Go.Proofs
set_option maxRecDepth 100000
theorem vc_ex (msg dst : List Int) (l c l2 c2 : Nat) (n : Int) (K : SV → Mem → Prop) : (execF cxEX (uEX 17 msg dst n) Tryz.f47 64 [.slice 9 (.lit 0) (.sym l) (.sym c), .slice 17 (.lit 0) (.sym l2) (.sym c2), .int .i64 (.sym n)] (memL [(2,
 ⟨true, .ints .u32 kL⟩), (9, ⟨true, .ints .u8 msg⟩), (17, ⟨true, .ints .u8 dst⟩)]) K) = (∀ G : List Int, G = List.replicate 64 (0 : Int) → ∀ x1, x1 = IntKind.wrap IntKind.i64 (n + 32) → ∀ x2, x2 = IntKind.wrap IntKind.i64 (x1 - 1) → ∀ j, j
 = IntKind.wrap IntKind.i64 (Int.tdiv x2 (32 : Int)) → (decide (j > 255) = true → K (.tup [.val (.slice none 0 0), .iface 126 (.ptr 633 (.lit 0))]) (memL [(2, ⟨true, .ints .u32 kL⟩), (9, ⟨true, .ints .u8 msg⟩), (17, ⟨true, .ints .u8 dst⟩),
 (529, ⟨false, .segs [.cells [.int .u32 (.sym 1779033703), .int .u32 (.sym 3144134277), .int .u32 (.sym 1013904242), .int .u32 (.sym 2773480762), .int .u32 (.sym 1359893119), .int .u32 (.sym 2600822924), .int .u32 (.sym 528734635), .int
 .u32 (.sym 1541459225)], .ints .u8 64 G, .cells [.int .i64 (.sym 0), .int .u64 (.sym 0), .bool (.lit false)]]⟩), (633, ⟨false, .cells [.val (.string ⟨⟨[105, 110, 118, 97, 108, 105, 100, 32, 108, 101, 110, 73, 110, 66, 121, 116, 101,
 115]⟩⟩)]⟩)])) ∧ (decide (j > 255) = false → ∀ J : Int, J = ((l2 : Nat) : Int) → (decide (J > 255) = true → K (.tup [.val (.slice none 0 0), .iface 126 (.ptr 657 (.lit 0))]) (memL [(2, ⟨true, .ints .u32 kL⟩), (9, ⟨true, .ints .u8 msg⟩), (17,
 ⟨true, .ints .u8 dst⟩), (529, ⟨false, .segs [.cells [.int .u32 (.sym 1779033703), .int .u32 (.sym 3144134277), .int .u32 (.sym 1013904242), .int .u32 (.sym 2773480762), .int .u32 (.sym 1359893119), .int .u32 (.sym 2600822924), .int .u32
 (.sym 528734635), .int .u32 (.sym 1541459225)], .ints .u8 64 G, .cells [.int .i64 (.sym 0), .int .u64 (.sym 0), .bool (.lit false)]]⟩), (657, ⟨false, .cells [.val (.string ⟨⟨[105, 110, 118, 97, 108, 105, 100, 32, 100, 111, 109, 97, 105,
 110, 32, 115, 105, 122, 101, 32, 40, 62, 50, 53, 53, 32, 98, 121, 116, 101, 115, 41]⟩⟩)]⟩)])) ∧ (decide (J > 255) = false → ∀ x5 : Int, x5 = ((l2 : Nat) : Int) → ∀ f, f = IntKind.wrap IntKind.u8 x5 → ∀ ax : List Int, ax = G → ((0 : Int) ≤
 (64 : Int) ∧ (64 : Int) ≤ (140737488355328 : Int) ∧ (64 : Int) ≤ (140737488355328 : Int)) ∧ ((64 : Nat) ≤ (64 : Nat) ∧ ∃ L : List Int, (kL = kL ∧ Abs L (S8.mk (1779033703 : Int) (3144134277 : Int) (1013904242 : Int) (2773480762 : Int)
 (1359893119 : Int) (2600822924 : Int) (528734635 : Int) (1541459225 : Int)) ax (0 : Int) (0 : Int) ∧ Bytes (List.take 64 (List.drop 0 (List.replicate 64 (0 : Int)))) ∧ (64 : Nat) = (64 : Nat) ∧ (64 : Nat) ≤ (64 : Nat) ∧ (64 : Nat) ≤ (65536
 : Nat) ∧ L.length < 1099511627776) ∧ ∀ (o : S8) (ay : List Int) (az a0 : Int), Abs (L ++ List.take 64 (List.drop 0 (List.replicate 64 (0 : Int)))) o ay az a0 → ∀ a1 : List Int, a1 = ay → (0 + l * 1 ≤ msg.length ∧ ∃ M : List Int, (kL = kL ∧
 Abs M o a1 az a0 ∧ Bytes (List.take (l * 1) (List.drop 0 msg)) ∧ List.length (List.take (l * 1) (List.drop 0 msg)) = l ∧ l ≤ c ∧ l ≤ 65536 ∧ M.length <
 1099511627776) ∧ ∀ (p : S8) (a2 : List Int) (a3 a4 : Int), Abs (M ++ List.take (l * 1) (List.drop 0 msg)) p a2 a3 a4 → ∀ a5 : List Int, a5 = a2 → ∀ a6, a6 = shrv .i64 n 8 → ∀ D, D = IntKind.wrap IntKind.u8 a6 → ∀ E, E = IntKind.wrap
 IntKind.u8 n → (3 ≤ List.length [D, E, (0 : Int)] ∧ ∃ N : List Int, (kL = kL ∧ Abs N p a5 a3 a4 ∧ Bytes (List.take 3 (List.drop 0 [D, E, (0 : Int)])) ∧
 List.length (List.take 3 (List.drop 0 [D, E, (0 : Int)])) = 3 ∧ (3 : Nat) ≤ (3 : Nat) ∧ (3 : Nat) ≤ (65536 : Nat) ∧ N.length < 1099511627776) ∧ ∀ (q : S8) (a7 : List Int) (a8 a9 : Int), Abs (N ++ List.take 3 (List.drop 0 [D, E, (0 :
 Int)])) q a7 a8 a9 → ∀ ba : List Int, ba = a7 → (0 + l2 * 1 ≤ dst.length ∧ ∃ O : List Int, (kL = kL ∧ Abs O q ba a8 a9 ∧ Bytes (List.take (l2 * 1) (List.drop 0
 dst)) ∧ List.length (List.take (l2 * 1) (List.drop 0 dst)) = l2 ∧ l2 ≤ c2 ∧ l2 ≤ 65536 ∧ O.length < 1099511627776) ∧ ∀ (r : S8) (bb : List Int) (bc bd : Int), Abs (O ++ List.take (l2 * 1) (List.drop 0 dst)) r bb bc bd → ∀ be : List Int, be
 = bb → (1 ≤ List.length [f] ∧ ∃ Q : List Int, (kL = kL ∧ Abs Q r be bc bd ∧ Bytes (List.take 1 (List.drop 0 [f])) ∧ List.length (List.take 1 (List.drop 0 [f])) =
 1 ∧ (1 : Nat) ≤ (1 : Nat) ∧ (1 : Nat) ≤ (65536 : Nat) ∧ Q.length < 1099511627776) ∧ ∀ (s : S8) (bf : List Int) (bg bh : Int), Abs (Q ++ List.take 1 (List.drop 0 [f])) s bf bg bh → ∀ R : List Int, R = bf → ∃ S : List Int, (kL = kL ∧ Abs S
 s R bg bh ∧ S.length < 549755813888) ∧ ∀ (T : List Int) (k : Nat), List.take 32 T = sha S ∧ T.length = k ∧ 32 ≤ k → ∀ g : List Int, g = T → ∀ bi : List Int, bi =
 R → (32 ≤ g.length ∧ ∃ V : List Int, (kL = kL ∧ Abs V (S8.mk (1779033703 : Int) (3144134277 : Int) (1013904242 : Int) (2773480762 : Int) (1359893119 : Int) (2600822924 : Int) (528734635 : Int) (1541459225 : Int)) bi (0 : Int) (0 : Int) ∧
 Bytes (List.take 32 (List.drop 0 g)) ∧ List.length (List.take 32 (List.drop 0 g)) = 32 ∧ 32 ≤ k ∧ (32 : Nat) ≤ (65536 : Nat) ∧ V.length < 1099511627776) ∧ ∀ (t : S8) (bj : List Int) (bk bl : Int), Abs (V ++ List.take 32 (List.drop 0 g)) t
 bj bk bl → ∀ bm : List Int, bm = bj → ((1 : Nat) ≤ (1 : Nat) ∧ ∃ X : List Int, (kL = kL ∧ Abs X t bm bk bl ∧ Bytes (List.take 1 (List.drop 0 [(1 : Int)])) ∧ (1 :
 Nat) = (1 : Nat) ∧ (1 : Nat) ≤ (1 : Nat) ∧ (1 : Nat) ≤ (65536 : Nat) ∧ X.length < 1099511627776) ∧ ∀ (u : S8) (bn : List Int) (bo bp : Int), Abs (X ++ List.take 1 (List.drop 0 [(1 : Int)])) u bn bo bp → ∀ bq : List Int, bq = bn → (0 + l2 *
 1 ≤ dst.length ∧ ∃ Y : List Int, (kL = kL ∧ Abs Y u bq bo bp ∧ Bytes (List.take (l2 * 1) (List.drop 0 dst)) ∧ List.length (List.take (l2 * 1) (List.drop 0 dst))
 = l2 ∧ l2 ≤ c2 ∧ l2 ≤ 65536 ∧ Y.length < 1099511627776) ∧ ∀ (v : S8) (br : List Int) (bs bt : Int), Abs (Y ++ List.take (l2 * 1) (List.drop 0 dst)) v br bs bt → ∀ bu : List Int, bu = br → (1 ≤ List.length [f] ∧ ∃ Z : List Int, (kL = kL ∧
 Abs Z v bu bs bt ∧ Bytes (List.take 1 (List.drop 0 [f])) ∧ List.length (List.take 1 (List.drop 0 [f])) = 1 ∧ (1 : Nat) ≤ (1 : Nat) ∧ (1 : Nat) ≤ (65536 : Nat) ∧
 Z.length < 1099511627776) ∧ ∀ (h : S8) (bv : List Int) (aa ab : Int), Abs (Z ++ List.take 1 (List.drop 0 [f])) h bv aa ab → ∀ ac : List Int, ac = bv → ∃ ad : List Int, (kL = kL ∧ Abs ad (S8.mk (S8.a h) (S8.b h) (S8.c h) (S8.d h) (S8.e h)
 (S8.f h) (S8.g h) (S8.h h)) ac aa ab ∧ ad.length < 549755813888) ∧ ∀ (ae : List Int) (af : Nat), List.take 32 ae = sha ad ∧ ae.length = af ∧ 32 ≤ af → ∀ H : List Int, H = ae → (0 ≤ n ∧ n * 1 ≤ 140737488355328 ∧ n ≤ 140737488355328) ∧ ((0 :
 Int) ≤ (32 : Int) ∧ 32 ≤ ((Int.toNat n : Nat) : Int)) ∧ (32 ≤ H.length ∧ 32 ≤ List.length (List.replicate (Int.toNat n * 1) (0 : Int))) ∧ ((∃ e : ExI, (1 ≤ ExI.j e ∧ 32 * ((ExI.j e : Nat) : Int) < n + 32 ∧ Rw (ExI.b e) (bI (firstL msg dst
 n) (domL dst) (ExI.j e)) (32 : Nat) (ExI.bc e) ∧ ((List.length (ExI.res e) : Nat) : Int) = n ∧ List.take (32 * ExI.j e) (ExI.res e) = List.take (Int.toNat n) (outN (firstL msg dst n) (domL dst) (ExI.j e)) ∧ List.length (ExI.x e) = 64) ∧
 ((l2 = l2 ∧ c2 = c2) ∧ n = n ∧ j = j ∧ f = f ∧ k = k ∧ (Int.toNat n = Int.toNat n ∧ Int.toNat n = Int.toNat n) ∧ af = ExI.bc e ∧ 2 = ((ExI.j e : Nat) : Int) + 1) ∧ kL = kL ∧ dst = dst ∧ g = g ∧ ((S8.a h = S8.a (ExI.H e) ∧ S8.b h = S8.b
 (ExI.H e) ∧ S8.c h = S8.c (ExI.H e) ∧ S8.d h = S8.d (ExI.H e) ∧ S8.e h = S8.e (ExI.H e) ∧ S8.f h = S8.f (ExI.H e) ∧ S8.g h = S8.g (ExI.H e) ∧ S8.h h = S8.h (ExI.H e)) ∧ ac = ExI.x e ∧ aa = ExI.nx e ∧ ab = ExI.len e) ∧ H = ExI.b e ∧ splice
 (List.replicate (Int.toNat n * 1) (0 : Int)) (0 : Nat) (List.take 32 (List.drop 0 H)) = ExI.res e) ∧ ∀ a : ExI, 1 ≤ ExI.j a ∧ 32 * ((ExI.j a : Nat) : Int) < n + 32 ∧ Rw (ExI.b a) (bI (firstL msg dst n) (domL dst) (ExI.j a)) (32 : Nat)
 (ExI.bc a) ∧ ((List.length (ExI.res a) : Nat) : Int) = n ∧ List.take (32 * ExI.j a) (ExI.res a) = List.take (Int.toNat n) (outN (firstL msg dst n) (domL dst) (ExI.j a)) ∧ List.length (ExI.x a) = 64 → (decide (((ExI.j a : Nat) : Int) + 1 ≤
 j) = true → ∀ C : List Int, C = ExI.x a → ((0 : Int) ≤ (32 : Int) ∧ (32 : Int) ≤ (140737488355328 : Int) ∧ (32 : Int) ≤ (140737488355328 : Int)) ∧ ((∃ A : Prod Nat (List Int), (List.length (Prod.snd A) = 32 ∧ List.take (Prod.fst A)
 (Prod.snd A) = List.take (Prod.fst A) (xorL g (ExI.b a)) ∧ Prod.fst A ≤ 32) ∧ ((l2 = l2 ∧ c2 = c2) ∧ n = n ∧ j = j ∧ f = f ∧ k = k ∧ ExI.bc a = ExI.bc a ∧ (Int.toNat n = Int.toNat n ∧ Int.toNat n = Int.toNat n) ∧ ((ExI.j a : Nat) : Int) +
 1 = ((ExI.j a : Nat) : Int) + 1 ∧ 0 = ((Prod.fst A : Nat) : Int)) ∧ kL = kL ∧ dst = dst ∧ (((1779033703 : Int) = (1779033703 : Int) ∧ (3144134277 : Int) = (3144134277 : Int) ∧ (1013904242 : Int) = (1013904242 : Int) ∧ (2773480762 : Int) =
 (2773480762 : Int) ∧ (1359893119 : Int) = (1359893119 : Int) ∧ (2600822924 : Int) = (2600822924 : Int) ∧ (528734635 : Int) = (528734635 : Int) ∧ (1541459225 : Int) = (1541459225 : Int)) ∧ C = C ∧ (0 : Int) = (0 : Int) ∧ (0 : Int) = (0 :
 Int)) ∧ g = g ∧ ExI.res a = ExI.res a ∧ ExI.b a = ExI.b a ∧ List.replicate 32 (0 : Int) = Prod.snd A) ∧ ∀ b : Prod Nat (List Int), List.length (Prod.snd b) = 32 ∧ List.take (Prod.fst b) (Prod.snd b) = List.take (Prod.fst b) (xorL g (ExI.b
 a)) ∧ Prod.fst b ≤ 32 → (decide (((Prod.fst b : Nat) : Int) < 32) = true → (0 ≤ ((Prod.fst b : Nat) : Int) ∧ ((Prod.fst b : Nat) : Int) < 32) ∧ (Int.toNat ((Prod.fst b : Nat) : Int) * 1 + 1 ≤ g.length ∧ ∀ bw : Int, bw = List.getD g
 (Int.toNat ((Prod.fst b : Nat) : Int) * 1) (0 : Int) → (0 ≤ ((Prod.fst b : Nat) : Int) ∧ ((Prod.fst b : Nat) : Int) < 32) ∧ (Int.toNat ((Prod.fst b : Nat) : Int) * 1 + 1 ≤ List.length (ExI.b a) ∧ ∀ bx : Int, bx = List.getD (ExI.b a)
 (Int.toNat ((Prod.fst b : Nat) : Int) * 1) (0 : Int) → ∀ bz, bz = bxor .u8 bw bx → (0 ≤ ((Prod.fst b : Nat) : Int) ∧ ((Prod.fst b : Nat) : Int) < 32) ∧ (Int.toNat ((Prod.fst b : Nat) : Int) * 1 < List.length (Prod.snd b) ∧ ∀ b0, b0 =
 IntKind.wrap IntKind.i64 (((Prod.fst b : Nat) : Int) + 1) → ∃ z : Prod Nat (List Int), (List.length (Prod.snd z) = 32 ∧ List.take (Prod.fst z) (Prod.snd z) = List.take (Prod.fst z) (xorL g (ExI.b a)) ∧ Prod.fst z ≤ 32) ∧ (((l2 = l2 ∧ c2 =
 c2) ∧ n = n ∧ j = j ∧ f = f ∧ k = k ∧ ExI.bc a = ExI.bc a ∧ (Int.toNat n = Int.toNat n ∧ Int.toNat n = Int.toNat n) ∧ ((ExI.j a : Nat) : Int) + 1 = ((ExI.j a : Nat) : Int) + 1 ∧ b0 = ((Prod.fst z : Nat) : Int)) ∧ kL = kL ∧ dst = dst ∧
 (((1779033703 : Int) = (1779033703 : Int) ∧ (3144134277 : Int) = (3144134277 : Int) ∧ (1013904242 : Int) = (1013904242 : Int) ∧ (2773480762 : Int) = (2773480762 : Int) ∧ (1359893119 : Int) = (1359893119 : Int) ∧ (2600822924 : Int) =
 (2600822924 : Int) ∧ (528734635 : Int) = (528734635 : Int) ∧ (1541459225 : Int) = (1541459225 : Int)) ∧ C = C ∧ (0 : Int) = (0 : Int) ∧ (0 : Int) = (0 : Int)) ∧ g = g ∧ ExI.res a = ExI.res a ∧ ExI.b a = ExI.b a ∧ List.set (Prod.snd b)
 (Int.toNat ((Prod.fst b : Nat) : Int) * 1) bz = Prod.snd z) ∧ 32 - Prod.fst z < 32 - Prod.fst b)))) ∧ (decide (((Prod.fst b : Nat) : Int) < 32) = false → (32 ≤ List.length (Prod.snd b) ∧ ∃ ag : List Int, (kL = kL ∧ Abs ag (S8.mk
 (1779033703 : Int) (3144134277 : Int) (1013904242 : Int) (2773480762 : Int) (1359893119 : Int) (2600822924 : Int) (528734635 : Int) (1541459225 : Int)) C (0 : Int) (0 : Int) ∧ Bytes (List.take 32 (List.drop 0 (Prod.snd b))) ∧ List.length
 (List.take 32 (List.drop 0 (Prod.snd b))) = 32 ∧ (32 : Nat) ≤ (32 : Nat) ∧ (32 : Nat) ≤ (65536 : Nat) ∧ ag.length < 1099511627776) ∧ ∀ (w : S8) (b1 : List Int) (b2 b3 : Int), Abs (ag ++ List.take 32 (List.drop 0 (Prod.snd b))) w b1 b2 b3 →
 ∀ b4 : List Int, b4 = b1 → ∀ F, F = IntKind.wrap IntKind.u8 (((ExI.j a : Nat) : Int) + 1) → (1 ≤ List.length [F] ∧ ∃ ah : List Int, (kL = kL ∧ Abs ah w b4 b2 b3
 ∧ Bytes (List.take 1 (List.drop 0 [F])) ∧ List.length (List.take 1 (List.drop 0 [F])) = 1 ∧ (1 : Nat) ≤ (1 : Nat) ∧ (1 : Nat) ≤ (65536 : Nat) ∧ ah.length < 1099511627776) ∧ ∀ (x : S8) (b5 : List Int) (b6 b7 : Int), Abs (ah ++ List.take 1
 (List.drop 0 [F])) x b5 b6 b7 → ∀ b8 : List Int, b8 = b5 → (0 + l2 * 1 ≤ dst.length ∧ ∃ ai : List Int, (kL = kL ∧ Abs ai x b8 b6 b7 ∧ Bytes (List.take (l2 * 1)
 (List.drop 0 dst)) ∧ List.length (List.take (l2 * 1) (List.drop 0 dst)) = l2 ∧ l2 ≤ c2 ∧ l2 ≤ 65536 ∧ ai.length < 1099511627776) ∧ ∀ (y : S8) (b9 : List Int) (ca cb : Int), Abs (ai ++ List.take (l2 * 1) (List.drop 0 dst)) y b9 ca cb → ∀ cc
 : List Int, cc = b9 → (1 ≤ List.length [f] ∧ ∃ aj : List Int, (kL = kL ∧ Abs aj y cc ca cb ∧ Bytes (List.take 1 (List.drop 0 [f])) ∧ List.length (List.take 1
 (List.drop 0 [f])) = 1 ∧ (1 : Nat) ≤ (1 : Nat) ∧ (1 : Nat) ≤ (65536 : Nat) ∧ aj.length < 1099511627776) ∧ ∀ (i : S8) (cd : List Int) (ak al : Int), Abs (aj ++ List.take 1 (List.drop 0 [f])) i cd ak al → ∀ am : List Int, am = cd → ∃ an :
 List Int, (kL = kL ∧ Abs an i am ak al ∧ an.length < 549755813888) ∧ ∀ (ao : List Int) (ap : Nat), List.take 32 ao = sha an ∧ ao.length = ap ∧ 32 ≤ ap → ∀ I :
 List Int, I = ao → ∀ ce, ce = IntKind.wrap IntKind.i64 (((ExI.j a : Nat) : Int) + 1 - 1) → ∀ m, m = IntKind.wrap IntKind.i64 (32 * ce) → ∀ aq, aq = IntKind.wrap IntKind.i64 (32 * (((ExI.j a : Nat) : Int) + 1)) → ∀ ar : Int, ar =
 ((Int.toNat n : Nat) : Int) → ∀ B : Int, B = (if ar < aq then ar else aq) → ((0 ≤ B ∧ B ≤ ((Int.toNat n : Nat) : Int)) ∧ 0 ≤ m ∧ m ≤ ((Int.toNat B : Nat) : Int)) ∧ ((0 + Min.min (32 : Nat) (Int.toNat B - Int.toNat m) ≤ I.length ∧ (if
 Int.toNat n = Int.toNat m then (0 : Nat) else Int.toNat m * 1) + Min.min (32 : Nat) (Int.toNat B - Int.toNat m) ≤ List.length (ExI.res a)) ∧ ∀ cf, cf = IntKind.wrap IntKind.i64 (((ExI.j a : Nat) : Int) + 1 + 1) → ∃ d : ExI, (1 ≤ ExI.j d ∧
 32 * ((ExI.j d : Nat) : Int) < n + 32 ∧ Rw (ExI.b d) (bI (firstL msg dst n) (domL dst) (ExI.j d)) (32 : Nat) (ExI.bc d) ∧ ((List.length (ExI.res d) : Nat) : Int) = n ∧ List.take (32 * ExI.j d) (ExI.res d) = List.take (Int.toNat n) (outN
 (firstL msg dst n) (domL dst) (ExI.j d)) ∧ List.length (ExI.x d) = 64) ∧ (((l2 = l2 ∧ c2 = c2) ∧ n = n ∧ j = j ∧ f = f ∧ k = k ∧ (Int.toNat n = Int.toNat n ∧ Int.toNat n = Int.toNat n) ∧ ap = ExI.bc d ∧ cf = ((ExI.j d : Nat) : Int) + 1) ∧
 kL = kL ∧ dst = dst ∧ g = g ∧ ((S8.a i = S8.a (ExI.H d) ∧ S8.b i = S8.b (ExI.H d) ∧ S8.c i = S8.c (ExI.H d) ∧ S8.d i = S8.d (ExI.H d) ∧ S8.e i = S8.e (ExI.H d) ∧ S8.f i = S8.f (ExI.H d) ∧ S8.g i = S8.g (ExI.H d) ∧ S8.h i = S8.h (ExI.H d))
 ∧ am = ExI.x d ∧ ak = ExI.nx d ∧ al = ExI.len d) ∧ I = ExI.b d ∧ splice (ExI.res a) (if Int.toNat n = Int.toNat m then (0 : Nat) else Int.toNat m * 1) (List.take (Min.min (32 : Nat) (Int.toNat B - Int.toNat m)) (List.drop 0 I)) = ExI.res
 d) ∧ Int.toNat n + 32 - 32 * ExI.j d < Int.toNat n + 32 - 32 * ExI.j a)))))))) ∧ (decide (((ExI.j a : Nat) : Int) + 1 ≤ j) = false → K (.tup [.slice 1569 (.lit 0) (.sym (Int.toNat n)) (.sym (Int.toNat n)), .val .nilIface]) (memL [(2,
 ⟨true, .ints .u32 kL⟩), (17, ⟨true, .ints .u8 dst⟩), (529, ⟨false, .segs [.cells [.int .u32 (.sym (S8.a (ExI.H a))), .int .u32 (.sym (S8.b (ExI.H a))), .int .u32 (.sym (S8.c (ExI.H a))), .int .u32 (.sym (S8.d (ExI.H a))), .int .u32 (.sym
 (S8.e (ExI.H a))), .int .u32 (.sym (S8.f (ExI.H a))), .int .u32 (.sym (S8.g (ExI.H a))), .int .u32 (.sym (S8.h (ExI.H a)))], .ints .u8 64 (ExI.x a), .cells [.int .i64 (.sym (ExI.nx a)), .int .u64 (.sym (ExI.len a)), .bool (.lit false)]]⟩),
 (1177, ⟨false, .ints .u8 g⟩), (1569, ⟨false, .ints .u8 (ExI.res a)⟩), (1641, ⟨false, .ints .u8 (ExI.b a)⟩)]))))))))))))))) := by kernel_rfl
theorem vc_exn (dst : List Int) (l2 c2 : Nat) (n : Int) (K : SV → Mem → Prop) : (execF cxEX (uEX 9 [] dst n) Tryz.f47 64 [.val (.slice none 0 0), .slice 9 (.lit 0) (.sym l2) (.sym c2), .int .i64 (.sym n)] (memL [(2, ⟨true, .ints .u32 kL⟩),
 (9, ⟨true, .ints .u8 dst⟩)]) K) = (∀ E : List Int, E = List.replicate 64 (0 : Int) → ∀ x1, x1 = IntKind.wrap IntKind.i64 (n + 32) → ∀ x2, x2 = IntKind.wrap IntKind.i64 (x1 - 1) → ∀ i, i = IntKind.wrap IntKind.i64 (Int.tdiv x2 (32 : Int)) →
 (decide (i > 255) = true → K (.tup [.val (.slice none 0 0), .iface 126 (.ptr 633 (.lit 0))]) (memL [(2, ⟨true, .ints .u32 kL⟩), (9, ⟨true, .ints .u8 dst⟩), (529, ⟨false, .segs [.cells [.int .u32 (.sym 1779033703), .int .u32 (.sym
 3144134277), .int .u32 (.sym 1013904242), .int .u32 (.sym 2773480762), .int .u32 (.sym 1359893119), .int .u32 (.sym 2600822924), .int .u32 (.sym 528734635), .int .u32 (.sym 1541459225)], .ints .u8 64 E, .cells [.int .i64 (.sym 0), .int
 .u64 (.sym 0), .bool (.lit false)]]⟩), (633, ⟨false, .cells [.val (.string ⟨⟨[105, 110, 118, 97, 108, 105, 100, 32, 108, 101, 110, 73, 110, 66, 121, 116, 101, 115]⟩⟩)]⟩)])) ∧ (decide (i > 255) = false → ∀ I : Int, I = ((l2 : Nat) : Int) →
 (decide (I > 255) = true → K (.tup [.val (.slice none 0 0), .iface 126 (.ptr 657 (.lit 0))]) (memL [(2, ⟨true, .ints .u32 kL⟩), (9, ⟨true, .ints .u8 dst⟩), (529, ⟨false, .segs [.cells [.int .u32 (.sym 1779033703), .int .u32 (.sym
 3144134277), .int .u32 (.sym 1013904242), .int .u32 (.sym 2773480762), .int .u32 (.sym 1359893119), .int .u32 (.sym 2600822924), .int .u32 (.sym 528734635), .int .u32 (.sym 1541459225)], .ints .u8 64 E, .cells [.int .i64 (.sym 0), .int
 .u64 (.sym 0), .bool (.lit false)]]⟩), (657, ⟨false, .cells [.val (.string ⟨⟨[105, 110, 118, 97, 108, 105, 100, 32, 100, 111, 109, 97, 105, 110, 32, 115, 105, 122, 101, 32, 40, 62, 50, 53, 53, 32, 98, 121, 116, 101, 115, 41]⟩⟩)]⟩)])) ∧
 (decide (I > 255) = false → ∀ x5 : Int, x5 = ((l2 : Nat) : Int) → ∀ e, e = IntKind.wrap IntKind.u8 x5 → ∀ av : List Int, av = E → ((0 : Int) ≤ (64 : Int) ∧ (64 : Int) ≤ (140737488355328 : Int) ∧ (64 : Int) ≤ (140737488355328 : Int)) ∧ ((64
 : Nat) ≤ (64 : Nat) ∧ ∃ J : List Int, (kL = kL ∧ Abs J (S8.mk (1779033703 : Int) (3144134277 : Int) (1013904242 : Int) (2773480762 : Int) (1359893119 : Int) (2600822924 : Int) (528734635 : Int) (1541459225 : Int)) av (0 : Int) (0 : Int) ∧
 Bytes (List.take 64 (List.drop 0 (List.replicate 64 (0 : Int)))) ∧ (64 : Nat) = (64 : Nat) ∧ (64 : Nat) ≤ (64 : Nat) ∧ (64 : Nat) ≤ (65536 : Nat) ∧ J.length < 1099511627776) ∧ ∀ (l : S8) (aw : List Int) (ax ay : Int), Abs (J ++ List.take
 64 (List.drop 0 (List.replicate 64 (0 : Int)))) l aw ax ay → ∀ az : List Int, az = aw → ∃ F : List Int, (kL = kL ∧ Abs F l az ax ay ∧ F.length % 64 = 0 ∧
 F.length < 1099511627776) ∧ ∀ (m : S8) (a0 : List Int) (a1 a2 : Int), Abs F m a0 a1 a2 → ∀ a3 : List Int, a3 = a0 → ∀ a4, a4 = shrv .i64 n 8 → ∀ B, B = IntKind.wrap IntKind.u8 a4 → ∀ C, C = IntKind.wrap IntKind.u8 n → (3 ≤ List.length [B,
 C, (0 : Int)] ∧ ∃ L : List Int, (kL = kL ∧ Abs L m a3 a1 a2 ∧ Bytes (List.take 3 (List.drop 0 [B, C, (0 : Int)])) ∧ List.length (List.take 3 (List.drop 0 [B, C,
 (0 : Int)])) = 3 ∧ (3 : Nat) ≤ (3 : Nat) ∧ (3 : Nat) ≤ (65536 : Nat) ∧ L.length < 1099511627776) ∧ ∀ (o : S8) (a5 : List Int) (a6 a7 : Int), Abs (L ++ List.take 3 (List.drop 0 [B, C, (0 : Int)])) o a5 a6 a7 → ∀ a8 : List Int, a8 = a5 → (0
 + l2 * 1 ≤ dst.length ∧ ∃ M : List Int, (kL = kL ∧ Abs M o a8 a6 a7 ∧ Bytes (List.take (l2 * 1) (List.drop 0 dst)) ∧ List.length (List.take (l2 * 1) (List.drop 0
 dst)) = l2 ∧ l2 ≤ c2 ∧ l2 ≤ 65536 ∧ M.length < 1099511627776) ∧ ∀ (p : S8) (a9 : List Int) (ba bb : Int), Abs (M ++ List.take (l2 * 1) (List.drop 0 dst)) p a9 ba bb → ∀ bc : List Int, bc = a9 → (1 ≤ List.length [e] ∧ ∃ N : List Int, (kL =
 kL ∧ Abs N p bc ba bb ∧ Bytes (List.take 1 (List.drop 0 [e])) ∧ List.length (List.take 1 (List.drop 0 [e])) = 1 ∧ (1 : Nat) ≤ (1 : Nat) ∧ (1 : Nat) ≤ (65536 :
 Nat) ∧ N.length < 1099511627776) ∧ ∀ (q : S8) (bd : List Int) (be bf : Int), Abs (N ++ List.take 1 (List.drop 0 [e])) q bd be bf → ∀ O : List Int, O = bd → ∃ Q : List Int, (kL = kL ∧ Abs Q (S8.mk (S8.a q) (S8.b q) (S8.c q) (S8.d q) (S8.e
 q) (S8.f q) (S8.g q) (S8.h q)) O be bf ∧ Q.length < 549755813888) ∧ ∀ (R : List Int) (j : Nat), List.take 32 R = sha Q ∧ R.length = j ∧ 32 ≤ j → ∀ f : List Int, f = R → ∀ bg : List Int, bg = O → (32 ≤ f.length ∧ ∃ S : List Int, (kL = kL ∧
 Abs S (S8.mk (1779033703 : Int) (3144134277 : Int) (1013904242 : Int) (2773480762 : Int) (1359893119 : Int) (2600822924 : Int) (528734635 : Int) (1541459225 : Int)) bg (0 : Int) (0 : Int) ∧ Bytes (List.take 32 (List.drop 0 f)) ∧
 List.length (List.take 32 (List.drop 0 f)) = 32 ∧ 32 ≤ j ∧ (32 : Nat) ≤ (65536 : Nat) ∧ S.length < 1099511627776) ∧ ∀ (r : S8) (bh : List Int) (bi bj : Int), Abs (S ++ List.take 32 (List.drop 0 f)) r bh bi bj → ∀ bk : List Int, bk = bh →
 ((1 : Nat) ≤ (1 : Nat) ∧ ∃ T : List Int, (kL = kL ∧ Abs T r bk bi bj ∧ Bytes (List.take 1 (List.drop 0 [(1 : Int)])) ∧ (1 : Nat) = (1 : Nat) ∧ (1 : Nat) ≤ (1 :
 Nat) ∧ (1 : Nat) ≤ (65536 : Nat) ∧ T.length < 1099511627776) ∧ ∀ (s : S8) (bl : List Int) (bm bn : Int), Abs (T ++ List.take 1 (List.drop 0 [(1 : Int)])) s bl bm bn → ∀ bo : List Int, bo = bl → (0 + l2 * 1 ≤ dst.length ∧ ∃ V : List Int,
 (kL = kL ∧ Abs V s bo bm bn ∧ Bytes (List.take (l2 * 1) (List.drop 0 dst)) ∧ List.length (List.take (l2 * 1) (List.drop 0 dst)) = l2 ∧ l2 ≤ c2 ∧ l2 ≤ 65536 ∧
 V.length < 1099511627776) ∧ ∀ (t : S8) (bp : List Int) (bq br : Int), Abs (V ++ List.take (l2 * 1) (List.drop 0 dst)) t bp bq br → ∀ bs : List Int, bs = bp → (1 ≤ List.length [e] ∧ ∃ X : List Int, (kL = kL ∧ Abs X (S8.mk (S8.a t) (S8.b t)
 (S8.c t) (S8.d t) (S8.e t) (S8.f t) (S8.g t) (S8.h t)) bs bq br ∧ Bytes (List.take 1 (List.drop 0 [e])) ∧ List.length (List.take 1 (List.drop 0 [e])) = 1 ∧ (1 : Nat) ≤ (1 : Nat) ∧ (1 : Nat) ≤ (65536 : Nat) ∧ X.length < 1099511627776) ∧ ∀
 (g : S8) (bt : List Int) (Y Z : Int), Abs (X ++ List.take 1 (List.drop 0 [e])) g bt Y Z → ∀ aa : List Int, aa = bt → ∃ ab : List Int, (kL = kL ∧ Abs ab g aa Y Z
 ∧ ab.length < 549755813888) ∧ ∀ (ac : List Int) (ad : Nat), List.take 32 ac = sha ab ∧ ac.length = ad ∧ 32 ≤ ad → ∀ G : List Int, G = ac → (0 ≤ n ∧ n * 1 ≤ 140737488355328 ∧ n ≤ 140737488355328) ∧ ((0 : Int) ≤ (32 : Int) ∧ 32 ≤ ((Int.toNat
 n : Nat) : Int)) ∧ (32 ≤ G.length ∧ 32 ≤ List.length (List.replicate (Int.toNat n * 1) (0 : Int))) ∧ ((∃ d : ExI, (1 ≤ ExI.j d ∧ 32 * ((ExI.j d : Nat) : Int) < n + 32 ∧ Rw (ExI.b d) (bI (firstL [] dst n) (domL dst) (ExI.j d)) (32 : Nat)
 (ExI.bc d) ∧ ((List.length (ExI.res d) : Nat) : Int) = n ∧ List.take (32 * ExI.j d) (ExI.res d) = List.take (Int.toNat n) (outN (firstL [] dst n) (domL dst) (ExI.j d)) ∧ List.length (ExI.x d) = 64) ∧ ((l2 = l2 ∧ c2 = c2) ∧ n = n ∧ i = i ∧
 e = e ∧ j = j ∧ (Int.toNat n = Int.toNat n ∧ Int.toNat n = Int.toNat n) ∧ ad = ExI.bc d ∧ 2 = ((ExI.j d : Nat) : Int) + 1) ∧ kL = kL ∧ dst = dst ∧ f = f ∧ ((S8.a g = S8.a (ExI.H d) ∧ S8.b g = S8.b (ExI.H d) ∧ S8.c g = S8.c (ExI.H d) ∧ S8.d
 g = S8.d (ExI.H d) ∧ S8.e g = S8.e (ExI.H d) ∧ S8.f g = S8.f (ExI.H d) ∧ S8.g g = S8.g (ExI.H d) ∧ S8.h g = S8.h (ExI.H d)) ∧ aa = ExI.x d ∧ Y = ExI.nx d ∧ Z = ExI.len d) ∧ G = ExI.b d ∧ splice (List.replicate (Int.toNat n * 1) (0 : Int))
 (0 : Nat) (List.take 32 (List.drop 0 G)) = ExI.res d) ∧ ∀ a : ExI, 1 ≤ ExI.j a ∧ 32 * ((ExI.j a : Nat) : Int) < n + 32 ∧ Rw (ExI.b a) (bI (firstL [] dst n) (domL dst) (ExI.j a)) (32 : Nat) (ExI.bc a) ∧ ((List.length (ExI.res a) : Nat) :
 Int) = n ∧ List.take (32 * ExI.j a) (ExI.res a) = List.take (Int.toNat n) (outN (firstL [] dst n) (domL dst) (ExI.j a)) ∧ List.length (ExI.x a) = 64 → (decide (((ExI.j a : Nat) : Int) + 1 ≤ i) = true → ∀ A : List Int, A = ExI.x a → ((0 :
 Int) ≤ (32 : Int) ∧ (32 : Int) ≤ (140737488355328 : Int) ∧ (32 : Int) ≤ (140737488355328 : Int)) ∧ ((∃ y : Prod Nat (List Int), (List.length (Prod.snd y) = 32 ∧ List.take (Prod.fst y) (Prod.snd y) = List.take (Prod.fst y) (xorL f (ExI.b
 a)) ∧ Prod.fst y ≤ 32) ∧ ((l2 = l2 ∧ c2 = c2) ∧ n = n ∧ i = i ∧ e = e ∧ j = j ∧ ExI.bc a = ExI.bc a ∧ (Int.toNat n = Int.toNat n ∧ Int.toNat n = Int.toNat n) ∧ ((ExI.j a : Nat) : Int) + 1 = ((ExI.j a : Nat) : Int) + 1 ∧ 0 = ((Prod.fst y :
 Nat) : Int)) ∧ kL = kL ∧ dst = dst ∧ (((1779033703 : Int) = (1779033703 : Int) ∧ (3144134277 : Int) = (3144134277 : Int) ∧ (1013904242 : Int) = (1013904242 : Int) ∧ (2773480762 : Int) = (2773480762 : Int) ∧ (1359893119 : Int) = (1359893119
 : Int) ∧ (2600822924 : Int) = (2600822924 : Int) ∧ (528734635 : Int) = (528734635 : Int) ∧ (1541459225 : Int) = (1541459225 : Int)) ∧ A = A ∧ (0 : Int) = (0 : Int) ∧ (0 : Int) = (0 : Int)) ∧ f = f ∧ ExI.res a = ExI.res a ∧ ExI.b a = ExI.b
 a ∧ List.replicate 32 (0 : Int) = Prod.snd y) ∧ ∀ b : Prod Nat (List Int), List.length (Prod.snd b) = 32 ∧ List.take (Prod.fst b) (Prod.snd b) = List.take (Prod.fst b) (xorL f (ExI.b a)) ∧ Prod.fst b ≤ 32 → (decide (((Prod.fst b : Nat) :
 Int) < 32) = true → (0 ≤ ((Prod.fst b : Nat) : Int) ∧ ((Prod.fst b : Nat) : Int) < 32) ∧ (Int.toNat ((Prod.fst b : Nat) : Int) * 1 + 1 ≤ f.length ∧ ∀ bu : Int, bu = List.getD f (Int.toNat ((Prod.fst b : Nat) : Int) * 1) (0 : Int) → (0 ≤
 ((Prod.fst b : Nat) : Int) ∧ ((Prod.fst b : Nat) : Int) < 32) ∧ (Int.toNat ((Prod.fst b : Nat) : Int) * 1 + 1 ≤ List.length (ExI.b a) ∧ ∀ bv : Int, bv = List.getD (ExI.b a) (Int.toNat ((Prod.fst b : Nat) : Int) * 1) (0 : Int) → ∀ bw, bw =
 bxor .u8 bu bv → (0 ≤ ((Prod.fst b : Nat) : Int) ∧ ((Prod.fst b : Nat) : Int) < 32) ∧ (Int.toNat ((Prod.fst b : Nat) : Int) * 1 < List.length (Prod.snd b) ∧ ∀ bx, bx = IntKind.wrap IntKind.i64 (((Prod.fst b : Nat) : Int) + 1) → ∃ x : Prod
 Nat (List Int), (List.length (Prod.snd x) = 32 ∧ List.take (Prod.fst x) (Prod.snd x) = List.take (Prod.fst x) (xorL f (ExI.b a)) ∧ Prod.fst x ≤ 32) ∧ (((l2 = l2 ∧ c2 = c2) ∧ n = n ∧ i = i ∧ e = e ∧ j = j ∧ ExI.bc a = ExI.bc a ∧ (Int.toNat
 n = Int.toNat n ∧ Int.toNat n = Int.toNat n) ∧ ((ExI.j a : Nat) : Int) + 1 = ((ExI.j a : Nat) : Int) + 1 ∧ bx = ((Prod.fst x : Nat) : Int)) ∧ kL = kL ∧ dst = dst ∧ (((1779033703 : Int) = (1779033703 : Int) ∧ (3144134277 : Int) =
 (3144134277 : Int) ∧ (1013904242 : Int) = (1013904242 : Int) ∧ (2773480762 : Int) = (2773480762 : Int) ∧ (1359893119 : Int) = (1359893119 : Int) ∧ (2600822924 : Int) = (2600822924 : Int) ∧ (528734635 : Int) = (528734635 : Int) ∧
 (1541459225 : Int) = (1541459225 : Int)) ∧ A = A ∧ (0 : Int) = (0 : Int) ∧ (0 : Int) = (0 : Int)) ∧ f = f ∧ ExI.res a = ExI.res a ∧ ExI.b a = ExI.b a ∧ List.set (Prod.snd b) (Int.toNat ((Prod.fst b : Nat) : Int) * 1) bw = Prod.snd x) ∧ 32
 - Prod.fst x < 32 - Prod.fst b)))) ∧ (decide (((Prod.fst b : Nat) : Int) < 32) = false → (32 ≤ List.length (Prod.snd b) ∧ ∃ ae : List Int, (kL = kL ∧ Abs ae (S8.mk (1779033703 : Int) (3144134277 : Int) (1013904242 : Int) (2773480762 : Int)
 (1359893119 : Int) (2600822924 : Int) (528734635 : Int) (1541459225 : Int)) A (0 : Int) (0 : Int) ∧ Bytes (List.take 32 (List.drop 0 (Prod.snd b))) ∧ List.length (List.take 32 (List.drop 0 (Prod.snd b))) = 32 ∧ (32 : Nat) ≤ (32 : Nat) ∧
 (32 : Nat) ≤ (65536 : Nat) ∧ ae.length < 1099511627776) ∧ ∀ (u : S8) (bz : List Int) (b0 b1 : Int), Abs (ae ++ List.take 32 (List.drop 0 (Prod.snd b))) u bz b0 b1 → ∀ b2 : List Int, b2 = bz → ∀ D, D = IntKind.wrap IntKind.u8 (((ExI.j a :
 Nat) : Int) + 1) → (1 ≤ List.length [D] ∧ ∃ af : List Int, (kL = kL ∧ Abs af u b2 b0 b1 ∧ Bytes (List.take 1 (List.drop 0 [D])) ∧ List.length (List.take 1
 (List.drop 0 [D])) = 1 ∧ (1 : Nat) ≤ (1 : Nat) ∧ (1 : Nat) ≤ (65536 : Nat) ∧ af.length < 1099511627776) ∧ ∀ (v : S8) (b3 : List Int) (b4 b5 : Int), Abs (af ++ List.take 1 (List.drop 0 [D])) v b3 b4 b5 → ∀ b6 : List Int, b6 = b3 → (0 + l2 *
 1 ≤ dst.length ∧ ∃ ag : List Int, (kL = kL ∧ Abs ag v b6 b4 b5 ∧ Bytes (List.take (l2 * 1) (List.drop 0 dst)) ∧ List.length (List.take (l2 * 1) (List.drop 0
 dst)) = l2 ∧ l2 ≤ c2 ∧ l2 ≤ 65536 ∧ ag.length < 1099511627776) ∧ ∀ (w : S8) (b7 : List Int) (b8 b9 : Int), Abs (ag ++ List.take (l2 * 1) (List.drop 0 dst)) w b7 b8 b9 → ∀ ca : List Int, ca = b7 → (1 ≤ List.length [e] ∧ ∃ ah : List Int, (kL
 = kL ∧ Abs ah w ca b8 b9 ∧ Bytes (List.take 1 (List.drop 0 [e])) ∧ List.length (List.take 1 (List.drop 0 [e])) = 1 ∧ (1 : Nat) ≤ (1 : Nat) ∧ (1 : Nat) ≤ (65536 :
 Nat) ∧ ah.length < 1099511627776) ∧ ∀ (h : S8) (cb : List Int) (ai aj : Int), Abs (ah ++ List.take 1 (List.drop 0 [e])) h cb ai aj → ∀ ak : List Int, ak = cb → ∃ al : List Int, (kL = kL ∧ Abs al (S8.mk (S8.a h) (S8.b h) (S8.c h) (S8.d h)
 (S8.e h) (S8.f h) (S8.g h) (S8.h h)) ak ai aj ∧ al.length < 549755813888) ∧ ∀ (am : List Int) (an : Nat), List.take 32 am = sha al ∧ am.length = an ∧ 32 ≤ an → ∀ H : List Int, H = am → ∀ cc, cc = IntKind.wrap IntKind.i64 (((ExI.j a : Nat)
 : Int) + 1 - 1) → ∀ k, k = IntKind.wrap IntKind.i64 (32 * cc) → ∀ ao, ao = IntKind.wrap IntKind.i64 (32 * (((ExI.j a : Nat) : Int) + 1)) → ∀ ap : Int, ap = ((Int.toNat n : Nat) : Int) → ∀ z : Int, z = (if ap < ao then ap else ao) → ((0 ≤ z
 ∧ z ≤ ((Int.toNat n : Nat) : Int)) ∧ 0 ≤ k ∧ k ≤ ((Int.toNat z : Nat) : Int)) ∧ ((0 + Min.min (32 : Nat) (Int.toNat z - Int.toNat k) ≤ H.length ∧ (if Int.toNat n = Int.toNat k then (0 : Nat) else Int.toNat k * 1) + Min.min (32 : Nat)
 (Int.toNat z - Int.toNat k) ≤ List.length (ExI.res a)) ∧ ∀ cd, cd = IntKind.wrap IntKind.i64 (((ExI.j a : Nat) : Int) + 1 + 1) → ∃ c : ExI, (1 ≤ ExI.j c ∧ 32 * ((ExI.j c : Nat) : Int) < n + 32 ∧ Rw (ExI.b c) (bI (firstL [] dst n) (domL
 dst) (ExI.j c)) (32 : Nat) (ExI.bc c) ∧ ((List.length (ExI.res c) : Nat) : Int) = n ∧ List.take (32 * ExI.j c) (ExI.res c) = List.take (Int.toNat n) (outN (firstL [] dst n) (domL dst) (ExI.j c)) ∧ List.length (ExI.x c) = 64) ∧ (((l2 = l2 ∧
 c2 = c2) ∧ n = n ∧ i = i ∧ e = e ∧ j = j ∧ (Int.toNat n = Int.toNat n ∧ Int.toNat n = Int.toNat n) ∧ an = ExI.bc c ∧ cd = ((ExI.j c : Nat) : Int) + 1) ∧ kL = kL ∧ dst = dst ∧ f = f ∧ ((S8.a h = S8.a (ExI.H c) ∧ S8.b h = S8.b (ExI.H c) ∧
 S8.c h = S8.c (ExI.H c) ∧ S8.d h = S8.d (ExI.H c) ∧ S8.e h = S8.e (ExI.H c) ∧ S8.f h = S8.f (ExI.H c) ∧ S8.g h = S8.g (ExI.H c) ∧ S8.h h = S8.h (ExI.H c)) ∧ ak = ExI.x c ∧ ai = ExI.nx c ∧ aj = ExI.len c) ∧ H = ExI.b c ∧ splice (ExI.res a)
 (if Int.toNat n = Int.toNat k then (0 : Nat) else Int.toNat k * 1) (List.take (Min.min (32 : Nat) (Int.toNat z - Int.toNat k)) (List.drop 0 H)) = ExI.res c) ∧ Int.toNat n + 32 - 32 * ExI.j c < Int.toNat n + 32 - 32 * ExI.j a)))))))) ∧
 (decide (((ExI.j a : Nat) : Int) + 1 ≤ i) = false → K (.tup [.slice 1569 (.lit 0) (.sym (Int.toNat n)) (.sym (Int.toNat n)), .val .nilIface]) (memL [(2, ⟨true, .ints .u32 kL⟩), (9, ⟨true, .ints .u8 dst⟩), (529, ⟨false, .segs [.cells [.int
 .u32 (.sym (S8.a (ExI.H a))), .int .u32 (.sym (S8.b (ExI.H a))), .int .u32 (.sym (S8.c (ExI.H a))), .int .u32 (.sym (S8.d (ExI.H a))), .int .u32 (.sym (S8.e (ExI.H a))), .int .u32 (.sym (S8.f (ExI.H a))), .int .u32 (.sym (S8.g (ExI.H a))),
 .int .u32 (.sym (S8.h (ExI.H a)))], .ints .u8 64 (ExI.x a), .cells [.int .i64 (.sym (ExI.nx a)), .int .u64 (.sym (ExI.len a)), .bool (.lit false)]]⟩), (1177, ⟨false, .ints .u8 f⟩), (1569, ⟨false, .ints .u8 (ExI.res a)⟩), (1641, ⟨false,
 .ints .u8 (ExI.b a)⟩)])))))))))))))) := by kernel_rfl
theorem vc_sb (H : S8) (xs : List Int) (l c : Nat) (K : SV → Mem → Prop) : (execF cxSB (uSB H xs) Tryz.f63 64 [.agg [i32 H.a, i32 H.b, i32 H.c, i32 H.d, i32 H.e, i32 H.f, i32 H.g, i32 H.h], .slice 1 (.lit 0) (.sym l) (.sym c)] (memL [(1,
 ⟨true, .ints .u8 xs⟩)]) K) = ((∃ r : LI.ι (liSB0 xs), (Prod.fst r ≤ 16 ∧ (List.length (Prod.snd r) = 64 ∧ ∀ C : Nat, C < Prod.fst r → List.getD (Prod.snd r) C (0 : Int) = W xs C)) ∧ ((S8.a H = S8.a H ∧ S8.b H = S8.b H ∧ S8.c H = S8.c H ∧
 S8.d H = S8.d H ∧ S8.e H = S8.e H ∧ S8.f H = S8.f H ∧ S8.g H = S8.g H ∧ S8.h H = S8.h H) ∧ (l = l ∧ c = c) ∧ 0 = ((Prod.fst r : Nat) : Int)) ∧ xs = xs ∧ (S8.a H = S8.a H ∧ S8.b H = S8.b H ∧ S8.c H = S8.c H ∧ S8.d H = S8.d H ∧ S8.e H = S8.e
 H ∧ S8.f H = S8.f H ∧ S8.g H = S8.g H ∧ S8.h H = S8.h H) ∧ [(0 : Int), (0 : Int), (0 : Int), (0 : Int), (0 : Int), (0 : Int), (0 : Int), (0 : Int), (0 : Int), (0 : Int), (0 : Int), (0 : Int), (0 : Int), (0 : Int), (0 : Int), (0 : Int), (0
 : Int), (0 : Int), (0 : Int), (0 : Int), (0 : Int), (0 : Int), (0 : Int), (0 : Int), (0 : Int), (0 : Int), (0 : Int), (0 : Int), (0 : Int), (0 : Int), (0 : Int), (0 : Int), (0 : Int), (0 : Int), (0 : Int), (0 : Int), (0 : Int), (0 : Int),
 (0 : Int), (0 : Int), (0 : Int), (0 : Int), (0 : Int), (0 : Int), (0 : Int), (0 : Int), (0 : Int), (0 : Int), (0 : Int), (0 : Int), (0 : Int), (0 : Int), (0 : Int), (0 : Int), (0 : Int), (0 : Int), (0 : Int), (0 : Int), (0 : Int), (0 :
 Int), (0 : Int), (0 : Int), (0 : Int), (0 : Int)] = Prod.snd r) ∧ ∀ k : LI.ι (liSB0 xs), Prod.fst k ≤ 16 ∧ (List.length (Prod.snd k) = 64 ∧ ∀ D : Nat, D < Prod.fst k → List.getD (Prod.snd k) D (0 : Int) = W xs D) → (decide (((Prod.fst k :
 Nat) : Int) < 16) = true → ∀ s, s = IntKind.wrap IntKind.i64 (4 * ((Prod.fst k : Nat) : Int)) → (0 ≤ s ∧ s < ((l : Nat) : Int)) ∧ (Int.toNat s * 1 + 1 ≤ xs.length ∧ ∀ x5 : Int, x5 = List.getD xs (Int.toNat s * 1) (0 : Int) → ∀ x6, x6 =
 IntKind.wrap IntKind.u32 x5 → ∀ x7, x7 = shlv .u32 x6 24 → ∀ x8, x8 = IntKind.wrap IntKind.i64 (4 * ((Prod.fst k : Nat) : Int)) → ∀ t, t = IntKind.wrap IntKind.i64 (x8 + 1) → (0 ≤ t ∧ t < ((l : Nat) : Int)) ∧ (Int.toNat t * 1 + 1 ≤
 xs.length ∧ ∀ ai : Int, ai = List.getD xs (Int.toNat t * 1) (0 : Int) → ∀ aj, aj = IntKind.wrap IntKind.u32 ai → ∀ ak, ak = shlv .u32 aj 16 → ∀ al, al = IntKind.wrap IntKind.u32 (x7 + ak) → ∀ am, am = IntKind.wrap IntKind.i64 (4 *
 ((Prod.fst k : Nat) : Int)) → ∀ u, u = IntKind.wrap IntKind.i64 (am + 2) → (0 ≤ u ∧ u < ((l : Nat) : Int)) ∧ (Int.toNat u * 1 + 1 ≤ xs.length ∧ ∀ an : Int, an = List.getD xs (Int.toNat u * 1) (0 : Int) → ∀ ao, ao = IntKind.wrap IntKind.u32
 an → ∀ ap, ap = shlv .u32 ao 8 → ∀ aq, aq = IntKind.wrap IntKind.u32 (al + ap) → ∀ ar, ar = IntKind.wrap IntKind.i64 (4 * ((Prod.fst k : Nat) : Int)) → ∀ v, v = IntKind.wrap IntKind.i64 (ar + 3) → (0 ≤ v ∧ v < ((l : Nat) : Int)) ∧
 (Int.toNat v * 1 + 1 ≤ xs.length ∧ ∀ au : Int, au = List.getD xs (Int.toNat v * 1) (0 : Int) → ∀ av, av = IntKind.wrap IntKind.u32 au → ∀ aw, aw = IntKind.wrap IntKind.u32 (aq + av) → (0 ≤ ((Prod.fst k : Nat) : Int) ∧ ((Prod.fst k : Nat) :
 Int) < 64) ∧ (Int.toNat ((Prod.fst k : Nat) : Int) * 1 < List.length (Prod.snd k) ∧ ∀ ax, ax = IntKind.wrap IntKind.i64 (((Prod.fst k : Nat) : Int) + 1) → ∃ p : LI.ι (liSB0 xs), (Prod.fst p ≤ 16 ∧ (List.length (Prod.snd p) = 64 ∧ ∀ E :
 Nat, E < Prod.fst p → List.getD (Prod.snd p) E (0 : Int) = W xs E)) ∧ (((S8.a H = S8.a H ∧ S8.b H = S8.b H ∧ S8.c H = S8.c H ∧ S8.d H = S8.d H ∧ S8.e H = S8.e H ∧ S8.f H = S8.f H ∧ S8.g H = S8.g H ∧ S8.h H = S8.h H) ∧ (l = l ∧ c = c) ∧ ax
 = ((Prod.fst p : Nat) : Int)) ∧ xs = xs ∧ (S8.a H = S8.a H ∧ S8.b H = S8.b H ∧ S8.c H = S8.c H ∧ S8.d H = S8.d H ∧ S8.e H = S8.e H ∧ S8.f H = S8.f H ∧ S8.g H = S8.g H ∧ S8.h H = S8.h H) ∧ List.set (Prod.snd k) (Int.toNat ((Prod.fst k :
 Nat) : Int) * 1) aw = Prod.snd p) ∧ 16 - Prod.fst p < 16 - Prod.fst k)))))) ∧ (decide (((Prod.fst k : Nat) : Int) < 16) = false → ((∃ q : LI.ι (liSB2 xs), (16 ≤ Prod.fst q ∧ Prod.fst q ≤ 64 ∧ (List.length (Prod.snd q) = 64 ∧ ∀ F : Nat, F <
 Prod.fst q → List.getD (Prod.snd q) F (0 : Int) = W xs F)) ∧ ((S8.a H = S8.a H ∧ S8.b H = S8.b H ∧ S8.c H = S8.c H ∧ S8.d H = S8.d H ∧ S8.e H = S8.e H ∧ S8.f H = S8.f H ∧ S8.g H = S8.g H ∧ S8.h H = S8.h H) ∧ (l = l ∧ c = c) ∧ 16 =
 ((Prod.fst q : Nat) : Int)) ∧ xs = xs ∧ (S8.a H = S8.a H ∧ S8.b H = S8.b H ∧ S8.c H = S8.c H ∧ S8.d H = S8.d H ∧ S8.e H = S8.e H ∧ S8.f H = S8.f H ∧ S8.g H = S8.g H ∧ S8.h H = S8.h H) ∧ Prod.snd k = Prod.snd q) ∧ ∀ j : LI.ι (liSB2 xs), 16
 ≤ Prod.fst j ∧ Prod.fst j ≤ 64 ∧ (List.length (Prod.snd j) = 64 ∧ ∀ G : Nat, G < Prod.fst j → List.getD (Prod.snd j) G (0 : Int) = W xs G) → (decide (((Prod.fst j : Nat) : Int) < 64) = true → ∀ w, w = IntKind.wrap IntKind.i64 (((Prod.fst j
 : Nat) : Int) - 15) → (0 ≤ w ∧ w < 64) ∧ (Int.toNat w * 1 + 1 ≤ List.length (Prod.snd j) ∧ ∀ A : Int, A = List.getD (Prod.snd j) (Int.toNat w * 1) (0 : Int) → ∀ x, x = IntKind.wrap IntKind.i64 (((Prod.fst j : Nat) : Int) - 2) → (0 ≤ x ∧ x
 < 64) ∧ (Int.toNat x * 1 + 1 ≤ List.length (Prod.snd j) ∧ ∀ B : Int, B = List.getD (Prod.snd j) (Int.toNat x * 1) (0 : Int) → ∀ y, y = IntKind.wrap IntKind.i64 (((Prod.fst j : Nat) : Int) - 16) → (0 ≤ y ∧ y < 64) ∧ (Int.toNat y * 1 + 1 ≤
 List.length (Prod.snd j) ∧ ∀ ay : Int, ay = List.getD (Prod.snd j) (Int.toNat y * 1) (0 : Int) → ∀ z, z = IntKind.wrap IntKind.i64 (((Prod.fst j : Nat) : Int) - 7) → (0 ≤ z ∧ z < 64) ∧ (Int.toNat z * 1 + 1 ≤ List.length (Prod.snd j) ∧ ∀ az
 : Int, az = List.getD (Prod.snd j) (Int.toNat z * 1) (0 : Int) → ∀ a0, a0 = IntKind.wrap IntKind.u32 (ay + az) → (((0 : Int) ≤ (7 : Int) ∧ (7 : Int) ≤ (32 : Int)) ∧ ∀ a1 : Int, a1 = rot A (7 : Nat) → (((0 : Int) ≤ (18 : Int) ∧ (18 : Int) ≤
 (32 : Int)) ∧ ∀ a2 : Int, a2 = rot A (18 : Nat) → ∀ a3, a3 = bxor .u32 a1 a2 → ∀ a4, a4 = shrv .u32 A 3 → ∀ a5, a5 = bxor .u32 a3 a4 → ∀ a6, a6 = IntKind.wrap IntKind.u32 (a0 + a5) → (((0 : Int) ≤ (17 : Int) ∧ (17 : Int) ≤ (32 : Int)) ∧ ∀
 a7 : Int, a7 = rot B (17 : Nat) → (((0 : Int) ≤ (19 : Int) ∧ (19 : Int) ≤ (32 : Int)) ∧ ∀ a8 : Int, a8 = rot B (19 : Nat) → ∀ a9, a9 = bxor .u32 a7 a8 → ∀ ba, ba = shrv .u32 B 10 → ∀ bb, bb = bxor .u32 a9 ba → ∀ bc, bc = IntKind.wrap
 IntKind.u32 (a6 + bb) → (0 ≤ ((Prod.fst j : Nat) : Int) ∧ ((Prod.fst j : Nat) : Int) < 64) ∧ (Int.toNat ((Prod.fst j : Nat) : Int) * 1 < List.length (Prod.snd j) ∧ ∀ bd, bd = IntKind.wrap IntKind.i64 (((Prod.fst j : Nat) : Int) + 1) → ∃ o
 : LI.ι (liSB2 xs), (16 ≤ Prod.fst o ∧ Prod.fst o ≤ 64 ∧ (List.length (Prod.snd o) = 64 ∧ ∀ I : Nat, I < Prod.fst o → List.getD (Prod.snd o) I (0 : Int) = W xs I)) ∧ (((S8.a H = S8.a H ∧ S8.b H = S8.b H ∧ S8.c H = S8.c H ∧ S8.d H = S8.d H ∧
 S8.e H = S8.e H ∧ S8.f H = S8.f H ∧ S8.g H = S8.g H ∧ S8.h H = S8.h H) ∧ (l = l ∧ c = c) ∧ bd = ((Prod.fst o : Nat) : Int)) ∧ xs = xs ∧ (S8.a H = S8.a H ∧ S8.b H = S8.b H ∧ S8.c H = S8.c H ∧ S8.d H = S8.d H ∧ S8.e H = S8.e H ∧ S8.f H =
 S8.f H ∧ S8.g H = S8.g H ∧ S8.h H = S8.h H) ∧ List.set (Prod.snd j) (Int.toNat ((Prod.fst j : Nat) : Int) * 1) bc = Prod.snd o) ∧ 64 - Prod.fst o < 64 - Prod.fst j)))))))))) ∧ (decide (((Prod.fst j : Nat) : Int) < 64) = false → ∀ be, be =
 S8.a H → ∀ bf, bf = S8.b H → ∀ bg, bg = S8.c H → ∀ bh, bh = S8.d H → ∀ bi, bi = S8.e H → ∀ bj, bj = S8.f H → ∀ bk, bk = S8.g H → ∀ bl, bl = S8.h H → ((∃ n : Nat, n ≤ 64 ∧ ((S8.a H = S8.a H ∧ S8.b H = S8.b H ∧ S8.c H = S8.c H ∧ S8.d H =
 S8.d H ∧ S8.e H = S8.e H ∧ S8.f H = S8.f H ∧ S8.g H = S8.g H ∧ S8.h H = S8.h H) ∧ (l = l ∧ c = c) ∧ 0 = ((n : Nat) : Int)) ∧ xs = xs ∧ (S8.a H = S8.a H ∧ S8.b H = S8.b H ∧ S8.c H = S8.c H ∧ S8.d H = S8.d H ∧ S8.e H = S8.e H ∧ S8.f H = S8.f
 H ∧ S8.g H = S8.g H ∧ S8.h H = S8.h H) ∧ Prod.snd j = Prod.snd j ∧ [(1116352408 : Int), (1899447441 : Int), (3049323471 : Int), (3921009573 : Int), (961987163 : Int), (1508970993 : Int), (2453635748 : Int), (2870763221 : Int), (3624381080
 : Int), (310598401 : Int), (607225278 : Int), (1426881987 : Int), (1925078388 : Int), (2162078206 : Int), (2614888103 : Int), (3248222580 : Int), (3835390401 : Int), (4022224774 : Int), (264347078 : Int), (604807628 : Int), (770255983 :
 Int), (1249150122 : Int), (1555081692 : Int), (1996064986 : Int), (2554220882 : Int), (2821834349 : Int), (2952996808 : Int), (3210313671 : Int), (3336571891 : Int), (3584528711 : Int), (113926993 : Int), (338241895 : Int), (666307205 :
 Int), (773529912 : Int), (1294757372 : Int), (1396182291 : Int), (1695183700 : Int), (1986661051 : Int), (2177026350 : Int), (2456956037 : Int), (2730485921 : Int), (2820302411 : Int), (3259730800 : Int), (3345764771 : Int), (3516065817 :
 Int), (3600352804 : Int), (4094571909 : Int), (275423344 : Int), (430227734 : Int), (506948616 : Int), (659060556 : Int), (883997877 : Int), (958139571 : Int), (1322822218 : Int), (1537002063 : Int), (1747873779 : Int), (1955562222 : Int),
 (2024104815 : Int), (2227730452 : Int), (2361852424 : Int), (2428436474 : Int), (2756734187 : Int), (3204031479 : Int), (3329325298 : Int)] = kL ∧ be = S8.a (rounds H xs n) ∧ bf = S8.b (rounds H xs n) ∧ bg = S8.c (rounds H xs n) ∧ bh =
 S8.d (rounds H xs n) ∧ bi = S8.e (rounds H xs n) ∧ bj = S8.f (rounds H xs n) ∧ bk = S8.g (rounds H xs n) ∧ bl = S8.h (rounds H xs n)) ∧ ∀ i : Nat, i ≤ 64 → (decide (((i : Nat) : Int) < 64) = true → (((0 : Int) ≤ (6 : Int) ∧ (6 : Int) ≤ (32
 : Int)) ∧ ∀ bm : Int, bm = rot (S8.e (rounds H xs i)) (6 : Nat) → (((0 : Int) ≤ (11 : Int) ∧ (11 : Int) ≤ (32 : Int)) ∧ ∀ bn : Int, bn = rot (S8.e (rounds H xs i)) (11 : Nat) → ∀ bo, bo = bxor .u32 bm bn → (((0 : Int) ≤ (25 : Int) ∧ (25 :
 Int) ≤ (32 : Int)) ∧ ∀ bp : Int, bp = rot (S8.e (rounds H xs i)) (25 : Nat) → ∀ bq, bq = bxor .u32 bo bp → ∀ br, br = IntKind.wrap IntKind.u32 (S8.h (rounds H xs i) + bq) → ∀ bs, bs = band .u32 (S8.e (rounds H xs i)) (S8.f (rounds H xs i))
 → ∀ bt, bt = bxor .u32 (4294967295 : Int) (S8.e (rounds H xs i)) → ∀ bu, bu = band .u32 bt (S8.g (rounds H xs i)) → ∀ bv, bv = bxor .u32 bs bu → ∀ bw, bw = IntKind.wrap IntKind.u32 (br + bv) → (0 ≤ ((i : Nat) : Int) ∧ ((i : Nat) : Int) <
 64) ∧ (Int.toNat ((i : Nat) : Int) * 1 + 1 ≤ 64 ∧ ∀ bx : Int, bx = List.getD kL (Int.toNat ((i : Nat) : Int) * 1) (0 : Int) → ∀ bz, bz = IntKind.wrap IntKind.u32 (bw + bx) → (0 ≤ ((i : Nat) : Int) ∧ ((i : Nat) : Int) < 64) ∧ (Int.toNat ((i
 : Nat) : Int) * 1 + 1 ≤ List.length (Prod.snd j) ∧ ∀ b0 : Int, b0 = List.getD (Prod.snd j) (Int.toNat ((i : Nat) : Int) * 1) (0 : Int) → ∀ J, J = IntKind.wrap IntKind.u32 (bz + b0) → (((0 : Int) ≤ (2 : Int) ∧ (2 : Int) ≤ (32 : Int)) ∧ ∀ b1
 : Int, b1 = rot (S8.a (rounds H xs i)) (2 : Nat) → (((0 : Int) ≤ (13 : Int) ∧ (13 : Int) ≤ (32 : Int)) ∧ ∀ b2 : Int, b2 = rot (S8.a (rounds H xs i)) (13 : Nat) → ∀ b3, b3 = bxor .u32 b1 b2 → (((0 : Int) ≤ (22 : Int) ∧ (22 : Int) ≤ (32 :
 Int)) ∧ ∀ b4 : Int, b4 = rot (S8.a (rounds H xs i)) (22 : Nat) → ∀ b5, b5 = bxor .u32 b3 b4 → ∀ b6, b6 = band .u32 (S8.a (rounds H xs i)) (S8.b (rounds H xs i)) → ∀ b7, b7 = band .u32 (S8.a (rounds H xs i)) (S8.c (rounds H xs i)) → ∀ b8,
 b8 = bxor .u32 b6 b7 → ∀ b9, b9 = band .u32 (S8.b (rounds H xs i)) (S8.c (rounds H xs i)) → ∀ ca, ca = bxor .u32 b8 b9 → ∀ cb, cb = IntKind.wrap IntKind.u32 (b5 + ca) → ∀ cc, cc = IntKind.wrap IntKind.u32 (J + cb) → ∀ cd, cd = IntKind.wrap
 IntKind.u32 (S8.d (rounds H xs i) + J) → ∀ ce, ce = IntKind.wrap IntKind.i64 (((i : Nat) : Int) + 1) → ∃ m : Nat, m ≤ 64 ∧ (((S8.a H = S8.a H ∧ S8.b H = S8.b H ∧ S8.c H = S8.c H ∧ S8.d H = S8.d H ∧ S8.e H = S8.e H ∧ S8.f H = S8.f H ∧ S8.g
 H = S8.g H ∧ S8.h H = S8.h H) ∧ (l = l ∧ c = c) ∧ ce = ((m : Nat) : Int)) ∧ xs = xs ∧ (S8.a H = S8.a H ∧ S8.b H = S8.b H ∧ S8.c H = S8.c H ∧ S8.d H = S8.d H ∧ S8.e H = S8.e H ∧ S8.f H = S8.f H ∧ S8.g H = S8.g H ∧ S8.h H = S8.h H) ∧
 Prod.snd j = Prod.snd j ∧ kL = kL ∧ cc = S8.a (rounds H xs m) ∧ S8.a (rounds H xs i) = S8.b (rounds H xs m) ∧ S8.b (rounds H xs i) = S8.c (rounds H xs m) ∧ S8.c (rounds H xs i) = S8.d (rounds H xs m) ∧ cd = S8.e (rounds H xs m) ∧ S8.e
 (rounds H xs i) = S8.f (rounds H xs m) ∧ S8.f (rounds H xs i) = S8.g (rounds H xs m) ∧ S8.g (rounds H xs i) = S8.h (rounds H xs m)) ∧ 64 - m < 64 - i))))))))) ∧ (decide (((i : Nat) : Int) < 64) = false → ∀ L, L = IntKind.wrap IntKind.u32
 (S8.a H + S8.a (rounds H xs i)) → ∀ M, M = IntKind.wrap IntKind.u32 (S8.b H + S8.b (rounds H xs i)) → ∀ N, N = IntKind.wrap IntKind.u32 (S8.c H + S8.c (rounds H xs i)) → ∀ O, O = IntKind.wrap IntKind.u32 (S8.d H + S8.d (rounds H xs i)) → ∀
 Q, Q = IntKind.wrap IntKind.u32 (S8.e H + S8.e (rounds H xs i)) → ∀ R, R = IntKind.wrap IntKind.u32 (S8.f H + S8.f (rounds H xs i)) → ∀ S, S = IntKind.wrap IntKind.u32 (S8.g H + S8.g (rounds H xs i)) → ∀ T, T = IntKind.wrap IntKind.u32
 (S8.h H + S8.h (rounds H xs i)) → ∀ V, V = L → ∀ X, X = M → ∀ Y, Y = N → ∀ Z, Z = O → ∀ aa, aa = Q → ∀ ab, ab = R → ∀ ac, ac = S → ∀ ad, ad = T → K (.agg [.int .u32 (.sym V), .int .u32 (.sym X), .int .u32 (.sym Y), .int .u32 (.sym Z), .int
 .u32 (.sym aa), .int .u32 (.sym ab), .int .u32 (.sym ac), .int .u32 (.sym ad)]) (memL [(1, ⟨true, .ints .u8 xs⟩), (513, ⟨false, .cells [.int .u32 (.sym L), .int .u32 (.sym M), .int .u32 (.sym N), .int .u32 (.sym O), .int .u32 (.sym Q),
 .int .u32 (.sym R), .int .u32 (.sym S), .int .u32 (.sym T)]⟩), (521, ⟨false, .cells [.int .u32 (.sym V), .int .u32 (.sym X), .int .u32 (.sym Y), .int .u32 (.sym Z), .int .u32 (.sym aa), .int .u32 (.sym ab), .int .u32 (.sym ac), .int .u32
 (.sym ad)]⟩), (537, ⟨false, .ints .u32 (Prod.snd j)⟩), (617, ⟨false, .ints .u32 kL⟩), (625, ⟨false, .cells [.int .u32 (.sym (S8.a (rounds H xs i))), .int .u32 (.sym (S8.b (rounds H xs i))), .int .u32 (.sym (S8.c (rounds H xs i))), .int
 .u32 (.sym (S8.d (rounds H xs i))), .int .u32 (.sym (S8.e (rounds H xs i))), .int .u32 (.sym (S8.f (rounds H xs i))), .int .u32 (.sym (S8.g (rounds H xs i))), .int .u32 (.sym (S8.h (rounds H xs i)))]⟩)]))))))) := by kernel_rfl
end Go.Sx
namespace Go.Sx
open Go Go.Proofs
set_option maxRecDepth 100000
set_option maxHeartbeats 4000000
theorem sb_walk (H : S8) (xs : List Int) (l c : Nat) (K : SV → Mem → Prop) (hl : 64 ≤ l) (hx : 64 ≤ xs.length) (hb : Bytes xs) (hup : KUp K)
  (hK : ∀ H', H' = comp H xs → K (.agg [i32 H'.a, i32 H'.b, i32 H'.c, i32 H'.d, i32 H'.e, i32 H'.f, i32 H'.g, i32 H'.h]) (memL [(1, ⟨true, .ints .u8 xs⟩)])) :
  execF cxSB (uSB H xs) Tryz.f63 64 [.agg [i32 H.a, i32 H.b, i32 H.c, i32 H.d, i32 H.e, i32 H.f, i32 H.g, i32 H.h], .slice 1 (.lit 0) (.sym l) (.sym c)] (memL [(1, ⟨true, .ints .u8 xs⟩)]) K := by
 rw [vc_sb]
 have tail : ∀ (w : List Int) (i : Nat) v, w.length = 64 → (∀ j, j < i → w.getD j 0 = W xs j) → v = W xs i → i < 64 → (∀ j, j < i + 1 → (w.set i v).getD j 0 = W xs j) := by
  intro w i v hw h hv hi j hj
  by_cases hji : j = i
  ·rw [hji, getD_set_self (by omega), hv]
  ·rw [getD_set_ne (by omega)]; exact h j (by omega)
 have hby := bytes_at hb
 refine ⟨⟨(0, List.replicate 64 0), ⟨by simp, by simp, by simp⟩, ?_⟩, ?_⟩
 ·repeat' apply And.intro
  all_goals first | trivial | rfl | simp
 rintro ⟨i, w⟩ ⟨h1, h2, h3⟩
 simp only at h1 h2 h3
 simp only [Int.toNat_natCast, Nat.mul_one]
 refine ⟨fun hi => ?_, fun hi => ?_⟩
 ·simp only [decide_eq_true_eq] at hi
  rintro x4 hx4
  rw [wrap64 (by omega) (by omega)] at hx4
  refine ⟨by omega, by omega, ?_⟩
  rintro x5 rfl x6 rfl x7 rfl x8 rfl x9 hx9
  rw [wrap64 (x := 4 * (i : Int)) (by omega) (by omega), wrap64 (by omega) (by omega)] at hx9
  refine ⟨by omega, by omega, ?_⟩
  rintro x10 rfl x11 rfl x12 rfl x13 rfl x14 rfl x15 hx15
  rw [wrap64 (x := 4 * (i : Int)) (by omega) (by omega), wrap64 (by omega) (by omega)] at hx15
  refine ⟨by omega, by omega, ?_⟩
  rintro x16 rfl x17 rfl x18 rfl x19 rfl x20 rfl x21 hx21
  rw [wrap64 (x := 4 * (i : Int)) (by omega) (by omega), wrap64 (by omega) (by omega)] at hx21
  refine ⟨by omega, by omega, ?_⟩
  rintro x22 rfl x23 rfl x24 hx24
  have hv : x24 = W xs i := by
   have e0 : xs.getD x4.toNat 0 = at0 xs (4 * i) := by unfold at0; congr 1; omega
   have e1 : xs.getD x9.toNat 0 = at0 xs (4 * i + 1) := by unfold at0; congr 1; omega
   have e2 : xs.getD x15.toNat 0 = at0 xs (4 * i + 2) := by unfold at0; congr 1; omega
   have e3 : xs.getD x21.toNat 0 = at0 xs (4 * i + 3) := by unfold at0; congr 1; omega
   rw [hx24, e0, e1, e2, e3]
   have w := fun n => w32_byte (hby n)
   unfold w32 at w
   rw [w, w, w, w, W_lo _ (by omega)]
   exact be_add (hby _) (hby _) (hby _) (hby _)
  clear hx24
  refine ⟨by omega, by omega, ?_⟩
  rintro x25 hx25
  rw [wrap64 (by omega) (by omega)] at hx25
  refine ⟨(i + 1, w.set i x24), ⟨by simp only; omega, by simp only [List.length_set]; exact h2, tail w i x24 h2 h3 hv (by omega)⟩, ?_, by simp only; omega⟩
  repeat' apply And.intro
  all_goals first | trivial | rfl | omega | (simp only; omega)
 simp only [decide_eq_false_iff_not] at hi
 obtain rfl : i = 16 := by omega
 refine ⟨⟨(16, w), ⟨by simp, by simp, h2, h3⟩, ?_⟩, ?_⟩
 ·repeat' apply And.intro
  all_goals first | trivial | rfl | simp
 clear hi h1 h2 h3 w
 rintro ⟨i, w⟩ ⟨h0, h1, h2, h3⟩
 simp only at h0 h1 h2 h3
 simp only [Int.toNat_natCast]
 refine ⟨fun hi => ?_, fun hi => ?_⟩
 ·simp only [decide_eq_true_eq] at hi
  rintro x32 hx32
  rw [wrap64 (by omega) (by omega)] at hx32
  refine ⟨by omega, by omega, ?_⟩
  rintro x33 rfl x34 hx34
  rw [wrap64 (by omega) (by omega)] at hx34
  refine ⟨by omega, by omega, ?_⟩
  rintro x35 rfl x36 hx36
  rw [wrap64 (by omega) (by omega)] at hx36
  refine ⟨by omega, by omega, ?_⟩
  rintro x37 rfl x38 hx38
  rw [wrap64 (by omega) (by omega)] at hx38
  refine ⟨by omega, by omega, ?_⟩
  rintro x39 rfl x40 rfl
  refine ⟨by omega, ?_⟩
  rintro x41 rfl
  refine ⟨by omega, ?_⟩
  rintro x42 rfl x43 rfl x44 rfl x45 rfl x46 rfl
  refine ⟨by omega, ?_⟩
  rintro x47 rfl
  refine ⟨by omega, ?_⟩
  rintro x48 rfl x49 rfl x50 rfl x51 rfl x52 hx52
  have hv : x52 = W xs i := by
   have e1 : w.getD x32.toNat 0 = W xs (i - 15) := by rw [← h3 (i - 15) (by omega)]; congr 1; omega
   have e2 : w.getD x34.toNat 0 = W xs (i - 2) := by rw [← h3 (i - 2) (by omega)]; congr 1; omega
   have e3 : w.getD x36.toNat 0 = W xs (i - 16) := by rw [← h3 (i - 16) (by omega)]; congr 1; omega
   have e4 : w.getD x38.toNat 0 = W xs (i - 7) := by rw [← h3 (i - 7) (by omega)]; congr 1; omega
   rw [hx52, e1, e2, e3, e4, W_hi (t := i) _ (by omega)]
   exact w32_sum2 _ _ _ _
  clear hx52
  refine ⟨by omega, by omega, ?_⟩
  rintro x53 hx53
  rw [wrap64 (by omega) (by omega)] at hx53
  refine ⟨(i + 1, w.set i x52), ⟨by simp only; omega, by simp only; omega, by simp only [List.length_set]; exact h2, tail w i x52 h2 h3 hv (by omega)⟩, ?_, by simp only; omega⟩
  repeat' apply And.intro
  all_goals first | trivial | rfl | omega | (simp only; omega)
 simp only [decide_eq_false_iff_not] at hi
 obtain rfl : i = 64 := by omega
 clear hi h0 h1
 rintro x56 rfl x57 rfl x58 rfl x59 rfl x60 rfl x61 rfl x62 rfl x63 rfl
 refine ⟨⟨(0 : Nat), ⟨by omega, ?_⟩⟩, ?_⟩
 ·repeat' apply And.intro
  all_goals first | trivial | rfl
 intro (i : Nat) (hi64 : i ≤ 64)
 refine ⟨fun hi => ?_, fun hi => ?_⟩
 ·simp only [decide_eq_true_eq] at hi
  refine ⟨by omega, ?_⟩
  rintro x66 rfl
  refine ⟨by omega, ?_⟩
  rintro x67 rfl x68 rfl
  refine ⟨by omega, ?_⟩
  rintro x69 rfl x70 rfl x71 rfl x72 rfl x73 rfl x74 rfl x75 rfl x76 rfl
  refine ⟨by omega, by omega, ?_⟩
  rintro x77 rfl x78 rfl
  refine ⟨by omega, by omega, ?_⟩
  rintro x79 rfl x80 hx80
  rw [h3 i (by omega)] at hx80
  have hx80' : x80 = tOf (rounds H xs i) (at0 kL i) (W xs i) := hx80
  clear hx80
  refine ⟨by omega, ?_⟩
  rintro x81 rfl
  refine ⟨by omega, ?_⟩
  rintro x82 rfl x83 rfl
  refine ⟨by omega, ?_⟩
  rintro x84 rfl x85 rfl x86 rfl x87 rfl x88 rfl x89 rfl x90 rfl x91 rfl x92 hx92 x93 hx93 x94 hx94
  rw [wrap64 (by omega) (by omega)] at hx94
  subst hx80'
  refine ⟨(i + 1 : Nat), by omega, ?_, by omega⟩
  repeat' apply And.intro
  all_goals first | trivial | rfl | exact hx92 | exact hx93 | omega
 simp only [decide_eq_false_iff_not] at hi
 obtain rfl : i = 64 := by omega
 rintro x96 rfl x97 rfl x98 rfl x99 rfl x100 rfl x101 rfl x102 rfl x103 rfl x104 rfl x105 rfl x106 rfl x107 rfl x108 rfl x109 rfl x110 rfl x111 rfl
 exact hup.le (memL_more (k := [_, _, _, _, _]) (l := [_]) [1, 513, 521, 537, 617, 625] rfl (by decide)) (hK _ rfl)
end Go.Sx
namespace Go.Sx
open Go Go.Proofs
set_option maxRecDepth 100000
def gSB : G0 := fun args l K =>
 match args, l with
 | [.agg [.int .u32 (.sym h0), .int .u32 (.sym h1), .int .u32 (.sym h2), .int .u32 (.sym h3), .int .u32 (.sym h4), .int .u32 (.sym h5), .int .u32 (.sym h6), .int .u32 (.sym h7)], .slice 1 (.lit 0) (.sym n) (.sym _)], [(1, ⟨true, .ints .u8 xs⟩)] =>
  (64 ≤ n ∧ 64 ≤ xs.length ∧ Bytes xs) ∧ ∀ H, H = comp ⟨h0, h1, h2, h3, h4, h5, h6, h7⟩ xs → K (.agg [i32 H.a, i32 H.b, i32 H.c, i32 H.d, i32 H.e, i32 H.f, i32 H.g, i32 H.h]) (memL [(1, ⟨true, .ints .u8 xs⟩)])
 | _, _ => False
theorem sb_good : Good gSB := by
 constructor
 ·intro args l K K' hk h
  unfold gSB at h ⊢
  split at h
  ·exact ⟨h.1, fun H hH => hk _ _ (h.2 H hH)⟩
  ·exact h.elim
 ·intro args l K h
  unfold gSB at h
  split at h
  ·exact ⟨_, _, h.2 _ rfl⟩
  ·exact h.elim
theorem sb_ok (args : List SV) (l : List (Nat × Reg)) (K : SV → Mem → Prop) (hup : KUp K) (h : gSB args l K) : ∃ U, execF cxSB U Tryz.f63 64 args (memL l) K := by
 unfold gSB at h
 split at h
 ·rename_i h0 h1 h2 h3 h4 h5 h6 h7 n c xs
  exact ⟨uSB ⟨h0, h1, h2, h3, h4, h5, h6, h7⟩ xs, sb_walk ⟨h0, h1, h2, h3, h4, h5, h6, h7⟩ xs n c K h.1.1 h.1.2.1 h.1.2.2 hup h.2⟩
 ·exact h.elim
def cSB : Ef Tryz.prog := mkE mixed 63 Tryz.func63 (by decide) (by kernel_rfl) [] [.num, .sl 1 true] gSB sb_good sb_ok
end Go.Sx
namespace Go.Sx
open Go Go.Proofs
def cxSS : Cx Tryz.prog := { rds := [], efs := [cSB], eqs := [] }
def liSS0 (xs : List Int) (l : Nat) : LI where
 ι := Nat × List Int × Nat
 keep := [0]
 keepR := [1]
 F := fun i => ⟨[(3, .slice 569 (.lit 0) (.sym (l + 1 + i.1)) (.sym i.2.2))], [(569, ⟨false, .ints .u8 i.2.1⟩)]⟩
 I := fun _ i => Rw i.2.1 (xs ++ 128 :: List.replicate i.1 0) (l + 1 + i.1) i.2.2 ∧ i.1 + 1 ≤ padN l
 μ := fun i => padN l - i.1
 k := 1
def liSS4 (m : List Int) : LI where
 ι := Nat
 keep := [0, 3, 6]
 keepR := [1, 1513]
 F := fun i => ⟨[(7, i64n (64 * i))], [(1577, ⟨false, s8C (hB S0 m i)⟩)]⟩
 I := fun _ i => 64 * i ≤ m.length
 μ := fun i => m.length - 64 * i
def uSS (xs : List Int) (l : Nat) : Nat → Lp := fun n =>
 match n with
 | 0 => .inv (liSS0 xs l)
 | 4 => .inv (liSS4 (xs ++ padding xs.length))
 | _ => .un 9
end Go.Sx
namespace Go.Sx
open Go Go.Proofs
set_option maxRecDepth 100000
theorem vc_ss (xs : List Int) (l c : Nat) (K : SV → Mem → Prop) : (execF cxSS (uSS xs l) Tryz.f35 64 [.slice 1 (.lit 0) (.sym l) (.sym c)] (memL [(1, ⟨true, .ints .u8 xs⟩)]) K) = ((((0 : Nat) ≤ (0 : Nat) ∧ (0 : Nat) ≤ (0 : Nat)) ∧ Nat.le (0
 + l * 1) xs.length ∧ (0 + l) * 1 ≤ 549755813888 ∧ 0 + l ≤ 549755813888) ∧ ∀ (n : Nat) (o : List Int), 0 + l ≤ n ∧ o.length = n * 1 ∧ List.take ((0 + l) * 1) o = List.take 0 (List.drop 0 []) ++ List.take (l * 1) (List.drop 0 xs) → (((l ≤ n
 ∧ 0 + n * 1 ≤ o.length) ∧ Nat.le (1 : Nat) (1 : Nat) ∧ (l + 1) * 1 ≤ 549755813888 ∧ l + 1 ≤ 549755813888) ∧ ∀ (a3 : Nat) (a4 : List Int), l + 1 ≤ a3 ∧ a4.length = a3 * 1 ∧ List.take ((l + 1) * 1) a4 = List.take (l * 1) (List.drop 0 o) ++
 List.take 1 (List.drop 0 [(128 : Int)]) → ((∃ m : Prod Nat (Prod (List Int) Nat), (Rw (Prod.fst (Prod.snd m)) (xs ++ List.cons (128 : Int) (List.replicate (Prod.fst m) (0 : Int))) (l + 1 + Prod.fst m) (Prod.snd (Prod.snd m)) ∧ Prod.fst m +
 1 ≤ padN l) ∧ ((l = l ∧ c = c) ∧ l + 1 = l + 1 + Prod.fst m ∧ a3 = Prod.snd (Prod.snd m)) ∧ xs = xs ∧ a4 = Prod.fst (Prod.snd m)) ∧ ∀ a : Prod Nat (Prod (List Int) Nat), Rw (Prod.fst (Prod.snd a)) (xs ++ List.cons (128 : Int)
 (List.replicate (Prod.fst a) (0 : Int))) (l + 1 + Prod.fst a) (Prod.snd (Prod.snd a)) ∧ Prod.fst a + 1 ≤ padN l → ∀ x6 : Int, x6 = ((l + 1 + Prod.fst a : Nat) : Int) → ∀ x7, x7 = Int.tmod x6 (64 : Int) → ((x7 != 56) = true → (((l + 1 +
 Prod.fst a ≤ Prod.snd (Prod.snd a) ∧ 0 + Prod.snd (Prod.snd a) * 1 ≤ List.length (Prod.fst (Prod.snd a))) ∧ Nat.le (1 : Nat) (1 : Nat) ∧ (l + 1 + Prod.fst a + 1) * 1 ≤ 549755813888 ∧ l + 1 + Prod.fst a + 1 ≤ 549755813888) ∧ ∀ (a6 : Nat)
 (a7 : List Int), l + 1 + Prod.fst a + 1 ≤ a6 ∧ a7.length = a6 * 1 ∧ List.take ((l + 1 + Prod.fst a + 1) * 1) a7 = List.take ((l + 1 + Prod.fst a) * 1) (List.drop 0 (Prod.fst (Prod.snd a))) ++ List.take 1 (List.drop 0 [(0 : Int)]) → ∃ h :
 Prod Nat (Prod (List Int) Nat), (Rw (Prod.fst (Prod.snd h)) (xs ++ List.cons (128 : Int) (List.replicate (Prod.fst h) (0 : Int))) (l + 1 + Prod.fst h) (Prod.snd (Prod.snd h)) ∧ Prod.fst h + 1 ≤ padN l) ∧ (((l = l ∧ c = c) ∧ l + 1 +
 Prod.fst a + 1 = l + 1 + Prod.fst h ∧ a6 = Prod.snd (Prod.snd h)) ∧ xs = xs ∧ a7 = Prod.fst (Prod.snd h)) ∧ padN l - Prod.fst h < padN l - Prod.fst a)) ∧ ((x7 != 56) = false → ∀ bk : Int, bk = ((l : Nat) : Int) → ∀ bl, bl = IntKind.wrap
 IntKind.u64 bk → ∀ i, i = IntKind.wrap IntKind.u64 (bl * 8) → ∀ bm, bm = shrv .u64 i 56 → ∀ a8, a8 = IntKind.wrap IntKind.u8 bm → (((l + 1 + Prod.fst a ≤ Prod.snd (Prod.snd a) ∧ 0 + Prod.snd (Prod.snd a) * 1 ≤ List.length (Prod.fst
 (Prod.snd a))) ∧ Nat.le (1 : Nat) (List.length [a8]) ∧ (l + 1 + Prod.fst a + 1) * 1 ≤ 549755813888 ∧ l + 1 + Prod.fst a + 1 ≤ 549755813888) ∧ ∀ (p : Nat) (q : List Int), l + 1 + Prod.fst a + 1 ≤ p ∧ q.length = p * 1 ∧ List.take ((l + 1 +
 Prod.fst a + 1) * 1) q = List.take ((l + 1 + Prod.fst a) * 1) (List.drop 0 (Prod.fst (Prod.snd a))) ++ List.take 1 (List.drop 0 [a8]) → ∀ bn, bn = shrv .u64 i 48 → ∀ a9, a9 = IntKind.wrap IntKind.u8 bn → (((l + 1 + Prod.fst a + 1 ≤ p ∧ 0 +
 p * 1 ≤ q.length) ∧ Nat.le (1 : Nat) (List.length [a9]) ∧ (l + 1 + Prod.fst a + 1 + 1) * 1 ≤ 549755813888 ∧ l + 1 + Prod.fst a + 1 + 1 ≤ 549755813888) ∧ ∀ (r : Nat) (s : List Int), l + 1 + Prod.fst a + 1 + 1 ≤ r ∧ s.length = r * 1 ∧
 List.take ((l + 1 + Prod.fst a + 1 + 1) * 1) s = List.take ((l + 1 + Prod.fst a + 1) * 1) (List.drop 0 q) ++ List.take 1 (List.drop 0 [a9]) → ∀ bo, bo = shrv .u64 i 40 → ∀ ba, ba = IntKind.wrap IntKind.u8 bo → (((l + 1 + Prod.fst a + 1 + 1
 ≤ r ∧ 0 + r * 1 ≤ s.length) ∧ Nat.le (1 : Nat) (List.length [ba]) ∧ (l + 1 + Prod.fst a + 1 + 1 + 1) * 1 ≤ 549755813888 ∧ l + 1 + Prod.fst a + 1 + 1 + 1 ≤ 549755813888) ∧ ∀ (t : Nat) (u : List Int), l + 1 + Prod.fst a + 1 + 1 + 1 ≤ t ∧
 u.length = t * 1 ∧ List.take ((l + 1 + Prod.fst a + 1 + 1 + 1) * 1) u = List.take ((l + 1 + Prod.fst a + 1 + 1) * 1) (List.drop 0 s) ++ List.take 1 (List.drop 0 [ba]) → ∀ bp, bp = shrv .u64 i 32 → ∀ bb, bb = IntKind.wrap IntKind.u8 bp →
 (((l + 1 + Prod.fst a + 1 + 1 + 1 ≤ t ∧ 0 + t * 1 ≤ u.length) ∧ Nat.le (1 : Nat) (List.length [bb]) ∧ (l + 1 + Prod.fst a + 1 + 1 + 1 + 1) * 1 ≤ 549755813888 ∧ l + 1 + Prod.fst a + 1 + 1 + 1 + 1 ≤ 549755813888) ∧ ∀ (v : Nat) (w : List
 Int), l + 1 + Prod.fst a + 1 + 1 + 1 + 1 ≤ v ∧ w.length = v * 1 ∧ List.take ((l + 1 + Prod.fst a + 1 + 1 + 1 + 1) * 1) w = List.take ((l + 1 + Prod.fst a + 1 + 1 + 1) * 1) (List.drop 0 u) ++ List.take 1 (List.drop 0 [bb]) → ∀ bq, bq = shrv
 .u64 i 24 → ∀ bc, bc = IntKind.wrap IntKind.u8 bq → (((l + 1 + Prod.fst a + 1 + 1 + 1 + 1 ≤ v ∧ 0 + v * 1 ≤ w.length) ∧ Nat.le (1 : Nat) (List.length [bc]) ∧ (l + 1 + Prod.fst a + 1 + 1 + 1 + 1 + 1) * 1 ≤ 549755813888 ∧ l + 1 + Prod.fst a
 + 1 + 1 + 1 + 1 + 1 ≤ 549755813888) ∧ ∀ (x : Nat) (y : List Int), l + 1 + Prod.fst a + 1 + 1 + 1 + 1 + 1 ≤ x ∧ y.length = x * 1 ∧ List.take ((l + 1 + Prod.fst a + 1 + 1 + 1 + 1 + 1) * 1) y = List.take ((l + 1 + Prod.fst a + 1 + 1 + 1 + 1)
 * 1) (List.drop 0 w) ++ List.take 1 (List.drop 0 [bc]) → ∀ br, br = shrv .u64 i 16 → ∀ bd, bd = IntKind.wrap IntKind.u8 br → (((l + 1 + Prod.fst a + 1 + 1 + 1 + 1 + 1 ≤ x ∧ 0 + x * 1 ≤ y.length) ∧ Nat.le (1 : Nat) (List.length [bd]) ∧ (l +
 1 + Prod.fst a + 1 + 1 + 1 + 1 + 1 + 1) * 1 ≤ 549755813888 ∧ l + 1 + Prod.fst a + 1 + 1 + 1 + 1 + 1 + 1 ≤ 549755813888) ∧ ∀ (z : Nat) (A : List Int), l + 1 + Prod.fst a + 1 + 1 + 1 + 1 + 1 + 1 ≤ z ∧ A.length = z * 1 ∧ List.take ((l + 1 +
 Prod.fst a + 1 + 1 + 1 + 1 + 1 + 1) * 1) A = List.take ((l + 1 + Prod.fst a + 1 + 1 + 1 + 1 + 1) * 1) (List.drop 0 y) ++ List.take 1 (List.drop 0 [bd]) → ∀ bs, bs = shrv .u64 i 8 → ∀ be, be = IntKind.wrap IntKind.u8 bs → (((l + 1 +
 Prod.fst a + 1 + 1 + 1 + 1 + 1 + 1 ≤ z ∧ 0 + z * 1 ≤ A.length) ∧ Nat.le (1 : Nat) (List.length [be]) ∧ (l + 1 + Prod.fst a + 1 + 1 + 1 + 1 + 1 + 1 + 1) * 1 ≤ 549755813888 ∧ l + 1 + Prod.fst a + 1 + 1 + 1 + 1 + 1 + 1 + 1 ≤ 549755813888) ∧ ∀
 (B : Nat) (C : List Int), l + 1 + Prod.fst a + 1 + 1 + 1 + 1 + 1 + 1 + 1 ≤ B ∧ C.length = B * 1 ∧ List.take ((l + 1 + Prod.fst a + 1 + 1 + 1 + 1 + 1 + 1 + 1) * 1) C = List.take ((l + 1 + Prod.fst a + 1 + 1 + 1 + 1 + 1 + 1) * 1) (List.drop
 0 A) ++ List.take 1 (List.drop 0 [be]) → ∀ bt, bt = shrv .u64 i 0 → ∀ bf, bf = IntKind.wrap IntKind.u8 bt → (((l + 1 + Prod.fst a + 1 + 1 + 1 + 1 + 1 + 1 + 1 ≤ B ∧ 0 + B * 1 ≤ C.length) ∧ Nat.le (1 : Nat) (List.length [bf]) ∧ (l + 1 +
 Prod.fst a + 1 + 1 + 1 + 1 + 1 + 1 + 1 + 1) * 1 ≤ 549755813888 ∧ l + 1 + Prod.fst a + 1 + 1 + 1 + 1 + 1 + 1 + 1 + 1 ≤ 549755813888) ∧ ∀ (d : Nat) (e : List Int), l + 1 + Prod.fst a + 1 + 1 + 1 + 1 + 1 + 1 + 1 + 1 ≤ d ∧ e.length = d * 1 ∧
 List.take ((l + 1 + Prod.fst a + 1 + 1 + 1 + 1 + 1 + 1 + 1 + 1) * 1) e = List.take ((l + 1 + Prod.fst a + 1 + 1 + 1 + 1 + 1 + 1 + 1) * 1) (List.drop 0 C) ++ List.take 1 (List.drop 0 [bf]) → ((∃ g : Nat, 64 * g ≤ List.length (xs ++ padding
 xs.length) ∧ ((l = l ∧ c = c) ∧ (l + 1 + Prod.fst a + 1 + 1 + 1 + 1 + 1 + 1 + 1 + 1 = l + 1 + Prod.fst a + 1 + 1 + 1 + 1 + 1 + 1 + 1 + 1 ∧ d = d) ∧ 0 = ((64 * g : Nat) : Int)) ∧ xs = xs ∧ e = e ∧ 1779033703 = S8.a (hB S0 (xs ++ padding
 xs.length) g) ∧ 3144134277 = S8.b (hB S0 (xs ++ padding xs.length) g) ∧ 1013904242 = S8.c (hB S0 (xs ++ padding xs.length) g) ∧ 2773480762 = S8.d (hB S0 (xs ++ padding xs.length) g) ∧ 1359893119 = S8.e (hB S0 (xs ++ padding xs.length) g) ∧
 2600822924 = S8.f (hB S0 (xs ++ padding xs.length) g) ∧ 528734635 = S8.g (hB S0 (xs ++ padding xs.length) g) ∧ 1541459225 = S8.h (hB S0 (xs ++ padding xs.length) g)) ∧ ∀ b : Nat, 64 * b ≤ List.length (xs ++ padding xs.length) → ∀ bg : Int,
 bg = ((l + 1 + Prod.fst a + 1 + 1 + 1 + 1 + 1 + 1 + 1 + 1 : Nat) : Int) → (decide (((64 * b : Nat) : Int) < bg) = true → ∀ bu, bu = S8.a (hB S0 (xs ++ padding xs.length) b) → ∀ bv, bv = S8.b (hB S0 (xs ++ padding xs.length) b) → ∀ bw, bw =
 S8.c (hB S0 (xs ++ padding xs.length) b) → ∀ bx, bx = S8.d (hB S0 (xs ++ padding xs.length) b) → ∀ bz, bz = S8.e (hB S0 (xs ++ padding xs.length) b) → ∀ b0, b0 = S8.f (hB S0 (xs ++ padding xs.length) b) → ∀ b1, b1 = S8.g (hB S0 (xs ++
 padding xs.length) b) → ∀ b2, b2 = S8.h (hB S0 (xs ++ padding xs.length) b) → ∀ j, j = IntKind.wrap IntKind.i64 (((64 * b : Nat) : Int) + 64) → ((0 ≤ j ∧ j ≤ ((d : Nat) : Int)) ∧ 0 ≤ ((64 * b : Nat) : Int) ∧ ((64 * b : Nat) : Int) ≤
 ((Int.toNat j : Nat) : Int)) ∧ (if d = Int.toNat ((64 * b : Nat) : Int) then (0 : Nat) else Int.toNat ((64 * b : Nat) : Int) * 1) + (Int.toNat j - Int.toNat ((64 * b : Nat) : Int)) * 1 ≤ e.length ∧ ((64 ≤ Int.toNat j - Int.toNat ((64 * b :
 Nat) : Int) ∧ 64 ≤ List.length (List.take ((Int.toNat j - Int.toNat ((64 * b : Nat) : Int)) * 1) (List.drop (if d = Int.toNat ((64 * b : Nat) : Int) then (0 : Nat) else Int.toNat ((64 * b : Nat) : Int) * 1) e)) ∧ Bytes (List.take
 ((Int.toNat j - Int.toNat ((64 * b : Nat) : Int)) * 1) (List.drop (if d = Int.toNat ((64 * b : Nat) : Int) then (0 : Nat) else Int.toNat ((64 * b : Nat) : Int) * 1) e))) ∧ ∀ k : S8, k = comp (S8.mk bu bv bw bx bz b0 b1 b2) (List.take
 ((Int.toNat j - Int.toNat ((64 * b : Nat) : Int)) * 1) (List.drop (if d = Int.toNat ((64 * b : Nat) : Int) then (0 : Nat) else Int.toNat ((64 * b : Nat) : Int) * 1) e)) → ∀ b3, b3 = IntKind.wrap IntKind.i64 (((64 * b : Nat) : Int) + 64) →
 ∃ f : Nat, 64 * f ≤ List.length (xs ++ padding xs.length) ∧ (((l = l ∧ c = c) ∧ (l + 1 + Prod.fst a + 1 + 1 + 1 + 1 + 1 + 1 + 1 + 1 = l + 1 + Prod.fst a + 1 + 1 + 1 + 1 + 1 + 1 + 1 + 1 ∧ d = d) ∧ b3 = ((64 * f : Nat) : Int)) ∧ xs = xs ∧ e
 = e ∧ S8.a k = S8.a (hB S0 (xs ++ padding xs.length) f) ∧ S8.b k = S8.b (hB S0 (xs ++ padding xs.length) f) ∧ S8.c k = S8.c (hB S0 (xs ++ padding xs.length) f) ∧ S8.d k = S8.d (hB S0 (xs ++ padding xs.length) f) ∧ S8.e k = S8.e (hB S0 (xs
 ++ padding xs.length) f) ∧ S8.f k = S8.f (hB S0 (xs ++ padding xs.length) f) ∧ S8.g k = S8.g (hB S0 (xs ++ padding xs.length) f) ∧ S8.h k = S8.h (hB S0 (xs ++ padding xs.length) f)) ∧ List.length (xs ++ padding xs.length) - 64 * f <
 List.length (xs ++ padding xs.length) - 64 * b)) ∧ (decide (((64 * b : Nat) : Int) < bg) = false → ∀ b4, b4 = shrv .u32 (S8.a (hB S0 (xs ++ padding xs.length) b)) 24 → ∀ D, D = IntKind.wrap IntKind.u8 b4 → ∀ b5, b5 = shrv .u32 (S8.a (hB S0
 (xs ++ padding xs.length) b)) 16 → ∀ E, E = IntKind.wrap IntKind.u8 b5 → ∀ b6, b6 = shrv .u32 (S8.a (hB S0 (xs ++ padding xs.length) b)) 8 → ∀ F, F = IntKind.wrap IntKind.u8 b6 → ∀ G, G = IntKind.wrap IntKind.u8 (S8.a (hB S0 (xs ++ padding
 xs.length) b)) → ((((0 : Nat) ≤ (0 : Nat) ∧ (0 : Nat) ≤ (0 : Nat)) ∧ Nat.le (4 : Nat) (List.length [D, E, F, G]) ∧ (4 : Nat) ≤ (549755813888 : Nat) ∧ (4 : Nat) ≤ (549755813888 : Nat)) ∧ ∀ (H : Nat) (I : List Int), 4 ≤ H ∧ I.length = H * 1
 ∧ List.take 4 I = List.take 0 (List.drop 0 []) ++ List.take 4 (List.drop 0 [D, E, F, G]) → ∀ b7, b7 = shrv .u32 (S8.b (hB S0 (xs ++ padding xs.length) b)) 24 → ∀ J, J = IntKind.wrap IntKind.u8 b7 → ∀ b8, b8 = shrv .u32 (S8.b (hB S0 (xs ++
 padding xs.length) b)) 16 → ∀ L, L = IntKind.wrap IntKind.u8 b8 → ∀ b9, b9 = shrv .u32 (S8.b (hB S0 (xs ++ padding xs.length) b)) 8 → ∀ M, M = IntKind.wrap IntKind.u8 b9 → ∀ N, N = IntKind.wrap IntKind.u8 (S8.b (hB S0 (xs ++ padding
 xs.length) b)) → (((4 ≤ H ∧ 0 + H * 1 ≤ I.length) ∧ Nat.le (4 : Nat) (List.length [J, L, M, N]) ∧ (8 : Nat) ≤ (549755813888 : Nat) ∧ (8 : Nat) ≤ (549755813888 : Nat)) ∧ ∀ (O : Nat) (Q : List Int), 8 ≤ O ∧ Q.length = O * 1 ∧ List.take 8 Q =
 List.take 4 (List.drop 0 I) ++ List.take 4 (List.drop 0 [J, L, M, N]) → ∀ ca, ca = shrv .u32 (S8.c (hB S0 (xs ++ padding xs.length) b)) 24 → ∀ R, R = IntKind.wrap IntKind.u8 ca → ∀ cb, cb = shrv .u32 (S8.c (hB S0 (xs ++ padding xs.length)
 b)) 16 → ∀ S, S = IntKind.wrap IntKind.u8 cb → ∀ cc, cc = shrv .u32 (S8.c (hB S0 (xs ++ padding xs.length) b)) 8 → ∀ T, T = IntKind.wrap IntKind.u8 cc → ∀ V, V = IntKind.wrap IntKind.u8 (S8.c (hB S0 (xs ++ padding xs.length) b)) → (((8 ≤ O
 ∧ 0 + O * 1 ≤ Q.length) ∧ Nat.le (4 : Nat) (List.length [R, S, T, V]) ∧ (12 : Nat) ≤ (549755813888 : Nat) ∧ (12 : Nat) ≤ (549755813888 : Nat)) ∧ ∀ (X : Nat) (Y : List Int), 12 ≤ X ∧ Y.length = X * 1 ∧ List.take 12 Y = List.take 8
 (List.drop 0 Q) ++ List.take 4 (List.drop 0 [R, S, T, V]) → ∀ cd, cd = shrv .u32 (S8.d (hB S0 (xs ++ padding xs.length) b)) 24 → ∀ Z, Z = IntKind.wrap IntKind.u8 cd → ∀ ce, ce = shrv .u32 (S8.d (hB S0 (xs ++ padding xs.length) b)) 16 → ∀
 aa, aa = IntKind.wrap IntKind.u8 ce → ∀ cf, cf = shrv .u32 (S8.d (hB S0 (xs ++ padding xs.length) b)) 8 → ∀ ab, ab = IntKind.wrap IntKind.u8 cf → ∀ ac, ac = IntKind.wrap IntKind.u8 (S8.d (hB S0 (xs ++ padding xs.length) b)) → (((12 ≤ X ∧ 0
 + X * 1 ≤ Y.length) ∧ Nat.le (4 : Nat) (List.length [Z, aa, ab, ac]) ∧ (16 : Nat) ≤ (549755813888 : Nat) ∧ (16 : Nat) ≤ (549755813888 : Nat)) ∧ ∀ (ad : Nat) (ae : List Int), 16 ≤ ad ∧ ae.length = ad * 1 ∧ List.take 16 ae = List.take 12
 (List.drop 0 Y) ++ List.take 4 (List.drop 0 [Z, aa, ab, ac]) → ∀ cg, cg = shrv .u32 (S8.e (hB S0 (xs ++ padding xs.length) b)) 24 → ∀ af, af = IntKind.wrap IntKind.u8 cg → ∀ ch, ch = shrv .u32 (S8.e (hB S0 (xs ++ padding xs.length) b)) 16
 → ∀ ag, ag = IntKind.wrap IntKind.u8 ch → ∀ ci, ci = shrv .u32 (S8.e (hB S0 (xs ++ padding xs.length) b)) 8 → ∀ ah, ah = IntKind.wrap IntKind.u8 ci → ∀ ai, ai = IntKind.wrap IntKind.u8 (S8.e (hB S0 (xs ++ padding xs.length) b)) → (((16 ≤
 ad ∧ 0 + ad * 1 ≤ ae.length) ∧ Nat.le (4 : Nat) (List.length [af, ag, ah, ai]) ∧ (20 : Nat) ≤ (549755813888 : Nat) ∧ (20 : Nat) ≤ (549755813888 : Nat)) ∧ ∀ (aj : Nat) (ak : List Int), 20 ≤ aj ∧ ak.length = aj * 1 ∧ List.take 20 ak =
 List.take 16 (List.drop 0 ae) ++ List.take 4 (List.drop 0 [af, ag, ah, ai]) → ∀ cj, cj = shrv .u32 (S8.f (hB S0 (xs ++ padding xs.length) b)) 24 → ∀ al, al = IntKind.wrap IntKind.u8 cj → ∀ ck, ck = shrv .u32 (S8.f (hB S0 (xs ++ padding
 xs.length) b)) 16 → ∀ am, am = IntKind.wrap IntKind.u8 ck → ∀ cl, cl = shrv .u32 (S8.f (hB S0 (xs ++ padding xs.length) b)) 8 → ∀ an, an = IntKind.wrap IntKind.u8 cl → ∀ ao, ao = IntKind.wrap IntKind.u8 (S8.f (hB S0 (xs ++ padding
 xs.length) b)) → (((20 ≤ aj ∧ 0 + aj * 1 ≤ ak.length) ∧ Nat.le (4 : Nat) (List.length [al, am, an, ao]) ∧ (24 : Nat) ≤ (549755813888 : Nat) ∧ (24 : Nat) ≤ (549755813888 : Nat)) ∧ ∀ (ap : Nat) (aq : List Int), 24 ≤ ap ∧ aq.length = ap * 1 ∧
 List.take 24 aq = List.take 20 (List.drop 0 ak) ++ List.take 4 (List.drop 0 [al, am, an, ao]) → ∀ cm, cm = shrv .u32 (S8.g (hB S0 (xs ++ padding xs.length) b)) 24 → ∀ ar, ar = IntKind.wrap IntKind.u8 cm → ∀ cn, cn = shrv .u32 (S8.g (hB S0
 (xs ++ padding xs.length) b)) 16 → ∀ au, au = IntKind.wrap IntKind.u8 cn → ∀ co, co = shrv .u32 (S8.g (hB S0 (xs ++ padding xs.length) b)) 8 → ∀ av, av = IntKind.wrap IntKind.u8 co → ∀ aw, aw = IntKind.wrap IntKind.u8 (S8.g (hB S0 (xs ++
 padding xs.length) b)) → (((24 ≤ ap ∧ 0 + ap * 1 ≤ aq.length) ∧ Nat.le (4 : Nat) (List.length [ar, au, av, aw]) ∧ (28 : Nat) ≤ (549755813888 : Nat) ∧ (28 : Nat) ≤ (549755813888 : Nat)) ∧ ∀ (ax : Nat) (ay : List Int), 28 ≤ ax ∧ ay.length =
 ax * 1 ∧ List.take 28 ay = List.take 24 (List.drop 0 aq) ++ List.take 4 (List.drop 0 [ar, au, av, aw]) → ∀ cp, cp = shrv .u32 (S8.h (hB S0 (xs ++ padding xs.length) b)) 24 → ∀ az, az = IntKind.wrap IntKind.u8 cp → ∀ cq, cq = shrv .u32
 (S8.h (hB S0 (xs ++ padding xs.length) b)) 16 → ∀ a0, a0 = IntKind.wrap IntKind.u8 cq → ∀ cr, cr = shrv .u32 (S8.h (hB S0 (xs ++ padding xs.length) b)) 8 → ∀ a1, a1 = IntKind.wrap IntKind.u8 cr → ∀ a2, a2 = IntKind.wrap IntKind.u8 (S8.h
 (hB S0 (xs ++ padding xs.length) b)) → (((28 ≤ ax ∧ 0 + ax * 1 ≤ ay.length) ∧ Nat.le (4 : Nat) (List.length [az, a0, a1, a2]) ∧ (32 : Nat) ≤ (549755813888 : Nat) ∧ (32 : Nat) ≤ (549755813888 : Nat)) ∧ ∀ (bh : Nat) (bi : List Int), 32 ≤ bh
 ∧ bi.length = bh * 1 ∧ List.take 32 bi = List.take 28 (List.drop 0 ay) ++ List.take 4 (List.drop 0 [az, a0, a1, a2]) → K (.slice 3409 (.lit 0) (.lit 32) (.sym bh)) (memL [(1, ⟨true, .ints .u8 xs⟩), (1513, ⟨false, .ints .u8 e⟩), (1577,
 ⟨false, .cells [.int .u32 (.sym (S8.a (hB S0 (xs ++ padding xs.length) b))), .int .u32 (.sym (S8.b (hB S0 (xs ++ padding xs.length) b))), .int .u32 (.sym (S8.c (hB S0 (xs ++ padding xs.length) b))), .int .u32 (.sym (S8.d (hB S0 (xs ++
 padding xs.length) b))), .int .u32 (.sym (S8.e (hB S0 (xs ++ padding xs.length) b))), .int .u32 (.sym (S8.f (hB S0 (xs ++ padding xs.length) b))), .int .u32 (.sym (S8.g (hB S0 (xs ++ padding xs.length) b))), .int .u32 (.sym (S8.h (hB S0
 (xs ++ padding xs.length) b)))]⟩), (1833, ⟨false, .cells [.int .u8 (.sym D), .int .u8 (.sym E), .int .u8 (.sym F), .int .u8 (.sym G)]⟩), (2057, ⟨false, .cells [.int .u8 (.sym J), .int .u8 (.sym L), .int .u8 (.sym M), .int .u8 (.sym N)]⟩),
 (2281, ⟨false, .cells [.int .u8 (.sym R), .int .u8 (.sym S), .int .u8 (.sym T), .int .u8 (.sym V)]⟩), (2505, ⟨false, .cells [.int .u8 (.sym Z), .int .u8 (.sym aa), .int .u8 (.sym ab), .int .u8 (.sym ac)]⟩), (2729, ⟨false, .cells [.int .u8
 (.sym af), .int .u8 (.sym ag), .int .u8 (.sym ah), .int .u8 (.sym ai)]⟩), (2953, ⟨false, .cells [.int .u8 (.sym al), .int .u8 (.sym am), .int .u8 (.sym an), .int .u8 (.sym ao)]⟩), (3177, ⟨false, .cells [.int .u8 (.sym ar), .int .u8 (.sym
 au), .int .u8 (.sym av), .int .u8 (.sym aw)]⟩), (3401, ⟨false, .cells [.int .u8 (.sym az), .int .u8 (.sym a0), .int .u8 (.sym a1), .int .u8 (.sym a2)]⟩), (3409, ⟨false, .ints .u8 bi⟩)]))))))))))))))))))))))) := by kernel_rfl
end Go.Sx
namespace Go.Sx
open Go Go.Proofs
set_option maxRecDepth 100000
set_option maxHeartbeats 4000000
theorem shl3 {n : Nat} (h : n < 2 ^ 40) : IntKind.u64.wrap (IntKind.u64.wrap (n : Int) * 8) = shlv .u64 (n : Int) 3 := by
 rw [wrapu64 (x := (n : Int)) (by omega) (by omega)]
 rfl
theorem pad_stop {l j : Nat} (h : j + 1 ≤ padN l) (h2 : (l + 1 + j) % 64 = 56) : j + 1 = padN l := by
 unfold padN at *
 split at h <;> split <;> omega
theorem pad_go {l j : Nat} (h : j + 1 ≤ padN l) (h2 : (l + 1 + j) % 64 ≠ 56) : j + 2 ≤ padN l := by
 unfold padN at *
 split at h <;> split <;> omega
theorem padN_pos (l : Nat) : 1 ≤ padN l ∧ padN l ≤ 64 := by unfold padN; split <;> omega
theorem pad_sum (l : Nat) : (l + padN l + 8) % 64 = 0 := by unfold padN; split <;> omega
theorem ss_walk (xs : List Int) (l c : Nat) (K : SV → Mem → Prop) (hl : xs.length = l) (hbig : l ≤ 2 ^ 38) (hb : Bytes xs) (hup : KUp K)
  (hK : ∀ ys cap, Rw ys (sha xs) 32 cap → K (.slice 3409 (.lit 0) (.lit 32) (.sym cap)) (memL [(1, ⟨true, .ints .u8 xs⟩), (3409, ⟨false, .ints .u8 ys⟩)])) :
  execF cxSS (uSS xs l) Tryz.f35 64 [.slice 1 (.lit 0) (.sym l) (.sym c)] (memL [(1, ⟨true, .ints .u8 xs⟩)]) K := by
 rw [vc_ss]
 have hpp := padN_pos l
 refine ⟨⟨by omega, nle (by omega), by omega, by omega⟩, fun cap0 ys1 e0 => ?_⟩
 have r0 := Rw.first hl e0
 refine ⟨⟨r0.fits, nle (Nat.le_refl _), by omega, by omega⟩, fun cap2 ys3 e2 => ?_⟩
 have r1 := r0.next (zs := [128]) (m := 1) rfl e2
 refine ⟨⟨(0, ys3, cap2), ⟨r1, by simp only; omega⟩, ?_⟩, ?_⟩
 ·repeat' apply And.intro
  all_goals first | trivial | rfl
 clear r0 r1 e0 e2 ys1 ys3 cap0 cap2
 rintro ⟨j, y, cp⟩ ⟨r0, hj⟩
 simp only at r0 hj
 rintro x6 rfl x7 hx7
 have e7 : x7 = ((l + 1 + j) % 64 : Nat) := by rw [hx7]; exact_mod_cast rfl
 simp only
 refine ⟨fun h => ?_, fun h => ?_⟩
 ·have hne : (l + 1 + j) % 64 ≠ 56 := by
   intro e
   rw [e7, e] at h
   exact absurd h (by decide)
  have hj2 := pad_go hj hne
  refine ⟨⟨r0.fits, nle (Nat.le_refl _), by omega, by omega⟩, fun cap8 ys9 e8 => ?_⟩
  have r1 := r0.next (zs := [0]) (m := 1) rfl e8
  refine ⟨(j + 1, ys9, cap8), ⟨?_, by simp only; omega⟩, ?_, by simp only; omega⟩
  ·have : xs ++ 128 :: List.replicate j 0 ++ [0] = xs ++ 128 :: List.replicate (j + 1) (0 : Int) := by
    rw [List.append_assoc, List.cons_append, List.replicate_succ' (n := j)]
   rw [this] at r1
   exact r1
  ·repeat' apply And.intro
   all_goals first | trivial | rfl | omega
 have h56 : (l + 1 + j) % 64 = 56 := by
  rw [e7] at h
  simp only [bne_eq_false_iff_eq] at h
  omega
 have hjp := pad_stop hj h56
 have hps := pad_sum l
 rintro x11 rfl x12 rfl x13 hx13
 rw [shl3 (by omega)] at hx13
 rintro x14 rfl x15 rfl
 refine ⟨⟨r0.fits, nle (Nat.le_refl _), by omega, by omega⟩, fun cap16 ys17 e16 => ?_⟩
 have r1 := r0.next (zs := [b64 x13 56]) (m := 1) rfl e16
 clear r0
 rintro x18 rfl x19 rfl
 refine ⟨⟨r1.fits, nle (Nat.le_refl _), by omega, by omega⟩, fun cap20 ys21 e20 => ?_⟩
 have r2 := r1.next (zs := [b64 x13 48]) (m := 1) rfl e20
 clear r1
 rintro x22 rfl x23 rfl
 refine ⟨⟨r2.fits, nle (Nat.le_refl _), by omega, by omega⟩, fun cap24 ys25 e24 => ?_⟩
 have r3 := r2.next (zs := [b64 x13 40]) (m := 1) rfl e24
 clear r2
 rintro x26 rfl x27 rfl
 refine ⟨⟨r3.fits, nle (Nat.le_refl _), by omega, by omega⟩, fun cap28 ys29 e28 => ?_⟩
 have r4 := r3.next (zs := [b64 x13 32]) (m := 1) rfl e28
 clear r3
 rintro x30 rfl x31 rfl
 refine ⟨⟨r4.fits, nle (Nat.le_refl _), by omega, by omega⟩, fun cap32 ys33 e32 => ?_⟩
 have r5 := r4.next (zs := [b64 x13 24]) (m := 1) rfl e32
 clear r4
 rintro x34 rfl x35 rfl
 refine ⟨⟨r5.fits, nle (Nat.le_refl _), by omega, by omega⟩, fun cap36 ys37 e36 => ?_⟩
 have r6 := r5.next (zs := [b64 x13 16]) (m := 1) rfl e36
 clear r5
 rintro x38 rfl x39 rfl
 refine ⟨⟨r6.fits, nle (Nat.le_refl _), by omega, by omega⟩, fun cap40 ys41 e40 => ?_⟩
 have r7 := r6.next (zs := [b64 x13 8]) (m := 1) rfl e40
 clear r6
 rintro x42 rfl x43 rfl
 refine ⟨⟨r7.fits, nle (Nat.le_refl _), by omega, by omega⟩, fun cap44 ys45 e44 => ?_⟩
 have r8 := r7.next (zs := [b64 x13 0]) (m := 1) rfl e44
 clear r7
 have hm : xs ++ 128 :: List.replicate j 0 ++ [b64 x13 56] ++ [b64 x13 48] ++ [b64 x13 40] ++ [b64 x13 32] ++ [b64 x13 24] ++ [b64 x13 16] ++ [b64 x13 8] ++ [b64 x13 0] = xs ++ padding xs.length := by
  rw [hl]
  unfold padding
  rw [← hjp, Nat.add_sub_cancel, ← hx13]
  simp only [List.append_assoc, List.cons_append, List.nil_append]
  rfl
 rw [hm] at r8
 have hml := r8.xl
 have hpb : Bytes (xs ++ padding xs.length) := hb.append (padding_bytes _)
 clear hm e7 hx7 h hj hx13 e16 e20 e24 e28 e32 e36 e40 e44
 generalize hmm : xs ++ padding xs.length = m at *
 have hsha : sha xs = out32 (hB S0 m (m.length / 64)) := by
  unfold sha
  rw [hmm]
  congr 2
  rw [hml, hl]
  congr 1
  omega
 refine ⟨⟨(0 : Nat), by omega, ?_⟩, ?_⟩
 ·repeat' apply And.intro
  all_goals first | trivial | rfl
 intro (k : Nat) (hk : 64 * k ≤ m.length) x48 hx48
 refine ⟨fun hlt => ?_, fun hlt => ?_⟩
 ·simp only [decide_eq_true_eq] at hlt
  have hk2 : 64 * k + 64 ≤ m.length := by omega
  rintro x49 rfl x50 rfl x51 rfl x52 rfl x53 rfl x54 rfl x55 rfl x56 rfl x57 hx57
  rw [wrap64 (by omega) (by omega)] at hx57
  have e1 : x57.toNat = 64 * k + 64 := by omega
  have e2 : Int.toNat ((64 * k : Nat) : Int) = 64 * k := Int.toNat_natCast _
  have hcl := r8.le
  have hcn := r8.len
  rw [e1, e2, if_neg (by omega)]
  simp only [Nat.add_sub_cancel_left, Nat.mul_one]
  have eb : List.take 64 (List.drop (64 * k) ys45) = blk m k := by
   unfold blk
   rw [← r8.row, List.drop_take, List.take_take, Nat.min_eq_left (by omega)]
  rw [eb]
  refine ⟨⟨⟨by omega, by omega⟩, by omega, by omega⟩, by omega, ⟨Nat.le_refl _, by unfold blk; simp; omega, bytes_blk hpb k⟩, ?_⟩
  rintro H58 hH x59 hx59
  rw [wrap64 (by omega) (by omega)] at hx59
  have hH' : H58 = hB S0 m (k + 1) := hH
  refine ⟨(k + 1 : Nat), by omega, ?_, by omega⟩
  rw [← hH']
  repeat' apply And.intro
  all_goals first | trivial | rfl | omega
 simp only [decide_eq_false_iff_not] at hlt
 have hke : k = m.length / 64 := by omega
 rw [← hke] at hsha
 generalize hB S0 m k = H at *
 obtain ⟨a, b, c', d, e, f, g, h⟩ := H
 dsimp only
 rintro x61 rfl x62 rfl x63 rfl x64 rfl x65 rfl x66 rfl x67 rfl
 refine ⟨⟨by omega, nle (Nat.le_refl _), by omega, by omega⟩, fun cap68 ys69 e68 => ?_⟩
 have q1 := Rw.first (n := 4) (xs := out4 a) rfl e68
 rintro x70 rfl x71 rfl x72 rfl x73 rfl x74 rfl x75 rfl x76 rfl
 refine ⟨⟨q1.fits, nle (Nat.le_refl _), by omega, by omega⟩, fun cap77 ys78 e77 => ?_⟩
 have q2 := q1.next (zs := out4 b) (m := 4) rfl e77
 rintro x79 rfl x80 rfl x81 rfl x82 rfl x83 rfl x84 rfl x85 rfl
 refine ⟨⟨q2.fits, nle (Nat.le_refl _), by omega, by omega⟩, fun cap86 ys87 e86 => ?_⟩
 have q3 := q2.next (zs := out4 c') (m := 4) rfl e86
 rintro x88 rfl x89 rfl x90 rfl x91 rfl x92 rfl x93 rfl x94 rfl
 refine ⟨⟨q3.fits, nle (Nat.le_refl _), by omega, by omega⟩, fun cap95 ys96 e95 => ?_⟩
 have q4 := q3.next (zs := out4 d) (m := 4) rfl e95
 rintro x97 rfl x98 rfl x99 rfl x100 rfl x101 rfl x102 rfl x103 rfl
 refine ⟨⟨q4.fits, nle (Nat.le_refl _), by omega, by omega⟩, fun cap104 ys105 e104 => ?_⟩
 have q5 := q4.next (zs := out4 e) (m := 4) rfl e104
 rintro x106 rfl x107 rfl x108 rfl x109 rfl x110 rfl x111 rfl x112 rfl
 refine ⟨⟨q5.fits, nle (Nat.le_refl _), by omega, by omega⟩, fun cap113 ys114 e113 => ?_⟩
 have q6 := q5.next (zs := out4 f) (m := 4) rfl e113
 rintro x115 rfl x116 rfl x117 rfl x118 rfl x119 rfl x120 rfl x121 rfl
 refine ⟨⟨q6.fits, nle (Nat.le_refl _), by omega, by omega⟩, fun cap122 ys123 e122 => ?_⟩
 have q7 := q6.next (zs := out4 g) (m := 4) rfl e122
 rintro x124 rfl x125 rfl x126 rfl x127 rfl x128 rfl x129 rfl x130 rfl
 refine ⟨⟨q7.fits, nle (Nat.le_refl _), by omega, by omega⟩, fun cap131 ys132 e131 => ?_⟩
 have q8 := q7.next (zs := out4 h) (m := 4) rfl e131
 have hq : out4 a ++ out4 b ++ out4 c' ++ out4 d ++ out4 e ++ out4 f ++ out4 g ++ out4 h = sha xs := hsha.symm
 rw [hq] at q8
 exact hup.le (memL_sub [1, 1513, 1577, 1833, 2057, 2281, 2505, 2729, 2953, 3177, 3401, 3409] rfl (by decide) (by
  intro x hx
  simp only [List.mem_cons, List.not_mem_nil, or_false] at hx ⊢
  rcases hx with hx | hx
  ·exact .inl hx
  ·iterate 11 (apply Or.inr)
   exact hx)) (hK _ _ q8)
end Go.Sx
namespace Go.Sx
open Go Go.Proofs
set_option maxRecDepth 100000
def gSS : G0 := fun args l K =>
 match args, l with
 | [.slice 1 (.lit 0) (.sym n) (.sym _)], [(1, ⟨true, .ints .u8 xs⟩)] =>
  (xs.length = n ∧ n ≤ 2 ^ 38 ∧ Bytes xs) ∧ ∀ ys cap, Rw ys (sha xs) 32 cap → K (.slice 3409 (.lit 0) (.lit 32) (.sym cap)) (memL [(1, ⟨true, .ints .u8 xs⟩), (3409, ⟨false, .ints .u8 ys⟩)])
 | _, _ => False
theorem ss_good : Good gSS := by
 constructor
 ·intro args l K K' hk h
  unfold gSS at h ⊢
  split at h
  ·exact ⟨h.1, fun ys cap hy => hk _ _ (h.2 ys cap hy)⟩
  ·exact h.elim
 ·intro args l K h
  unfold gSS at h
  split at h
  ·exact ⟨_, _, h.2 _ _ (Rw.self _)⟩
  ·exact h.elim
theorem ss_ok (args : List SV) (l : List (Nat × Reg)) (K : SV → Mem → Prop) (hup : KUp K) (h : gSS args l K) : ∃ U, execF cxSS U Tryz.f35 64 args (memL l) K := by
 unfold gSS at h
 split at h
 ·rename_i n c xs
  exact ⟨uSS xs n, ss_walk xs n c K h.1.1 h.1.2.1 h.1.2.2 hup h.2⟩
 ·exact h.elim
def cSS : Ef Tryz.prog := mkE mixed 35 Tryz.func35 (by decide) (by kernel_rfl) [] [.sl 1 true] gSS ss_good ss_ok
end Go.Sx
namespace Go.Sx
open Go Go.Proofs
def cxSE : Cx Tryz.prog := { rds := [], efs := [cJoin, cSS], eqs := [] }
def liSE0 (first D : List Int) (n : Int) : LI where
 ι := Nat × (List Int × Nat) × (List Int × Nat)
 keep := [2, 7, 8]
 keepR := [577, 681]
 F := fun i => ⟨[(9, .slice 737 (.lit 0) (.sym (32 * i.1)) (.sym i.2.1.2)), (10, .slice 739 (.lit 0) (.lit 32) (.sym i.2.2.2)), (11, .int .i64 (.sym ((i.1 : Nat) + 1)))],
  [(737, ⟨false, .ints .u8 i.2.1.1⟩), (739, ⟨false, .ints .u8 i.2.2.1⟩)]⟩
 I := fun _ i => Rw i.2.1.1 (outN first D i.1) (32 * i.1) i.2.1.2 ∧ Rw i.2.2.1 (bI first D i.1) 32 i.2.2.2 ∧ 32 * (i.1 : Int) < n + 32
 μ := fun i => n.toNat + 32 - 32 * i.1
 k := 1
def liSE2 : LI where
 ι := Nat × List Int × Nat
 keep := [2, 7, 8, 9, 10, 11]
 keepR := [577, 681, 737, 739]
 F := fun i => ⟨[(12, .slice 801 (.lit 0) (.sym i.1) (.sym i.2.2)), (13, i64n i.1)], [(801, ⟨false, .ints .u8 i.2.1⟩)]⟩
 I := fun st i => Rw i.2.1 ((xorL (st.reg 681) (st.reg 739)).take i.1) i.1 i.2.2 ∧ i.1 ≤ 32
 μ := fun i => 32 - i.1
 k := 1
def uSE (msg dst : List Int) (n : Int) : Nat → Lp := fun b =>
 match b with
 | 0 => .inv (liSE0 (firstL msg dst n) (domL dst) n)
 | 2 => .inv liSE2
 | _ => .un 0
end Go.Sx
namespace Go.Sx
open Go Go.Proofs
set_option maxRecDepth 100000
theorem vc_se (msg dst : List Int) (l c l2 c2 : Nat) (n : Int) (K : SV → Mem → Prop) : (execF cxSE (uSE msg dst n) Tryz.f15 64 [.slice 1 (.lit 0) (.sym l) (.sym c), .slice 9 (.lit 0) (.sym l2) (.sym c2), .int .i64 (.sym n)] (memL [(1, ⟨true,
 .ints .u8 msg⟩), (9, ⟨true, .ints .u8 dst⟩)]) K) = ((((0 : Nat) ≤ (0 : Nat) ∧ (0 : Nat) ≤ (0 : Nat)) ∧ Nat.le (0 + l2 * 1) dst.length ∧ (0 + l2) * 1 ≤ 549755813888 ∧ 0 + l2 ≤ 549755813888) ∧ ∀ (r : Nat) (s : List Int), 0 + l2 ≤ r ∧
 s.length = r * 1 ∧ List.take ((0 + l2) * 1) s = List.take 0 (List.drop 0 []) ++ List.take (l2 * 1) (List.drop 0 dst) → ∀ E : Int, E = ((l2 : Nat) : Int) → ∀ x, x = IntKind.wrap IntKind.u8 E → (((l2 ≤ r ∧ 0 + r * 1 ≤ s.length) ∧ Nat.le (1 :
 Nat) (List.length [x]) ∧ (l2 + 1) * 1 ≤ 549755813888 ∧ l2 + 1 ≤ 549755813888) ∧ ∀ (h : Nat) (d : List Int), l2 + 1 ≤ h ∧ d.length = h * 1 ∧ List.take ((l2 + 1) * 1) d = List.take (l2 * 1) (List.drop 0 s) ++ List.take 1 (List.drop 0 [x]) →
 (((0 : Int) ≤ (64 : Int) ∧ (64 : Int) ≤ (140737488355328 : Int) ∧ (64 : Int) ≤ (140737488355328 : Int)) ∧ ∀ F, F = IntKind.wrap IntKind.i64 (Int.tdiv n (256 : Int)) → ∀ t, t = IntKind.wrap IntKind.u8 F → ∀ u, u = IntKind.wrap IntKind.u8 n
 → ((64 : Nat) ≤ (64 : Nat) ∧ 0 + l * 1 ≤ msg.length ∧ 3 ≤ List.length [t, u, (0 : Int)] ∧ 0 + (l2 + 1) * 1 ≤ d.length) ∧ ((((64 : Nat) = (64 : Nat) ∧ List.length (List.take (l * 1) (List.drop 0 msg)) = l ∧ List.length (List.take 3
 (List.drop 0 [t, u, (0 : Int)])) = 3 ∧ List.length (List.take ((l2 + 1) * 1) (List.drop 0 d)) = l2 + 1) ∧ 64 + l + 3 + (l2 + 1) ≤ 549755813888) ∧ ∀ (G : List Int) (R m : Nat), Rw G (List.take 64 (List.drop 0 (List.replicate 64 (0 : Int)))
 ++ List.take (l * 1) (List.drop 0 msg) ++ List.take 3 (List.drop 0 [t, u, (0 : Int)]) ++ List.take ((l2 + 1) * 1) (List.drop 0 d)) m R → ∀ p : List Int, p = G → 0 + m * 1 ≤ p.length ∧ ((List.length (List.take (m * 1) (List.drop 0 p)) = m ∧
 m ≤ 274877906944 ∧ Bytes (List.take (m * 1) (List.drop 0 p))) ∧ ∀ (H : List Int) (j : Nat), Rw H (sha (List.take (m * 1) (List.drop 0 p))) (32 : Nat) j → ∀ e : List Int, e = H → ((0 : Int) ≤ (32 : Int) ∧ (32 : Int) ≤ (140737488355328 :
 Int) ∧ (32 : Int) ≤ (140737488355328 : Int)) ∧ ((∃ g : Prod Nat (Prod (Prod (List Int) Nat) (Prod (List Int) Nat)), (Rw (Prod.fst (Prod.fst (Prod.snd g))) (outN (firstL msg dst n) (domL dst) (Prod.fst g)) (32 * Prod.fst g) (Prod.snd
 (Prod.fst (Prod.snd g))) ∧ Rw (Prod.fst (Prod.snd (Prod.snd g))) (bI (firstL msg dst n) (domL dst) (Prod.fst g)) (32 : Nat) (Prod.snd (Prod.snd (Prod.snd g))) ∧ 32 * ((Prod.fst g : Nat) : Int) < n + 32) ∧ (n = n ∧ (l2 + 1 = l2 + 1 ∧ h = h)
 ∧ j = j ∧ (0 = 32 * Prod.fst g ∧ 0 = Prod.snd (Prod.fst (Prod.snd g))) ∧ 32 = Prod.snd (Prod.snd (Prod.snd g)) ∧ 1 = ((Prod.fst g : Nat) : Int) + 1) ∧ d = d ∧ e = e ∧ [] = Prod.fst (Prod.fst (Prod.snd g)) ∧ List.replicate 32 (0 : Int) =
 Prod.fst (Prod.snd (Prod.snd g))) ∧ ∀ a : Prod Nat (Prod (Prod (List Int) Nat) (Prod (List Int) Nat)), Rw (Prod.fst (Prod.fst (Prod.snd a))) (outN (firstL msg dst n) (domL dst) (Prod.fst a)) (32 * Prod.fst a) (Prod.snd (Prod.fst (Prod.snd
 a))) ∧ Rw (Prod.fst (Prod.snd (Prod.snd a))) (bI (firstL msg dst n) (domL dst) (Prod.fst a)) (32 : Nat) (Prod.snd (Prod.snd (Prod.snd a))) ∧ 32 * ((Prod.fst a : Nat) : Int) < n + 32 → ∀ y : Int, y = ((32 * Prod.fst a : Nat) : Int) →
 (decide (y < n) = true → ((∃ k : Prod Nat (Prod (List Int) Nat), (Rw (Prod.fst (Prod.snd k)) (List.take (Prod.fst k) (xorL e (Prod.fst (Prod.snd (Prod.snd a))))) (Prod.fst k) (Prod.snd (Prod.snd k)) ∧ Prod.fst k ≤ 32) ∧ (n = n ∧ (l2 + 1 =
 l2 + 1 ∧ h = h) ∧ j = j ∧ (32 * Prod.fst a = 32 * Prod.fst a ∧ Prod.snd (Prod.fst (Prod.snd a)) = Prod.snd (Prod.fst (Prod.snd a))) ∧ Prod.snd (Prod.snd (Prod.snd a)) = Prod.snd (Prod.snd (Prod.snd a)) ∧ ((Prod.fst a : Nat) : Int) + 1 =
 ((Prod.fst a : Nat) : Int) + 1 ∧ (0 = Prod.fst k ∧ 0 = Prod.snd (Prod.snd k)) ∧ 0 = ((Prod.fst k : Nat) : Int)) ∧ d = d ∧ e = e ∧ Prod.fst (Prod.fst (Prod.snd a)) = Prod.fst (Prod.fst (Prod.snd a)) ∧ Prod.fst (Prod.snd (Prod.snd a)) =
 Prod.fst (Prod.snd (Prod.snd a)) ∧ [] = Prod.fst (Prod.snd k)) ∧ ∀ b : Prod Nat (Prod (List Int) Nat), Rw (Prod.fst (Prod.snd b)) (List.take (Prod.fst b) (xorL e (Prod.fst (Prod.snd (Prod.snd a))))) (Prod.fst b) (Prod.snd (Prod.snd b)) ∧
 Prod.fst b ≤ 32 → (decide (((Prod.fst b : Nat) : Int) < 32) = true → (0 ≤ ((Prod.fst b : Nat) : Int) ∧ ((Prod.fst b : Nat) : Int) < 32) ∧ (Int.toNat ((Prod.fst b : Nat) : Int) * 1 + 1 ≤ e.length ∧ ∀ I : Int, I = List.getD e (Int.toNat
 ((Prod.fst b : Nat) : Int) * 1) (0 : Int) → (0 ≤ ((Prod.fst b : Nat) : Int) ∧ ((Prod.fst b : Nat) : Int) < 32) ∧ (Int.toNat ((Prod.fst b : Nat) : Int) * 1 + 1 ≤ List.length (Prod.fst (Prod.snd (Prod.snd a))) ∧ ∀ J : Int, J = List.getD
 (Prod.fst (Prod.snd (Prod.snd a))) (Int.toNat ((Prod.fst b : Nat) : Int) * 1) (0 : Int) → ∀ z, z = bxor .u8 I J → (((Prod.fst b ≤ Prod.snd (Prod.snd b) ∧ 0 + Prod.snd (Prod.snd b) * 1 ≤ List.length (Prod.fst (Prod.snd b))) ∧ Nat.le (1 :
 Nat) (List.length [z]) ∧ (Prod.fst b + 1) * 1 ≤ 549755813888 ∧ Prod.fst b + 1 ≤ 549755813888) ∧ ∀ (A : Nat) (B : List Int), Prod.fst b + 1 ≤ A ∧ B.length = A * 1 ∧ List.take ((Prod.fst b + 1) * 1) B = List.take (Prod.fst b * 1) (List.drop
 0 (Prod.fst (Prod.snd b))) ++ List.take 1 (List.drop 0 [z]) → ∀ L, L = IntKind.wrap IntKind.i64 (((Prod.fst b : Nat) : Int) + 1) → ∃ i : Prod Nat (Prod (List Int) Nat), (Rw (Prod.fst (Prod.snd i)) (List.take (Prod.fst i) (xorL e (Prod.fst
 (Prod.snd (Prod.snd a))))) (Prod.fst i) (Prod.snd (Prod.snd i)) ∧ Prod.fst i ≤ 32) ∧ ((n = n ∧ (l2 + 1 = l2 + 1 ∧ h = h) ∧ j = j ∧ (32 * Prod.fst a = 32 * Prod.fst a ∧ Prod.snd (Prod.fst (Prod.snd a)) = Prod.snd (Prod.fst (Prod.snd a))) ∧
 Prod.snd (Prod.snd (Prod.snd a)) = Prod.snd (Prod.snd (Prod.snd a)) ∧ ((Prod.fst a : Nat) : Int) + 1 = ((Prod.fst a : Nat) : Int) + 1 ∧ (Prod.fst b + 1 = Prod.fst i ∧ A = Prod.snd (Prod.snd i)) ∧ L = ((Prod.fst i : Nat) : Int)) ∧ d = d ∧ e
 = e ∧ Prod.fst (Prod.fst (Prod.snd a)) = Prod.fst (Prod.fst (Prod.snd a)) ∧ Prod.fst (Prod.snd (Prod.snd a)) = Prod.fst (Prod.snd (Prod.snd a)) ∧ B = Prod.fst (Prod.snd i)) ∧ 32 - Prod.fst i < 32 - Prod.fst b)))) ∧ (decide (((Prod.fst b :
 Nat) : Int) < 32) = false → ∀ v, v = IntKind.wrap IntKind.u8 (((Prod.fst a : Nat) : Int) + 1) → (0 + Prod.fst b * 1 ≤ List.length (Prod.fst (Prod.snd b)) ∧ 1 ≤ List.length [v] ∧ 0 + (l2 + 1) * 1 ≤ d.length) ∧ (((List.length (List.take
 (Prod.fst b * 1) (List.drop 0 (Prod.fst (Prod.snd b)))) = Prod.fst b ∧ List.length (List.take 1 (List.drop 0 [v])) = 1 ∧ List.length (List.take ((l2 + 1) * 1) (List.drop 0 d)) = l2 + 1) ∧ Prod.fst b + 1 + (l2 + 1) ≤ 549755813888) ∧ ∀ (M :
 List Int) (S o : Nat), Rw M (List.take (Prod.fst b * 1) (List.drop 0 (Prod.fst (Prod.snd b))) ++ List.take 1 (List.drop 0 [v]) ++ List.take ((l2 + 1) * 1) (List.drop 0 d)) o S → ∀ q : List Int, q = M → 0 + o * 1 ≤ q.length ∧ ((List.length
 (List.take (o * 1) (List.drop 0 q)) = o ∧ o ≤ 274877906944 ∧ Bytes (List.take (o * 1) (List.drop 0 q))) ∧ ∀ (N : List Int) (O : Nat), Rw N (sha (List.take (o * 1) (List.drop 0 q))) (32 : Nat) O → ∀ w : List Int, w = N → (((32 * Prod.fst a
 ≤ Prod.snd (Prod.fst (Prod.snd a)) ∧ 0 + Prod.snd (Prod.fst (Prod.snd a)) * 1 ≤ List.length (Prod.fst (Prod.fst (Prod.snd a)))) ∧ Nat.le (32 : Nat) w.length ∧ (32 * Prod.fst a + 32) * 1 ≤ 549755813888 ∧ 32 * Prod.fst a + 32 ≤ 549755813888)
 ∧ ∀ (C : Nat) (D : List Int), 32 * Prod.fst a + 32 ≤ C ∧ D.length = C * 1 ∧ List.take ((32 * Prod.fst a + 32) * 1) D = List.take (32 * Prod.fst a * 1) (List.drop 0 (Prod.fst (Prod.fst (Prod.snd a)))) ++ List.take 32 (List.drop 0 w) → ∀ Q,
 Q = IntKind.wrap IntKind.i64 (((Prod.fst a : Nat) : Int) + 1 + 1) → ∃ f : Prod Nat (Prod (Prod (List Int) Nat) (Prod (List Int) Nat)), (Rw (Prod.fst (Prod.fst (Prod.snd f))) (outN (firstL msg dst n) (domL dst) (Prod.fst f)) (32 * Prod.fst
 f) (Prod.snd (Prod.fst (Prod.snd f))) ∧ Rw (Prod.fst (Prod.snd (Prod.snd f))) (bI (firstL msg dst n) (domL dst) (Prod.fst f)) (32 : Nat) (Prod.snd (Prod.snd (Prod.snd f))) ∧ 32 * ((Prod.fst f : Nat) : Int) < n + 32) ∧ ((n = n ∧ (l2 + 1 =
 l2 + 1 ∧ h = h) ∧ j = j ∧ (32 * Prod.fst a + 32 = 32 * Prod.fst f ∧ C = Prod.snd (Prod.fst (Prod.snd f))) ∧ O = Prod.snd (Prod.snd (Prod.snd f)) ∧ Q = ((Prod.fst f : Nat) : Int) + 1) ∧ d = d ∧ e = e ∧ D = Prod.fst (Prod.fst (Prod.snd f)) ∧
 w = Prod.fst (Prod.snd (Prod.snd f))) ∧ Int.toNat n + 32 - 32 * Prod.fst f < Int.toNat n + 32 - 32 * Prod.fst a)))))) ∧ (decide (y < n) = false → (0 ≤ n ∧ n ≤ ((Prod.snd (Prod.fst (Prod.snd a)) : Nat) : Int)) ∧ K (.slice 737 (.lit 0) (.sym
 (Int.toNat n - 0)) (.sym (Prod.snd (Prod.fst (Prod.snd a)) - 0))) (memL [(577, ⟨false, .ints .u8 d⟩), (681, ⟨false, .ints .u8 e⟩), (737, ⟨false, .ints .u8 (Prod.fst (Prod.fst (Prod.snd a)))⟩), (739, ⟨false, .ints .u8 (Prod.fst (Prod.snd
 (Prod.snd a)))⟩)])))))))) := by kernel_rfl
theorem vc_sen (dst : List Int) (l2 c2 : Nat) (n : Int) (K : SV → Mem → Prop) : (execF cxSE (uSE [] dst n) Tryz.f15 64 [.val (.slice none 0 0), .slice 1 (.lit 0) (.sym l2) (.sym c2), .int .i64 (.sym n)] (memL [(1, ⟨true, .ints .u8 dst⟩)]) K)
 = ((((0 : Nat) ≤ (0 : Nat) ∧ (0 : Nat) ≤ (0 : Nat)) ∧ Nat.le (0 + l2 * 1) dst.length ∧ (0 + l2) * 1 ≤ 549755813888 ∧ 0 + l2 ≤ 549755813888) ∧ ∀ (p : Nat) (q : List Int), 0 + l2 ≤ p ∧ q.length = p * 1 ∧ List.take ((0 + l2) * 1) q =
 List.take 0 (List.drop 0 []) ++ List.take (l2 * 1) (List.drop 0 dst) → ∀ C : Int, C = ((l2 : Nat) : Int) → ∀ v, v = IntKind.wrap IntKind.u8 C → (((l2 ≤ p ∧ 0 + p * 1 ≤ q.length) ∧ Nat.le (1 : Nat) (List.length [v]) ∧ (l2 + 1) * 1 ≤
 549755813888 ∧ l2 + 1 ≤ 549755813888) ∧ ∀ (g : Nat) (c : List Int), l2 + 1 ≤ g ∧ c.length = g * 1 ∧ List.take ((l2 + 1) * 1) c = List.take (l2 * 1) (List.drop 0 q) ++ List.take 1 (List.drop 0 [v]) → (((0 : Int) ≤ (64 : Int) ∧ (64 : Int) ≤
 (140737488355328 : Int) ∧ (64 : Int) ≤ (140737488355328 : Int)) ∧ ∀ D, D = IntKind.wrap IntKind.i64 (Int.tdiv n (256 : Int)) → ∀ r, r = IntKind.wrap IntKind.u8 D → ∀ s, s = IntKind.wrap IntKind.u8 n → ((64 : Nat) ≤ (64 : Nat) ∧ 3 ≤
 List.length [r, s, (0 : Int)] ∧ 0 + (l2 + 1) * 1 ≤ c.length) ∧ ((((64 : Nat) = (64 : Nat) ∧ List.length (List.take 3 (List.drop 0 [r, s, (0 : Int)])) = 3 ∧ List.length (List.take ((l2 + 1) * 1) (List.drop 0 c)) = l2 + 1) ∧ 67 + (l2 + 1) ≤
 549755813888) ∧ ∀ (E : List Int) (O k : Nat), Rw E (List.take 64 (List.drop 0 (List.replicate 64 (0 : Int))) ++ List.take 3 (List.drop 0 [r, s, (0 : Int)]) ++ List.take ((l2 + 1) * 1) (List.drop 0 c)) k O → ∀ m : List Int, m = E → 0 + k *
 1 ≤ m.length ∧ ((List.length (List.take (k * 1) (List.drop 0 m)) = k ∧ k ≤ 274877906944 ∧ Bytes (List.take (k * 1) (List.drop 0 m))) ∧ ∀ (F : List Int) (i : Nat), Rw F (sha (List.take (k * 1) (List.drop 0 m))) (32 : Nat) i → ∀ d : List
 Int, d = F → ((0 : Int) ≤ (32 : Int) ∧ (32 : Int) ≤ (140737488355328 : Int) ∧ (32 : Int) ≤ (140737488355328 : Int)) ∧ ((∃ f : Prod Nat (Prod (Prod (List Int) Nat) (Prod (List Int) Nat)), (Rw (Prod.fst (Prod.fst (Prod.snd f))) (outN (firstL
 [] dst n) (domL dst) (Prod.fst f)) (32 * Prod.fst f) (Prod.snd (Prod.fst (Prod.snd f))) ∧ Rw (Prod.fst (Prod.snd (Prod.snd f))) (bI (firstL [] dst n) (domL dst) (Prod.fst f)) (32 : Nat) (Prod.snd (Prod.snd (Prod.snd f))) ∧ 32 * ((Prod.fst
 f : Nat) : Int) < n + 32) ∧ (n = n ∧ (l2 + 1 = l2 + 1 ∧ g = g) ∧ i = i ∧ (0 = 32 * Prod.fst f ∧ 0 = Prod.snd (Prod.fst (Prod.snd f))) ∧ 32 = Prod.snd (Prod.snd (Prod.snd f)) ∧ 1 = ((Prod.fst f : Nat) : Int) + 1) ∧ c = c ∧ d = d ∧ [] =
 Prod.fst (Prod.fst (Prod.snd f)) ∧ List.replicate 32 (0 : Int) = Prod.fst (Prod.snd (Prod.snd f))) ∧ ∀ a : Prod Nat (Prod (Prod (List Int) Nat) (Prod (List Int) Nat)), Rw (Prod.fst (Prod.fst (Prod.snd a))) (outN (firstL [] dst n) (domL
 dst) (Prod.fst a)) (32 * Prod.fst a) (Prod.snd (Prod.fst (Prod.snd a))) ∧ Rw (Prod.fst (Prod.snd (Prod.snd a))) (bI (firstL [] dst n) (domL dst) (Prod.fst a)) (32 : Nat) (Prod.snd (Prod.snd (Prod.snd a))) ∧ 32 * ((Prod.fst a : Nat) : Int)
 < n + 32 → ∀ w : Int, w = ((32 * Prod.fst a : Nat) : Int) → (decide (w < n) = true → ((∃ j : Prod Nat (Prod (List Int) Nat), (Rw (Prod.fst (Prod.snd j)) (List.take (Prod.fst j) (xorL d (Prod.fst (Prod.snd (Prod.snd a))))) (Prod.fst j)
 (Prod.snd (Prod.snd j)) ∧ Prod.fst j ≤ 32) ∧ (n = n ∧ (l2 + 1 = l2 + 1 ∧ g = g) ∧ i = i ∧ (32 * Prod.fst a = 32 * Prod.fst a ∧ Prod.snd (Prod.fst (Prod.snd a)) = Prod.snd (Prod.fst (Prod.snd a))) ∧ Prod.snd (Prod.snd (Prod.snd a)) =
 Prod.snd (Prod.snd (Prod.snd a)) ∧ ((Prod.fst a : Nat) : Int) + 1 = ((Prod.fst a : Nat) : Int) + 1 ∧ (0 = Prod.fst j ∧ 0 = Prod.snd (Prod.snd j)) ∧ 0 = ((Prod.fst j : Nat) : Int)) ∧ c = c ∧ d = d ∧ Prod.fst (Prod.fst (Prod.snd a)) =
 Prod.fst (Prod.fst (Prod.snd a)) ∧ Prod.fst (Prod.snd (Prod.snd a)) = Prod.fst (Prod.snd (Prod.snd a)) ∧ [] = Prod.fst (Prod.snd j)) ∧ ∀ b : Prod Nat (Prod (List Int) Nat), Rw (Prod.fst (Prod.snd b)) (List.take (Prod.fst b) (xorL d
 (Prod.fst (Prod.snd (Prod.snd a))))) (Prod.fst b) (Prod.snd (Prod.snd b)) ∧ Prod.fst b ≤ 32 → (decide (((Prod.fst b : Nat) : Int) < 32) = true → (0 ≤ ((Prod.fst b : Nat) : Int) ∧ ((Prod.fst b : Nat) : Int) < 32) ∧ (Int.toNat ((Prod.fst b :
 Nat) : Int) * 1 + 1 ≤ d.length ∧ ∀ G : Int, G = List.getD d (Int.toNat ((Prod.fst b : Nat) : Int) * 1) (0 : Int) → (0 ≤ ((Prod.fst b : Nat) : Int) ∧ ((Prod.fst b : Nat) : Int) < 32) ∧ (Int.toNat ((Prod.fst b : Nat) : Int) * 1 + 1 ≤
 List.length (Prod.fst (Prod.snd (Prod.snd a))) ∧ ∀ H : Int, H = List.getD (Prod.fst (Prod.snd (Prod.snd a))) (Int.toNat ((Prod.fst b : Nat) : Int) * 1) (0 : Int) → ∀ x, x = bxor .u8 G H → (((Prod.fst b ≤ Prod.snd (Prod.snd b) ∧ 0 +
 Prod.snd (Prod.snd b) * 1 ≤ List.length (Prod.fst (Prod.snd b))) ∧ Nat.le (1 : Nat) (List.length [x]) ∧ (Prod.fst b + 1) * 1 ≤ 549755813888 ∧ Prod.fst b + 1 ≤ 549755813888) ∧ ∀ (y : Nat) (z : List Int), Prod.fst b + 1 ≤ y ∧ z.length = y *
 1 ∧ List.take ((Prod.fst b + 1) * 1) z = List.take (Prod.fst b * 1) (List.drop 0 (Prod.fst (Prod.snd b))) ++ List.take 1 (List.drop 0 [x]) → ∀ I, I = IntKind.wrap IntKind.i64 (((Prod.fst b : Nat) : Int) + 1) → ∃ h : Prod Nat (Prod (List
 Int) Nat), (Rw (Prod.fst (Prod.snd h)) (List.take (Prod.fst h) (xorL d (Prod.fst (Prod.snd (Prod.snd a))))) (Prod.fst h) (Prod.snd (Prod.snd h)) ∧ Prod.fst h ≤ 32) ∧ ((n = n ∧ (l2 + 1 = l2 + 1 ∧ g = g) ∧ i = i ∧ (32 * Prod.fst a = 32 *
 Prod.fst a ∧ Prod.snd (Prod.fst (Prod.snd a)) = Prod.snd (Prod.fst (Prod.snd a))) ∧ Prod.snd (Prod.snd (Prod.snd a)) = Prod.snd (Prod.snd (Prod.snd a)) ∧ ((Prod.fst a : Nat) : Int) + 1 = ((Prod.fst a : Nat) : Int) + 1 ∧ (Prod.fst b + 1 =
 Prod.fst h ∧ y = Prod.snd (Prod.snd h)) ∧ I = ((Prod.fst h : Nat) : Int)) ∧ c = c ∧ d = d ∧ Prod.fst (Prod.fst (Prod.snd a)) = Prod.fst (Prod.fst (Prod.snd a)) ∧ Prod.fst (Prod.snd (Prod.snd a)) = Prod.fst (Prod.snd (Prod.snd a)) ∧ z =
 Prod.fst (Prod.snd h)) ∧ 32 - Prod.fst h < 32 - Prod.fst b)))) ∧ (decide (((Prod.fst b : Nat) : Int) < 32) = false → ∀ t, t = IntKind.wrap IntKind.u8 (((Prod.fst a : Nat) : Int) + 1) → (0 + Prod.fst b * 1 ≤ List.length (Prod.fst (Prod.snd
 b)) ∧ 1 ≤ List.length [t] ∧ 0 + (l2 + 1) * 1 ≤ c.length) ∧ (((List.length (List.take (Prod.fst b * 1) (List.drop 0 (Prod.fst (Prod.snd b)))) = Prod.fst b ∧ List.length (List.take 1 (List.drop 0 [t])) = 1 ∧ List.length (List.take ((l2 + 1)
 * 1) (List.drop 0 c)) = l2 + 1) ∧ Prod.fst b + 1 + (l2 + 1) ≤ 549755813888) ∧ ∀ (J : List Int) (Q l : Nat), Rw J (List.take (Prod.fst b * 1) (List.drop 0 (Prod.fst (Prod.snd b))) ++ List.take 1 (List.drop 0 [t]) ++ List.take ((l2 + 1) * 1)
 (List.drop 0 c)) l Q → ∀ o : List Int, o = J → 0 + l * 1 ≤ o.length ∧ ((List.length (List.take (l * 1) (List.drop 0 o)) = l ∧ l ≤ 274877906944 ∧ Bytes (List.take (l * 1) (List.drop 0 o))) ∧ ∀ (L : List Int) (M : Nat), Rw L (sha (List.take
 (l * 1) (List.drop 0 o))) (32 : Nat) M → ∀ u : List Int, u = L → (((32 * Prod.fst a ≤ Prod.snd (Prod.fst (Prod.snd a)) ∧ 0 + Prod.snd (Prod.fst (Prod.snd a)) * 1 ≤ List.length (Prod.fst (Prod.fst (Prod.snd a)))) ∧ Nat.le (32 : Nat)
 u.length ∧ (32 * Prod.fst a + 32) * 1 ≤ 549755813888 ∧ 32 * Prod.fst a + 32 ≤ 549755813888) ∧ ∀ (A : Nat) (B : List Int), 32 * Prod.fst a + 32 ≤ A ∧ B.length = A * 1 ∧ List.take ((32 * Prod.fst a + 32) * 1) B = List.take (32 * Prod.fst a *
 1) (List.drop 0 (Prod.fst (Prod.fst (Prod.snd a)))) ++ List.take 32 (List.drop 0 u) → ∀ N, N = IntKind.wrap IntKind.i64 (((Prod.fst a : Nat) : Int) + 1 + 1) → ∃ e : Prod Nat (Prod (Prod (List Int) Nat) (Prod (List Int) Nat)), (Rw (Prod.fst
 (Prod.fst (Prod.snd e))) (outN (firstL [] dst n) (domL dst) (Prod.fst e)) (32 * Prod.fst e) (Prod.snd (Prod.fst (Prod.snd e))) ∧ Rw (Prod.fst (Prod.snd (Prod.snd e))) (bI (firstL [] dst n) (domL dst) (Prod.fst e)) (32 : Nat) (Prod.snd
 (Prod.snd (Prod.snd e))) ∧ 32 * ((Prod.fst e : Nat) : Int) < n + 32) ∧ ((n = n ∧ (l2 + 1 = l2 + 1 ∧ g = g) ∧ i = i ∧ (32 * Prod.fst a + 32 = 32 * Prod.fst e ∧ A = Prod.snd (Prod.fst (Prod.snd e))) ∧ M = Prod.snd (Prod.snd (Prod.snd e)) ∧ N
 = ((Prod.fst e : Nat) : Int) + 1) ∧ c = c ∧ d = d ∧ B = Prod.fst (Prod.fst (Prod.snd e)) ∧ u = Prod.fst (Prod.snd (Prod.snd e))) ∧ Int.toNat n + 32 - 32 * Prod.fst e < Int.toNat n + 32 - 32 * Prod.fst a)))))) ∧ (decide (w < n) = false → (0
 ≤ n ∧ n ≤ ((Prod.snd (Prod.fst (Prod.snd a)) : Nat) : Int)) ∧ K (.slice 737 (.lit 0) (.sym (Int.toNat n - 0)) (.sym (Prod.snd (Prod.fst (Prod.snd a)) - 0))) (memL [(577, ⟨false, .ints .u8 c⟩), (681, ⟨false, .ints .u8 d⟩), (737, ⟨false,
 .ints .u8 (Prod.fst (Prod.fst (Prod.snd a)))⟩), (739, ⟨false, .ints .u8 (Prod.fst (Prod.snd (Prod.snd a)))⟩)])))))))) := by kernel_rfl
end Go.Sx
namespace Go.Sx
open Go Go.Proofs
set_option maxRecDepth 100000
set_option maxHeartbeats 4000000
theorem take1 (xs : List Int) {l : Nat} (h : xs.length = l) : List.take (l * 1) (List.drop 0 xs) = xs := by
 rw [Nat.mul_one, List.drop_zero, List.take_of_length_le (by omega)]
theorem Rw.take1 {ys xs : List Int} {n cap : Nat} (h : Rw ys xs n cap) : List.take (n * 1) (List.drop 0 ys) = xs := by
 rw [Nat.mul_one, List.drop_zero, h.row]
theorem Rw.getD {ys xs : List Int} {n cap k : Nat} (h : Rw ys xs n cap) (hk : k < n) : ys.getD k 0 = xs.getD k 0 := by
 rw [← h.row]
 simp [List.getD_eq_getElem?_getD, List.getElem?_take, hk]
theorem Rw.cut {ys xs : List Int} {n m cap : Nat} (h : Rw ys xs n cap) (hm : m ≤ n) : Rw ys (xs.take m) m cap :=
 ⟨by rw [List.length_take, h.xl]; omega, Nat.le_trans hm h.le, h.len, by rw [← h.row, List.take_take, Nat.min_eq_left hm]⟩
theorem bytes3 {x y : Int} : Bytes [IntKind.u8.wrap x, IntKind.u8.wrap y, 0] := by
 intro z hz
 simp only [List.mem_cons, List.not_mem_nil, or_false] at hz
 rcases hz with rfl | rfl | rfl
 ·exact u8_range _
 ·exact u8_range _
 ·omega
theorem bytes1 {x : Int} : Bytes [IntKind.u8.wrap x] := by
 intro z hz
 simp only [List.mem_cons, List.not_mem_nil, or_false] at hz
 rw [hz]
 exact u8_range _
theorem bytes0 (n : Nat) : Bytes (List.replicate n 0) := by
 intro z hz
 rw [(List.mem_replicate.1 hz).2]
 omega
theorem expand_eq {msg dst : List Int} {n i : Nat} (h1 : n ≤ 32 * i) (h2 : 32 * i < n + 32) : expand msg dst n = (outN (firstL msg dst n) (domL dst) i).take n := by
 unfold expand
 rw [show (n + 31) / 32 = i by omega]
theorem expand_length (msg dst : List Int) (n : Nat) : (expand msg dst n).length = n := by
 unfold expand
 rw [List.length_take, outN_length]
 omega
theorem expand_bytes (msg dst : List Int) (n : Nat) : Bytes (expand msg dst n) := by
 unfold expand
 refine Bytes.take ?_ _
 generalize (n + 31) / 32 = k
 induction k with
 | zero => exact Bytes.nil
 | succ k ih => exact ih.append (bI_bytes _ _ _)
theorem se_walk (msg dst : List Int) (l c l2 c2 : Nat) (n : Int) (K : SV → Mem → Prop) (hl : msg.length = l) (hl2 : dst.length = l2) (hb : Bytes msg) (hb2 : Bytes dst) (h1 : l ≤ 65536) (h2 : l2 ≤ 65536) (hn : 0 ≤ n) (hn2 : n ≤ 65536) (hup : KUp K)
  (hK : ∀ ys cap, Rw ys (expand msg dst n.toNat) n.toNat cap → K (.slice 737 (.lit 0) (.sym n.toNat) (.sym cap)) (memL [(737, ⟨false, .ints .u8 ys⟩)])) :
  execF cxSE (uSE msg dst n) Tryz.f15 64 [.slice 1 (.lit 0) (.sym l) (.sym c), .slice 9 (.lit 0) (.sym l2) (.sym c2), .int .i64 (.sym n)] (memL [(1, ⟨true, .ints .u8 msg⟩), (9, ⟨true, .ints .u8 dst⟩)]) K := by
 rw [vc_se]
 obtain ⟨nn, hnn⟩ : ∃ nn : Nat, n = (nn : Int) := ⟨n.toNat, by omega⟩
 refine ⟨⟨by omega, nle (by omega), by omega, by omega⟩, fun cap0 ys1 e0 => ?_⟩
 have r0 := Rw.first hl2 e0
 rintro x2 rfl x3 rfl
 refine ⟨⟨r0.fits, nle (Nat.le_refl _), by omega, by omega⟩, fun cap4 ys5 e4 => ?_⟩
 have rD := r0.next (zs := [IntKind.u8.wrap ((l2 : Nat) : Int)]) (m := 1) rfl e4
 have hD : dst ++ [IntKind.u8.wrap ((l2 : Nat) : Int)] = domL dst := by unfold domL; rw [hl2]
 rw [hD] at rD
 have hDb := domL_bytes hb2
 have hDl := rD.le
 have hDn := rD.len
 refine ⟨by omega, ?_⟩
 rintro x6 rfl x7 rfl x8 rfl
 refine ⟨⟨by omega, by omega, nle (Nat.le_refl _), by omega⟩, ?_⟩
 refine ⟨⟨⟨rfl, by rw [take1 _ hl, hl], rfl, by rw [rD.take1, rD.xl]⟩, by omega⟩, ?_⟩
 rintro ys9 cap10 n11 rJ ys12 rfl
 have hJ := rJ.le
 have hJn := rJ.len
 have hJx := rJ.xl
 rw [take1 _ hl, rD.take1] at rJ hJx
 have hMl : n11 = 64 + l + 3 + (l2 + 1) := by
  rw [← hJx]
  simp only [List.length_append, domL_length, hl2]
  simp [hl]
 refine ⟨by omega, ⟨by rw [rJ.take1, rJ.xl], by omega, by
  rw [rJ.take1]
  exact (((((bytes0 64).drop 0).take 64).append hb).append ((bytes3.drop 0).take 3)).append hDb⟩, ?_⟩
 rintro ys13 cap14 rF ys15 rfl
 rw [rJ.take1] at rF
 have rF : Rw ys15 (firstL msg dst n) 32 cap14 := rF
 have hFl := rF.le
 have hFn := rF.len
 refine ⟨by omega, ?_⟩
 refine ⟨⟨(0, ([], 0), (List.replicate 32 0, 32)), ⟨⟨rfl, Nat.le_refl _, rfl, rfl⟩, ⟨by simp [bI], Nat.le_refl _, by simp, by simp [bI]⟩, by simp only; omega⟩, ?_⟩, ?_⟩
 ·repeat' apply And.intro
  all_goals first | trivial | rfl
 rintro ⟨i, ⟨oy, oc⟩, ⟨ly, lc⟩⟩ ⟨rO, rL, hi⟩ x18 rfl
 simp only at rO rL hi
 simp only
 have hLl := rL.le
 have hLn := rL.len
 refine ⟨fun hlt => ?_, fun hlt => ?_⟩
 ·simp only [decide_eq_true_eq] at hlt
  refine ⟨⟨(0, [], 0), ⟨⟨rfl, Nat.le_refl _, rfl, rfl⟩, by simp⟩, ?_⟩, ?_⟩
  ·repeat' apply And.intro
   all_goals first | trivial | rfl
  rintro ⟨k, my, mc⟩ ⟨rM, hk⟩
  simp only at rM hk
  simp only [Int.toNat_natCast, Nat.mul_one]
  refine ⟨fun hk1 => ?_, fun hk1 => ?_⟩
  ·simp only [decide_eq_true_eq] at hk1
   refine ⟨by omega, by omega, ?_⟩
   rintro x21 rfl
   refine ⟨by omega, by omega, ?_⟩
   rintro x22 rfl x23 hx23
   refine ⟨⟨⟨rM.le, by rw [rM.len]; omega⟩, nle (Nat.le_refl _), by omega, by omega⟩, fun cap24 ys25 e24 => ?_⟩
   have rM2 := rM.next (zs := [x23]) (m := 1) rfl (by simpa only [Nat.mul_one] using e24)
   rw [hx23, ← xorL_take (by omega)] at rM2
   rintro x26 hx26
   rw [wrap64 (by omega) (by omega)] at hx26
   refine ⟨(k + 1, ys25, cap24), ⟨rM2, by simp only; omega⟩, ?_, by simp only; omega⟩
   repeat' apply And.intro
   all_goals first | trivial | rfl | (simp only; omega)
  simp only [decide_eq_false_iff_not] at hk1
  obtain rfl : k = 32 := by omega
  rw [List.take_of_length_le (by rw [xorL_length]; exact Nat.le_refl _)] at rM
  have hxor : xorL ys15 ly = xorL (firstL msg dst n) (bI (firstL msg dst n) (domL dst) i) := xorL_congr (by rw [rF.row, List.take_of_length_le (by rw [rF.xl]; exact Nat.le_refl _)]) (by rw [rL.row, List.take_of_length_le (by rw [rL.xl]; exact Nat.le_refl _)])
  rw [hxor] at rM
  have hMl2 := rM.le
  have hMn2 := rM.len
  rintro x28 rfl
  refine ⟨⟨by omega, Nat.le_refl _, by omega⟩, ?_⟩
  have t1 := rM.take1
  have t2 := rD.take1
  rw [Nat.mul_one] at t1 t2
  rw [t1, t2, rD.xl]
  refine ⟨⟨⟨rM.xl, rfl, rfl⟩, by omega⟩, ?_⟩
  rintro ys29 cap30 n31 rJ2 ys32 rfl
  have hJ2 := rJ2.le
  have hJ2n := rJ2.len
  have hJ2x := rJ2.xl
  have hMl3 : n31 = 32 + 1 + (l2 + 1) := by
   rw [← hJ2x]
   simp only [List.length_append, domL_length, hl2, xorL_length]
   simp
  have t3 := rJ2.take1
  rw [Nat.mul_one] at t3
  rw [t3]
  refine ⟨by omega, ⟨rJ2.xl, by omega, ((xorL_bytes _ _).append bytes1).append hDb⟩, ?_⟩
  rintro ys33 cap34 rB ys35 rfl
  have rB : Rw ys35 (bI (firstL msg dst n) (domL dst) (i + 1)) 32 cap34 := rB
  have hBl := rB.le
  have hBn := rB.len
  refine ⟨⟨⟨rO.le, by rw [rO.len]; omega⟩, nle (by omega), by omega, by omega⟩, fun cap36 ys37 e36 => ?_⟩
  have rO2 : Rw ys37 (outN (firstL msg dst n) (domL dst) (i + 1)) (32 * i + 32) cap36 := by
   refine rO.step (rB.xl) e36.1 e36.2.1 ?_
   have := e36.2.2
   rw [List.drop_zero, List.drop_zero, rB.row] at this
   exact this
  rintro x38 hx38
  rw [wrap64 (by omega) (by omega)] at hx38
  refine ⟨(i + 1, (ys37, cap36), (ys35, cap34)), ⟨rO2, rB, by simp only; omega⟩, ?_, by simp only; omega⟩
  repeat' apply And.intro
  all_goals first | trivial | rfl | (simp only; omega)
 simp only [decide_eq_false_iff_not] at hlt
 have hOl := rO.le
 refine ⟨by omega, ?_⟩
 have hE : expand msg dst n.toNat = (outN (firstL msg dst n) (domL dst) i).take n.toNat := by
  rw [expand_eq (i := i) (by omega) (by omega), hnn, Int.toNat_natCast]
 have rR := rO.cut (m := n.toNat) (by omega)
 rw [← hE] at rR
 exact hup.le (memL_sub [577, 681, 737, 739] rfl (by decide) (by
  intro x hx
  simp only [List.mem_cons, List.not_mem_nil, or_false] at hx ⊢
  exact .inr (.inr (.inl hx)))) (hK _ _ rR)
theorem sen_walk (dst : List Int) (l2 c2 : Nat) (n : Int) (K : SV → Mem → Prop) (hl2 : dst.length = l2) (hb2 : Bytes dst) (h2 : l2 ≤ 65536) (hn : 0 ≤ n) (hn2 : n ≤ 65536) (hup : KUp K)
  (hK : ∀ ys cap, Rw ys (expand [] dst n.toNat) n.toNat cap → K (.slice 737 (.lit 0) (.sym n.toNat) (.sym cap)) (memL [(737, ⟨false, .ints .u8 ys⟩)])) :
  execF cxSE (uSE [] dst n) Tryz.f15 64 [.val (.slice none 0 0), .slice 1 (.lit 0) (.sym l2) (.sym c2), .int .i64 (.sym n)] (memL [(1, ⟨true, .ints .u8 dst⟩)]) K := by
 rw [vc_sen]
 obtain ⟨nn, hnn⟩ : ∃ nn : Nat, n = (nn : Int) := ⟨n.toNat, by omega⟩
 refine ⟨⟨by omega, nle (by omega), by omega, by omega⟩, fun cap0 ys1 e0 => ?_⟩
 have r0 := Rw.first hl2 e0
 rintro x2 rfl x3 rfl
 refine ⟨⟨r0.fits, nle (Nat.le_refl _), by omega, by omega⟩, fun cap4 ys5 e4 => ?_⟩
 have rD := r0.next (zs := [IntKind.u8.wrap ((l2 : Nat) : Int)]) (m := 1) rfl e4
 have hD : dst ++ [IntKind.u8.wrap ((l2 : Nat) : Int)] = domL dst := by unfold domL; rw [hl2]
 rw [hD] at rD
 have hDb := domL_bytes hb2
 have hDl := rD.le
 have hDn := rD.len
 refine ⟨by omega, ?_⟩
 rintro x6 rfl x7 rfl x8 rfl
 refine ⟨⟨by omega, nle (Nat.le_refl _), by omega⟩, ?_⟩
 refine ⟨⟨⟨rfl, rfl, by rw [rD.take1, rD.xl]⟩, by omega⟩, ?_⟩
 rintro ys9 cap10 n11 rJ ys12 rfl
 have hJ := rJ.le
 have hJn := rJ.len
 have hJx := rJ.xl
 rw [rD.take1] at rJ hJx
 have hMl : n11 = 64 + 0 + 3 + (l2 + 1) := by
  rw [← hJx]
  simp only [List.length_append, domL_length, hl2]
  simp
 refine ⟨by omega, ⟨by rw [rJ.take1, rJ.xl], by omega, by
  rw [rJ.take1]
  exact ((((bytes0 64).drop 0).take 64).append ((bytes3.drop 0).take 3)).append hDb⟩, ?_⟩
 rintro ys13 cap14 rF ys15 rfl
 rw [rJ.take1] at rF
 have rF : Rw ys15 (firstL [] dst n) 32 cap14 := by
  unfold firstL
  rw [List.append_nil]
  exact rF
 have hFl := rF.le
 have hFn := rF.len
 refine ⟨by omega, ?_⟩
 refine ⟨⟨(0, ([], 0), (List.replicate 32 0, 32)), ⟨⟨rfl, Nat.le_refl _, rfl, rfl⟩, ⟨by simp [bI], Nat.le_refl _, by simp, by simp [bI]⟩, by simp only; omega⟩, ?_⟩, ?_⟩
 ·repeat' apply And.intro
  all_goals first | trivial | rfl
 rintro ⟨i, ⟨oy, oc⟩, ⟨ly, lc⟩⟩ ⟨rO, rL, hi⟩ x18 rfl
 simp only at rO rL hi
 simp only
 have hLl := rL.le
 have hLn := rL.len
 refine ⟨fun hlt => ?_, fun hlt => ?_⟩
 ·simp only [decide_eq_true_eq] at hlt
  refine ⟨⟨(0, [], 0), ⟨⟨rfl, Nat.le_refl _, rfl, rfl⟩, by simp⟩, ?_⟩, ?_⟩
  ·repeat' apply And.intro
   all_goals first | trivial | rfl
  rintro ⟨k, my, mc⟩ ⟨rM, hk⟩
  simp only at rM hk
  simp only [Int.toNat_natCast, Nat.mul_one]
  refine ⟨fun hk1 => ?_, fun hk1 => ?_⟩
  ·simp only [decide_eq_true_eq] at hk1
   refine ⟨by omega, by omega, ?_⟩
   rintro x21 rfl
   refine ⟨by omega, by omega, ?_⟩
   rintro x22 rfl x23 hx23
   refine ⟨⟨⟨rM.le, by rw [rM.len]; omega⟩, nle (Nat.le_refl _), by omega, by omega⟩, fun cap24 ys25 e24 => ?_⟩
   have rM2 := rM.next (zs := [x23]) (m := 1) rfl (by simpa only [Nat.mul_one] using e24)
   rw [hx23, ← xorL_take (by omega)] at rM2
   rintro x26 hx26
   rw [wrap64 (by omega) (by omega)] at hx26
   refine ⟨(k + 1, ys25, cap24), ⟨rM2, by simp only; omega⟩, ?_, by simp only; omega⟩
   repeat' apply And.intro
   all_goals first | trivial | rfl | (simp only; omega)
  simp only [decide_eq_false_iff_not] at hk1
  obtain rfl : k = 32 := by omega
  rw [List.take_of_length_le (by rw [xorL_length]; exact Nat.le_refl _)] at rM
  have hxor : xorL ys15 ly = xorL (firstL [] dst n) (bI (firstL [] dst n) (domL dst) i) := xorL_congr (by rw [rF.row, List.take_of_length_le (by rw [rF.xl]; exact Nat.le_refl _)]) (by rw [rL.row, List.take_of_length_le (by rw [rL.xl]; exact Nat.le_refl _)])
  rw [hxor] at rM
  have hMl2 := rM.le
  have hMn2 := rM.len
  rintro x28 rfl
  refine ⟨⟨by omega, Nat.le_refl _, by omega⟩, ?_⟩
  have t1 := rM.take1
  have t2 := rD.take1
  rw [Nat.mul_one] at t1 t2
  rw [t1, t2, rD.xl]
  refine ⟨⟨⟨rM.xl, rfl, rfl⟩, by omega⟩, ?_⟩
  rintro ys29 cap30 n31 rJ2 ys32 rfl
  have hJ2 := rJ2.le
  have hJ2n := rJ2.len
  have hJ2x := rJ2.xl
  have hMl3 : n31 = 32 + 1 + (l2 + 1) := by
   rw [← hJ2x]
   simp only [List.length_append, domL_length, hl2, xorL_length]
   simp
  have t3 := rJ2.take1
  rw [Nat.mul_one] at t3
  rw [t3]
  refine ⟨by omega, ⟨rJ2.xl, by omega, ((xorL_bytes _ _).append bytes1).append hDb⟩, ?_⟩
  rintro ys33 cap34 rB ys35 rfl
  have rB : Rw ys35 (bI (firstL [] dst n) (domL dst) (i + 1)) 32 cap34 := rB
  have hBl := rB.le
  have hBn := rB.len
  refine ⟨⟨⟨rO.le, by rw [rO.len]; omega⟩, nle (by omega), by omega, by omega⟩, fun cap36 ys37 e36 => ?_⟩
  have rO2 : Rw ys37 (outN (firstL [] dst n) (domL dst) (i + 1)) (32 * i + 32) cap36 := by
   refine rO.step (rB.xl) e36.1 e36.2.1 ?_
   have := e36.2.2
   rw [List.drop_zero, List.drop_zero, rB.row] at this
   exact this
  rintro x38 hx38
  rw [wrap64 (by omega) (by omega)] at hx38
  refine ⟨(i + 1, (ys37, cap36), (ys35, cap34)), ⟨rO2, rB, by simp only; omega⟩, ?_, by simp only; omega⟩
  repeat' apply And.intro
  all_goals first | trivial | rfl | (simp only; omega)
 simp only [decide_eq_false_iff_not] at hlt
 have hOl := rO.le
 refine ⟨by omega, ?_⟩
 have hE : expand [] dst n.toNat = (outN (firstL [] dst n) (domL dst) i).take n.toNat := by
  rw [expand_eq (i := i) (by omega) (by omega), hnn, Int.toNat_natCast]
 have rR := rO.cut (m := n.toNat) (by omega)
 rw [← hE] at rR
 exact hup.le (memL_sub [577, 681, 737, 739] rfl (by decide) (by
  intro x hx
  simp only [List.mem_cons, List.not_mem_nil, or_false] at hx ⊢
  exact .inr (.inr (.inl hx)))) (hK _ _ rR)
end Go.Sx
namespace Go.Sx
open Go
theorem bxor_zero {x : Int} (h1 : 0 ≤ x) (h2 : x < 256) : bxor .u8 x 0 = x := by
 obtain ⟨n, rfl⟩ := Int.eq_ofNat_of_zero_le h1
 have : ∀ k : Fin 256, bxor .u8 ((k.val : Nat) : Int) 0 = ((k.val : Nat) : Int) := by decide +kernel
 exact this ⟨n, by omega⟩
theorem xorL_zero {f : List Int} (hl : f.length = 32) (hb : Bytes f) : xorL f (List.replicate 32 0) = f := by
 apply List.ext_getElem
 ·rw [xorL_length, hl]
 ·intro i h1 h2
  have e0 : (xorL f (List.replicate 32 0))[i] = bxor .u8 (f.getD i 0) ((List.replicate 32 0).getD i 0) := by
   simp [xorL]
  rw [e0]
  have e1 : f.getD i 0 = f[i] := by simp [List.getD_eq_getElem?_getD, h2]
  have e2 : (List.replicate 32 (0 : Int)).getD i 0 = 0 := by
   rw [List.getD_eq_getElem?_getD, List.getElem?_replicate]
   split <;> rfl
  rw [e1, e2]
  exact bxor_zero (hb _ (List.getElem_mem h2)).1 (hb _ (List.getElem_mem h2)).2
theorem shr8 {n : Int} (h1 : 0 ≤ n) (h2 : n ≤ 65536) : shrv .i64 n 8 = IntKind.i64.wrap (Int.tdiv n 256) := by
 have e : shrv .i64 n 8 = n.fdiv 256 := rfl
 rw [e, Int.fdiv_eq_ediv_of_nonneg _ (by omega), Int.tdiv_eq_ediv_of_nonneg h1, wrap64 (by omega) (by omega)]
theorem res_step {res o b : List Int} {n j : Nat} (hl : res.length = n) (h : res.take (32 * j) = o.take n) (ho : o.length = 32 * j) (hb : b.length = 32) (hj : 32 * j < n) :
  (splice res (32 * j) (b.take (min 32 (min n (32 * (j + 1)) - 32 * j)))).length = n ∧
  (splice res (32 * j) (b.take (min 32 (min n (32 * (j + 1)) - 32 * j)))).take (32 * (j + 1)) = (o ++ b).take n := by
 generalize hq : b.take (min 32 (min n (32 * (j + 1)) - 32 * j)) = q
 have hql : q.length = min 32 (min n (32 * (j + 1)) - 32 * j) := by rw [← hq, List.length_take]; omega
 have hsl : (splice res (32 * j) q).length = n := by rw [splice_length (by omega), hl]
 refine ⟨hsl, ?_⟩
 have hmid := take_splice_mid (x := res) (q := q) (n := 32 * j) (by omega)
 rw [h, List.take_of_length_le (l := o) (by omega)] at hmid
 by_cases hc : 32 * (j + 1) ≤ n
 ·have e1 : q.length = 32 := by omega
  have e2 : q = b := by rw [← hq, List.take_of_length_le (by omega)]
  rw [e1] at hmid
  rw [show 32 * (j + 1) = 32 * j + 32 by omega, hmid, e2, List.take_of_length_le (by simp; omega)]
 ·have e1 : 32 * j + q.length = n := by omega
  rw [List.take_of_length_le (by omega)]
  rw [e1, List.take_of_length_le (by omega)] at hmid
  rw [hmid, List.take_append, List.take_of_length_le (l := o) (by omega), ho, ← hq]
  congr 2
  omega
end Go.Sx
namespace Go.Sx
open Go Go.Proofs
set_option maxRecDepth 100000
set_option maxHeartbeats 4000000
theorem ex_walk (msg dst : List Int) (l c l2 c2 : Nat) (n : Int) (K : SV → Mem → Prop) (hl : msg.length = l) (hl2 : dst.length = l2) (hc : l ≤ c) (hc2 : l2 ≤ c2) (hb : Bytes msg) (hb2 : Bytes dst) (h1 : l ≤ 65536) (h2 : l2 ≤ 65536) (hn : 32 ≤ n) (hn2 : n ≤ 65536) (hup : KUp K)
  (hK1 : n > 8160 → ∀ s, K (.tup [.val (.slice none 0 0), .iface 126 (.ptr 633 (.lit 0))]) (memL [(633, ⟨false, .cells [.val (.string s)]⟩)]))
  (hK2 : n ≤ 8160 → l2 > 255 → ∀ s, K (.tup [.val (.slice none 0 0), .iface 126 (.ptr 657 (.lit 0))]) (memL [(657, ⟨false, .cells [.val (.string s)]⟩)]))
  (hK : n ≤ 8160 → l2 ≤ 255 → ∀ ys, ys = expand msg dst n.toNat → K (.tup [.slice 1569 (.lit 0) (.sym n.toNat) (.sym n.toNat), .val .nilIface]) (memL [(1569, ⟨false, .ints .u8 ys⟩)])) :
  execF cxEX (uEX 17 msg dst n) Tryz.f47 64 [.slice 9 (.lit 0) (.sym l) (.sym c), .slice 17 (.lit 0) (.sym l2) (.sym c2), .int .i64 (.sym n)] (memL [(2, ⟨true, .ints .u32 kL⟩), (9, ⟨true, .ints .u8 msg⟩), (17, ⟨true, .ints .u8 dst⟩)]) K := by
 rw [vc_ex, take1 _ hl, take1 _ hl2]
 have hf : firstL msg dst n = sha (List.replicate 64 0 ++ msg ++ [IntKind.u8.wrap (shrv .i64 n 8), IntKind.u8.wrap n, 0] ++ dst ++ [IntKind.u8.wrap ((l2 : Nat) : Int)]) := by
  unfold firstL domL
  rw [shr8 (by omega) (by omega), hl2]
  simp only [List.append_assoc]
 have hfl : (firstL msg dst n).length = 32 := rfl
 have hfb : Bytes (firstL msg dst n) := sha_bytes _
 have hdom : domL dst = dst ++ [IntKind.u8.wrap ((l2 : Nat) : Int)] := by unfold domL; rw [hl2]
 have hexp : ∀ j : Nat, n ≤ 32 * (j : Int) → 32 * (j : Int) < n + 32 → expand msg dst n.toNat = (outN (firstL msg dst n) (domL dst) j).take n.toNat := fun j q1 q2 => by
  rw [expand_eq (i := j) (by omega) (by omega), show ((n.toNat : Nat) : Int) = n by omega]
 rintro ys0 rfl x1 rfl x2 hx2 x3 hx3
 rw [wrap64 (x := n + 32) (by omega) (by omega), wrap64 (by omega) (by omega)] at hx2
 rw [Int.tdiv_eq_ediv_of_nonneg (by omega), wrap64 (by omega) (by omega)] at hx3
 refine ⟨fun hbig => ?_, fun hbig => ?_⟩
 ·simp only [decide_eq_true_eq] at hbig
  exact hup.le (memL_sub [2, 9, 17, 529, 633] rfl (by decide) (by
   intro x hx
   simp only [List.mem_cons, List.not_mem_nil, or_false] at hx ⊢
   iterate 4 (apply Or.inr)
   exact hx)) (hK1 (by omega) _)
 simp only [decide_eq_false_iff_not] at hbig
 rintro x4 rfl
 refine ⟨fun hbig2 => ?_, fun hbig2 => ?_⟩
 ·simp only [decide_eq_true_eq] at hbig2
  exact hup.le (memL_sub [2, 9, 17, 529, 657] rfl (by decide) (by
   intro x hx
   simp only [List.mem_cons, List.not_mem_nil, or_false] at hx ⊢
   iterate 4 (apply Or.inr)
   exact hx)) (hK2 (by omega) (by omega) _)
 simp only [decide_eq_false_iff_not] at hbig2
 rintro x5 rfl x6 hx6
 rintro ys7 rfl
 refine ⟨by omega, ?_⟩
 refine ⟨Nat.le_refl _, [], ⟨rfl, Abs.empty rfl, ((bytes0 64).drop 0).take 64, rfl, Nat.le_refl _, by omega, by simp⟩, ?_⟩
 rintro x9 x10 x11 x12 a1 ys13 rfl
 have a1 : Abs (List.replicate 64 0) x9 ys13 x11 x12 := a1
 refine ⟨by omega, _, ⟨rfl, a1, hb, hl, hc, h1, by simp⟩, ?_⟩
 rintro x15 x16 x17 x18 a2 ys19 rfl x20 rfl x21 rfl x22 rfl
 refine ⟨Nat.le_refl _, _, ⟨rfl, a2, (bytes3.drop 0).take 3, rfl, Nat.le_refl _, by omega, by simp <;> omega⟩, ?_⟩
 rintro x24 x25 x26 x27 a3 ys28 rfl
 have a3 : Abs (List.replicate 64 0 ++ msg ++ [IntKind.u8.wrap (shrv .i64 n 8), IntKind.u8.wrap n, 0]) x24 ys28 x26 x27 := a3
 refine ⟨by omega, _, ⟨rfl, a3, hb2, hl2, hc2, h2, by simp <;> omega⟩, ?_⟩
 rintro x30 x31 x32 x33 a4 ys34 rfl
 subst hx6
 refine ⟨Nat.le_refl _, _, ⟨rfl, a4, (bytes1.drop 0).take 1, rfl, Nat.le_refl _, by omega, by simp <;> omega⟩, ?_⟩
 rintro x36 x37 x38 x39 a5 ys40 rfl
 refine ⟨_, ⟨rfl, a5, by simp <;> omega⟩, ?_⟩
 rintro ys42 cap43 ⟨f1, f2, f3⟩ ys44 rfl
 have f1 : ys44.take 32 = firstL msg dst n := f1.trans hf.symm
 rintro ys45 rfl
 have hx64 := a5.xl
 refine ⟨by omega, _, ⟨rfl, Abs.empty hx64, (by rw [List.drop_zero, f1]; exact hfb), (by rw [List.drop_zero, f1]; rfl), f3, by omega, by simp⟩, ?_⟩
 rintro x47 x48 x49 x50 b1 ys51 rfl
 rw [List.drop_zero, f1, List.nil_append] at b1
 refine ⟨Nat.le_refl _, _, ⟨rfl, b1, by simp [Bytes], rfl, Nat.le_refl _, by omega, by rw [hfl]; omega⟩, ?_⟩
 rintro x53 x54 x55 x56 b2 ys57 rfl
 have b2 : Abs (firstL msg dst n ++ [1]) x53 ys57 x55 x56 := b2
 refine ⟨by omega, _, ⟨rfl, b2, hb2, hl2, hc2, h2, by rw [List.length_append, hfl]; simp⟩, ?_⟩
 rintro x59 x60 x61 x62 b3 ys63 rfl
 refine ⟨Nat.le_refl _, _, ⟨rfl, b3, (bytes1.drop 0).take 1, rfl, Nat.le_refl _, by omega, by rw [List.length_append, List.length_append, hfl]; simp; omega⟩, ?_⟩
 rintro x65 x66 x67 x68 b4 ys69 rfl
 refine ⟨_, ⟨rfl, b4, by rw [List.length_append, List.length_append, List.length_append, hfl]; simp; omega⟩, ?_⟩
 rintro ys71 cap72 ⟨g1, g2, g3⟩ ys73 rfl
 have g1 : ys73.take 32 = bI (firstL msg dst n) (domL dst) 1 := by
  rw [g1]
  show sha _ = sha _
  rw [show bI (firstL msg dst n) (domL dst) 0 = List.replicate 32 0 from rfl, xorL_zero hfl hfb, hdom]
  simp only [List.append_assoc]
  rfl
 have rF : Rw ys44 (firstL msg dst n) 32 cap43 := ⟨hfl, f3, f2, f1⟩
 have rB : Rw ys73 (bI (firstL msg dst n) (domL dst) 1) 32 cap72 := ⟨bI_length _ _ _, g3, g2, g1⟩
 have hr0 := res_step (res := List.replicate n.toNat 0) (o := outN (firstL msg dst n) (domL dst) 0) (b := bI (firstL msg dst n) (domL dst) 1) (n := n.toNat) (j := 0) (by simp) (by simp [outN]) rfl (bI_length _ _ _) (by omega)
 rw [show min 32 (min n.toNat (32 * (0 + 1)) - 32 * 0) = 32 by omega, List.take_of_length_le (l := bI (firstL msg dst n) (domL dst) 1) (by rw [bI_length]; exact Nat.le_refl _)] at hr0
 rw [List.drop_zero, g1, Nat.mul_one]
 refine ⟨by omega, by omega, ⟨by omega, by simp <;> omega⟩, ?_⟩
 refine ⟨⟨⟨1, ys73, cap72, splice (List.replicate n.toNat 0) 0 (bI (firstL msg dst n) (domL dst) 1), x65, ys69, x67, x68⟩, ⟨Nat.le_refl _, by simp only; omega, rB, by simp only; rw [hr0.1]; omega, hr0.2, b4.xl⟩, ?_⟩, ?_⟩
 ·repeat' apply And.intro
  all_goals first | trivial | rfl
 clear hr0 g1 g2 g3 rB b4 b3 b2 b1 a5 a4 a3 a2 a1
 rintro ⟨j, b, bc, res, H, x, nx, len⟩ ⟨q1, q2, rB, q4, q5, q6⟩
 simp only at q1 q2 rB q4 q5 q6
 simp only
 have hFl := rF.le
 have hFn := rF.len
 have hBl := rB.le
 have hBn := rB.len
 refine ⟨fun hj => ?_, fun hj => ?_⟩
 ·simp only [decide_eq_true_eq] at hj
  rintro ys76 rfl
  refine ⟨by omega, ?_⟩
  refine ⟨⟨(0, List.replicate 32 0), ⟨by simp, by simp, by simp⟩, ?_⟩, ?_⟩
  ·repeat' apply And.intro
   all_goals first | trivial | rfl
  rintro ⟨k, w⟩ ⟨w1, w2, w3⟩
  simp only at w1 w2 w3
  simp only [Int.toNat_natCast, Nat.mul_one]
  refine ⟨fun hk => ?_, fun hk => ?_⟩
  ·simp only [decide_eq_true_eq] at hk
   refine ⟨by omega, by omega, ?_⟩
   rintro x79 rfl
   refine ⟨by omega, by omega, ?_⟩
   rintro x80 rfl x81 hx81
   refine ⟨by omega, by omega, ?_⟩
   rintro x82 hx82
   rw [wrap64 (by omega) (by omega)] at hx82
   refine ⟨(k + 1, w.set k x81), ⟨by simp only [List.length_set]; exact w1, ?_, by simp only; omega⟩, ?_, by simp only; omega⟩
   ·simp only
    rw [xorL_take (by omega), ← w2, ← hx81, List.take_add_one, List.take_set_of_le (Nat.le_refl _)]
    simp [show k < w.length by omega]
   ·repeat' apply And.intro
    all_goals first | trivial | rfl | (simp only; omega)
  simp only [decide_eq_false_iff_not] at hk
  obtain rfl : k = 32 := by omega
  rw [List.take_of_length_le (by omega), List.take_of_length_le (by rw [xorL_length]; exact Nat.le_refl _)] at w2
  have hxor : w = xorL (firstL msg dst n) (bI (firstL msg dst n) (domL dst) j) := by
   rw [w2]
   exact xorL_congr (by rw [rF.row, List.take_of_length_le (by rw [rF.xl]; exact Nat.le_refl _)]) (by rw [rB.row, List.take_of_length_le (by rw [rB.xl]; exact Nat.le_refl _)])
  have hwb : Bytes w := by rw [hxor]; exact xorL_bytes _ _
  have hw32 : List.take 32 (List.drop 0 w) = w := by rw [List.drop_zero, List.take_of_length_le (by omega)]
  rw [hw32]
  refine ⟨by omega, _, ⟨by trivial, Abs.empty q6, hwb, w1, Nat.le_refl _, by omega, by simp⟩, ?_⟩
  rintro x85 x86 x87 x88 c1 ys89 rfl x90 rfl
  rw [List.nil_append] at c1
  refine ⟨Nat.le_refl _, _, ⟨by trivial, c1, (bytes1.drop 0).take 1, rfl, Nat.le_refl _, by omega, by rw [w1]; omega⟩, ?_⟩
  rintro x92 x93 x94 x95 c2' ys96 rfl
  refine ⟨by omega, _, ⟨by trivial, c2', hb2, hl2, hc2, h2, by rw [List.length_append, w1]; simp⟩, ?_⟩
  rintro x98 x99 x100 x101 c3 ys102 rfl
  refine ⟨Nat.le_refl _, _, ⟨by trivial, c3, (bytes1.drop 0).take 1, rfl, Nat.le_refl _, by omega, by rw [List.length_append, List.length_append, w1]; simp; omega⟩, ?_⟩
  rintro x104 x105 x106 x107 c4 ys108 rfl
  refine ⟨_, ⟨by trivial, c4, by rw [List.length_append, List.length_append, List.length_append, w1]; simp; omega⟩, ?_⟩
  rintro ys110 cap111 ⟨g1, g2, g3⟩ ys112 rfl
  have g1 : ys112.take 32 = bI (firstL msg dst n) (domL dst) (j + 1) := by
   rw [g1]
   show sha _ = sha _
   rw [← hxor, hdom]
   simp only [List.append_assoc]
   rfl
  have rB2 : Rw ys112 (bI (firstL msg dst n) (domL dst) (j + 1)) 32 cap111 := ⟨bI_length _ _ _, g3, g2, g1⟩
  rintro x113 hx113 x114 hx114 x115 hx115 x116 hx116 x117 hx117
  rw [wrap64 (by omega) (by omega)] at hx113
  rw [hx113, wrap64 (by omega) (by omega)] at hx114
  rw [wrap64 (by omega) (by omega)] at hx115
  have e114 : x114.toNat = 32 * j := by omega
  have e117 : x117 = ((min n.toNat (32 * (j + 1)) : Nat) : Int) := by
   rw [hx117]
   split <;> omega
  have e117' : x117.toNat = min n.toNat (32 * (j + 1)) := by omega
  have hres := res_step (res := res) (o := outN (firstL msg dst n) (domL dst) j) (b := bI (firstL msg dst n) (domL dst) (j + 1)) (n := n.toNat) (j := j) (by omega) q5 (outN_length _ _ _) (bI_length _ _ _) (by omega)
  have htk : List.take (min 32 (x117.toNat - x114.toNat)) (List.drop 0 ys112) = (bI (firstL msg dst n) (domL dst) (j + 1)).take (min 32 (min n.toNat (32 * (j + 1)) - 32 * j)) := by
   rw [List.drop_zero, ← g1, List.take_take, e117', e114]
   congr 1
   omega
  rw [htk, if_neg (by omega), e114]
  refine ⟨⟨⟨by omega, by omega⟩, by omega, by omega⟩, ⟨by omega, by omega⟩, ?_⟩
  rintro x118 hx118
  rw [wrap64 (by omega) (by omega)] at hx118
  refine ⟨⟨j + 1, ys112, cap111, splice res (32 * j) ((bI (firstL msg dst n) (domL dst) (j + 1)).take (min 32 (min n.toNat (32 * (j + 1)) - 32 * j))), x104, ys108, x106, x107⟩, ⟨by simp only; omega, by simp only; omega, rB2, by simp only; rw [hres.1]; omega, hres.2, c4.xl⟩, ?_, by simp only; omega⟩
  repeat' apply And.intro
  all_goals first | trivial | rfl | (simp only; omega)
 simp only [decide_eq_false_iff_not] at hj
 rw [List.take_of_length_le (by omega)] at q5
 have hres : res = expand msg dst n.toNat := by rw [q5, hexp j (by omega) (by omega)]
 exact hup.le (memL_sub [2, 17, 529, 1177, 1569, 1641] rfl (by decide) (by
  intro x hx
  simp only [List.mem_cons, List.not_mem_nil, or_false] at hx ⊢
  exact .inr (.inr (.inr (.inr (.inl hx)))))) (hK (by omega) (by omega) _ hres)
theorem exn_walk (dst : List Int) (l2 c2 : Nat) (n : Int) (K : SV → Mem → Prop) (hl2 : dst.length = l2) (hc2 : l2 ≤ c2) (hb2 : Bytes dst) (h2 : l2 ≤ 65536) (hn : 32 ≤ n) (hn2 : n ≤ 65536) (hup : KUp K)
  (hK1 : n > 8160 → ∀ s, K (.tup [.val (.slice none 0 0), .iface 126 (.ptr 633 (.lit 0))]) (memL [(633, ⟨false, .cells [.val (.string s)]⟩)]))
  (hK2 : n ≤ 8160 → l2 > 255 → ∀ s, K (.tup [.val (.slice none 0 0), .iface 126 (.ptr 657 (.lit 0))]) (memL [(657, ⟨false, .cells [.val (.string s)]⟩)]))
  (hK : n ≤ 8160 → l2 ≤ 255 → ∀ ys, ys = expand [] dst n.toNat → K (.tup [.slice 1569 (.lit 0) (.sym n.toNat) (.sym n.toNat), .val .nilIface]) (memL [(1569, ⟨false, .ints .u8 ys⟩)])) :
  execF cxEX (uEX 9 [] dst n) Tryz.f47 64 [.val (.slice none 0 0), .slice 9 (.lit 0) (.sym l2) (.sym c2), .int .i64 (.sym n)] (memL [(2, ⟨true, .ints .u32 kL⟩), (9, ⟨true, .ints .u8 dst⟩)]) K := by
 rw [vc_exn, take1 _ hl2]
 have hf : firstL [] dst n = sha (List.replicate 64 0 ++ [IntKind.u8.wrap (shrv .i64 n 8), IntKind.u8.wrap n, 0] ++ dst ++ [IntKind.u8.wrap ((l2 : Nat) : Int)]) := by
  unfold firstL domL
  rw [shr8 (by omega) (by omega), hl2]
  simp only [List.append_assoc, List.nil_append]
 have hfl : (firstL [] dst n).length = 32 := rfl
 have hfb : Bytes (firstL [] dst n) := sha_bytes _
 have hdom : domL dst = dst ++ [IntKind.u8.wrap ((l2 : Nat) : Int)] := by unfold domL; rw [hl2]
 have hexp : ∀ j : Nat, n ≤ 32 * (j : Int) → 32 * (j : Int) < n + 32 → expand [] dst n.toNat = (outN (firstL [] dst n) (domL dst) j).take n.toNat := fun j q1 q2 => by
  rw [expand_eq (i := j) (by omega) (by omega), show ((n.toNat : Nat) : Int) = n by omega]
 rintro ys0 rfl x1 rfl x2 hx2 x3 hx3
 rw [wrap64 (x := n + 32) (by omega) (by omega), wrap64 (by omega) (by omega)] at hx2
 rw [Int.tdiv_eq_ediv_of_nonneg (by omega), wrap64 (by omega) (by omega)] at hx3
 refine ⟨fun hbig => ?_, fun hbig => ?_⟩
 ·simp only [decide_eq_true_eq] at hbig
  exact hup.le (memL_sub [2, 9, 529, 633] rfl (by decide) (by
   intro x hx
   simp only [List.mem_cons, List.not_mem_nil, or_false] at hx ⊢
   iterate 3 (apply Or.inr)
   exact hx)) (hK1 (by omega) _)
 simp only [decide_eq_false_iff_not] at hbig
 rintro x4 rfl
 refine ⟨fun hbig2 => ?_, fun hbig2 => ?_⟩
 ·simp only [decide_eq_true_eq] at hbig2
  exact hup.le (memL_sub [2, 9, 529, 657] rfl (by decide) (by
   intro x hx
   simp only [List.mem_cons, List.not_mem_nil, or_false] at hx ⊢
   iterate 3 (apply Or.inr)
   exact hx)) (hK2 (by omega) (by omega) _)
 simp only [decide_eq_false_iff_not] at hbig2
 rintro x5 rfl x6 hx6
 rintro ys7 rfl
 refine ⟨by omega, ?_⟩
 refine ⟨Nat.le_refl _, [], ⟨rfl, Abs.empty rfl, ((bytes0 64).drop 0).take 64, rfl, Nat.le_refl _, by omega, by simp⟩, ?_⟩
 rintro x9 x10 x11 x12 a1 ys13 rfl
 have a1 : Abs (List.replicate 64 0) x9 ys13 x11 x12 := a1
 refine ⟨_, ⟨rfl, a1, by simp, by simp⟩, ?_⟩
 rintro x15 x16 x17 x18 a2 ys19 rfl x20 rfl x21 rfl x22 rfl
 refine ⟨Nat.le_refl _, _, ⟨rfl, a2, (bytes3.drop 0).take 3, rfl, Nat.le_refl _, by omega, by simp <;> omega⟩, ?_⟩
 rintro x24 x25 x26 x27 a3 ys28 rfl
 have a3 : Abs (List.replicate 64 0 ++ [IntKind.u8.wrap (shrv .i64 n 8), IntKind.u8.wrap n, 0]) x24 ys28 x26 x27 := a3
 refine ⟨by omega, _, ⟨rfl, a3, hb2, hl2, hc2, h2, by simp <;> omega⟩, ?_⟩
 rintro x30 x31 x32 x33 a4 ys34 rfl
 subst hx6
 refine ⟨Nat.le_refl _, _, ⟨rfl, a4, (bytes1.drop 0).take 1, rfl, Nat.le_refl _, by omega, by simp <;> omega⟩, ?_⟩
 rintro x36 x37 x38 x39 a5 ys40 rfl
 refine ⟨_, ⟨rfl, a5, by simp <;> omega⟩, ?_⟩
 rintro ys42 cap43 ⟨f1, f2, f3⟩ ys44 rfl
 have f1 : ys44.take 32 = firstL [] dst n := f1.trans hf.symm
 rintro ys45 rfl
 have hx64 := a5.xl
 refine ⟨by omega, _, ⟨rfl, Abs.empty hx64, (by rw [List.drop_zero, f1]; exact hfb), (by rw [List.drop_zero, f1]; rfl), f3, by omega, by simp⟩, ?_⟩
 rintro x47 x48 x49 x50 b1 ys51 rfl
 rw [List.drop_zero, f1, List.nil_append] at b1
 refine ⟨Nat.le_refl _, _, ⟨rfl, b1, by simp [Bytes], rfl, Nat.le_refl _, by omega, by rw [hfl]; omega⟩, ?_⟩
 rintro x53 x54 x55 x56 b2 ys57 rfl
 have b2 : Abs (firstL [] dst n ++ [1]) x53 ys57 x55 x56 := b2
 refine ⟨by omega, _, ⟨rfl, b2, hb2, hl2, hc2, h2, by rw [List.length_append, hfl]; simp⟩, ?_⟩
 rintro x59 x60 x61 x62 b3 ys63 rfl
 refine ⟨Nat.le_refl _, _, ⟨rfl, b3, (bytes1.drop 0).take 1, rfl, Nat.le_refl _, by omega, by rw [List.length_append, List.length_append, hfl]; simp; omega⟩, ?_⟩
 rintro x65 x66 x67 x68 b4 ys69 rfl
 refine ⟨_, ⟨rfl, b4, by rw [List.length_append, List.length_append, List.length_append, hfl]; simp; omega⟩, ?_⟩
 rintro ys71 cap72 ⟨g1, g2, g3⟩ ys73 rfl
 have g1 : ys73.take 32 = bI (firstL [] dst n) (domL dst) 1 := by
  rw [g1]
  show sha _ = sha _
  rw [show bI (firstL [] dst n) (domL dst) 0 = List.replicate 32 0 from rfl, xorL_zero hfl hfb, hdom]
  simp only [List.append_assoc]
  rfl
 have rF : Rw ys44 (firstL [] dst n) 32 cap43 := ⟨hfl, f3, f2, f1⟩
 have rB : Rw ys73 (bI (firstL [] dst n) (domL dst) 1) 32 cap72 := ⟨bI_length _ _ _, g3, g2, g1⟩
 have hr0 := res_step (res := List.replicate n.toNat 0) (o := outN (firstL [] dst n) (domL dst) 0) (b := bI (firstL [] dst n) (domL dst) 1) (n := n.toNat) (j := 0) (by simp) (by simp [outN]) rfl (bI_length _ _ _) (by omega)
 rw [show min 32 (min n.toNat (32 * (0 + 1)) - 32 * 0) = 32 by omega, List.take_of_length_le (l := bI (firstL [] dst n) (domL dst) 1) (by rw [bI_length]; exact Nat.le_refl _)] at hr0
 rw [List.drop_zero, g1, Nat.mul_one]
 refine ⟨by omega, by omega, ⟨by omega, by simp <;> omega⟩, ?_⟩
 refine ⟨⟨⟨1, ys73, cap72, splice (List.replicate n.toNat 0) 0 (bI (firstL [] dst n) (domL dst) 1), x65, ys69, x67, x68⟩, ⟨Nat.le_refl _, by simp only; omega, rB, by simp only; rw [hr0.1]; omega, hr0.2, b4.xl⟩, ?_⟩, ?_⟩
 ·repeat' apply And.intro
  all_goals first | trivial | rfl
 clear hr0 g1 g2 g3 rB b4 b3 b2 b1 a5 a4 a3 a2 a1
 rintro ⟨j, b, bc, res, H, x, nx, len⟩ ⟨q1, q2, rB, q4, q5, q6⟩
 simp only at q1 q2 rB q4 q5 q6
 simp only
 have hFl := rF.le
 have hFn := rF.len
 have hBl := rB.le
 have hBn := rB.len
 refine ⟨fun hj => ?_, fun hj => ?_⟩
 ·simp only [decide_eq_true_eq] at hj
  rintro ys76 rfl
  refine ⟨by omega, ?_⟩
  refine ⟨⟨(0, List.replicate 32 0), ⟨by simp, by simp, by simp⟩, ?_⟩, ?_⟩
  ·repeat' apply And.intro
   all_goals first | trivial | rfl
  rintro ⟨k, w⟩ ⟨w1, w2, w3⟩
  simp only at w1 w2 w3
  simp only [Int.toNat_natCast, Nat.mul_one]
  refine ⟨fun hk => ?_, fun hk => ?_⟩
  ·simp only [decide_eq_true_eq] at hk
   refine ⟨by omega, by omega, ?_⟩
   rintro x79 rfl
   refine ⟨by omega, by omega, ?_⟩
   rintro x80 rfl x81 hx81
   refine ⟨by omega, by omega, ?_⟩
   rintro x82 hx82
   rw [wrap64 (by omega) (by omega)] at hx82
   refine ⟨(k + 1, w.set k x81), ⟨by simp only [List.length_set]; exact w1, ?_, by simp only; omega⟩, ?_, by simp only; omega⟩
   ·simp only
    rw [xorL_take (by omega), ← w2, ← hx81, List.take_add_one, List.take_set_of_le (Nat.le_refl _)]
    simp [show k < w.length by omega]
   ·repeat' apply And.intro
    all_goals first | trivial | rfl | (simp only; omega)
  simp only [decide_eq_false_iff_not] at hk
  obtain rfl : k = 32 := by omega
  rw [List.take_of_length_le (by omega), List.take_of_length_le (by rw [xorL_length]; exact Nat.le_refl _)] at w2
  have hxor : w = xorL (firstL [] dst n) (bI (firstL [] dst n) (domL dst) j) := by
   rw [w2]
   exact xorL_congr (by rw [rF.row, List.take_of_length_le (by rw [rF.xl]; exact Nat.le_refl _)]) (by rw [rB.row, List.take_of_length_le (by rw [rB.xl]; exact Nat.le_refl _)])
  have hwb : Bytes w := by rw [hxor]; exact xorL_bytes _ _
  have hw32 : List.take 32 (List.drop 0 w) = w := by rw [List.drop_zero, List.take_of_length_le (by omega)]
  rw [hw32]
  refine ⟨by omega, _, ⟨by trivial, Abs.empty q6, hwb, w1, Nat.le_refl _, by omega, by simp⟩, ?_⟩
  rintro x85 x86 x87 x88 c1 ys89 rfl x90 rfl
  rw [List.nil_append] at c1
  refine ⟨Nat.le_refl _, _, ⟨by trivial, c1, (bytes1.drop 0).take 1, rfl, Nat.le_refl _, by omega, by rw [w1]; omega⟩, ?_⟩
  rintro x92 x93 x94 x95 c2' ys96 rfl
  refine ⟨by omega, _, ⟨by trivial, c2', hb2, hl2, hc2, h2, by rw [List.length_append, w1]; simp⟩, ?_⟩
  rintro x98 x99 x100 x101 c3 ys102 rfl
  refine ⟨Nat.le_refl _, _, ⟨by trivial, c3, (bytes1.drop 0).take 1, rfl, Nat.le_refl _, by omega, by rw [List.length_append, List.length_append, w1]; simp; omega⟩, ?_⟩
  rintro x104 x105 x106 x107 c4 ys108 rfl
  refine ⟨_, ⟨by trivial, c4, by rw [List.length_append, List.length_append, List.length_append, w1]; simp; omega⟩, ?_⟩
  rintro ys110 cap111 ⟨g1, g2, g3⟩ ys112 rfl
  have g1 : ys112.take 32 = bI (firstL [] dst n) (domL dst) (j + 1) := by
   rw [g1]
   show sha _ = sha _
   rw [← hxor, hdom]
   simp only [List.append_assoc]
   rfl
  have rB2 : Rw ys112 (bI (firstL [] dst n) (domL dst) (j + 1)) 32 cap111 := ⟨bI_length _ _ _, g3, g2, g1⟩
  rintro x113 hx113 x114 hx114 x115 hx115 x116 hx116 x117 hx117
  rw [wrap64 (by omega) (by omega)] at hx113
  rw [hx113, wrap64 (by omega) (by omega)] at hx114
  rw [wrap64 (by omega) (by omega)] at hx115
  have e114 : x114.toNat = 32 * j := by omega
  have e117 : x117 = ((min n.toNat (32 * (j + 1)) : Nat) : Int) := by
   rw [hx117]
   split <;> omega
  have e117' : x117.toNat = min n.toNat (32 * (j + 1)) := by omega
  have hres := res_step (res := res) (o := outN (firstL [] dst n) (domL dst) j) (b := bI (firstL [] dst n) (domL dst) (j + 1)) (n := n.toNat) (j := j) (by omega) q5 (outN_length _ _ _) (bI_length _ _ _) (by omega)
  have htk : List.take (min 32 (x117.toNat - x114.toNat)) (List.drop 0 ys112) = (bI (firstL [] dst n) (domL dst) (j + 1)).take (min 32 (min n.toNat (32 * (j + 1)) - 32 * j)) := by
   rw [List.drop_zero, ← g1, List.take_take, e117', e114]
   congr 1
   omega
  rw [htk, if_neg (by omega), e114]
  refine ⟨⟨⟨by omega, by omega⟩, by omega, by omega⟩, ⟨by omega, by omega⟩, ?_⟩
  rintro x118 hx118
  rw [wrap64 (by omega) (by omega)] at hx118
  refine ⟨⟨j + 1, ys112, cap111, splice res (32 * j) ((bI (firstL [] dst n) (domL dst) (j + 1)).take (min 32 (min n.toNat (32 * (j + 1)) - 32 * j))), x104, ys108, x106, x107⟩, ⟨by simp only; omega, by simp only; omega, rB2, by simp only; rw [hres.1]; omega, hres.2, c4.xl⟩, ?_, by simp only; omega⟩
  repeat' apply And.intro
  all_goals first | trivial | rfl | (simp only; omega)
 simp only [decide_eq_false_iff_not] at hj
 rw [List.take_of_length_le (by omega)] at q5
 have hres : res = expand [] dst n.toNat := by rw [q5, hexp j (by omega) (by omega)]
 exact hup.le (memL_sub [2, 9, 529, 1177, 1569, 1641] rfl (by decide) (by
  intro x hx
  simp only [List.mem_cons, List.not_mem_nil, or_false] at hx ⊢
  exact .inr (.inr (.inr (.inr (.inl hx)))))) (hK (by omega) (by omega) _ hres)
end Go.Sx
namespace Go.Sx
open Go Go.Proofs
set_option maxRecDepth 100000
theorem vc_clone (xs : List Int) (l c : Nat) (K : SV → Mem → Prop) : (execF cx0 u0 Tryz.f11 64 [.slice 1 (.lit 0) (.sym l) (.sym c)] (memL [(1, ⟨true, .ints .u8 xs⟩)]) K) = ((((0 : Nat) ≤ (0 : Nat) ∧ (0 : Nat) ≤ (0 : Nat)) ∧ Nat.le (0 + l *
 1) xs.length ∧ (0 + l) * 1 ≤ 549755813888 ∧ 0 + l ≤ 549755813888) ∧ ∀ (a : Nat) (b : List Int), 0 + l ≤ a ∧ b.length = a * 1 ∧ List.take ((0 + l) * 1) b = List.take 0 (List.drop 0 []) ++ List.take (l * 1) (List.drop 0 xs) → K (.slice 553
 (.lit 0) (.sym l) (.sym a)) (memL [(1, ⟨true, .ints .u8 xs⟩), (553, ⟨false, .ints .u8 b⟩)])) := by kernel_rfl
theorem vc_clonen (K : SV → Mem → Prop) : (execF cx0 u0 Tryz.f11 64 [.val (.slice none 0 0)] (memL []) K) = K (.val (.slice none 0 0)) Tr.leaf := by kernel_rfl
def gClone : G0 := fun args l K =>
 match args, l with
 | [.slice 1 (.lit 0) (.sym n) (.sym _)], [(1, ⟨true, .ints .u8 xs⟩)] =>
  (xs.length = n ∧ n ≤ 2 ^ 39) ∧ ∀ ys cap, Rw ys xs n cap → K (.slice 553 (.lit 0) (.sym n) (.sym cap)) (memL [(553, ⟨false, .ints .u8 ys⟩)])
 | [.val (.slice none 0 0)], [] => K (.val (.slice none 0 0)) (memL [])
 | _, _ => False
theorem clone_good : Good gClone := by
 constructor
 ·intro args l K K' hk h
  unfold gClone at h ⊢
  split at h
  ·exact ⟨h.1, fun ys cap hy => hk _ _ (h.2 ys cap hy)⟩
  ·exact hk _ _ h
  ·exact h.elim
 ·intro args l K h
  unfold gClone at h
  split at h
  ·obtain ⟨⟨rfl, _⟩, h2⟩ := h
   exact ⟨_, _, h2 _ _ (Rw.self _)⟩
  ·exact ⟨_, _, h⟩
  ·exact h.elim
theorem clone_ok (args : List SV) (l : List (Nat × Reg)) (K : SV → Mem → Prop) (hup : KUp K) (h : gClone args l K) : ∃ U, execF cx0 U Tryz.f11 64 args (memL l) K := by
 refine ⟨u0, ?_⟩
 unfold gClone at h
 split at h
 ·obtain ⟨⟨h1, h2⟩, h3⟩ := h
  rw [vc_clone]
  refine ⟨⟨by omega, nle (by omega), by omega, by omega⟩, fun cap ys e => ?_⟩
  exact hup.le (memL_sub [1, 553] rfl (by decide) (by
   intro x hx
   simp only [List.mem_cons, List.not_mem_nil, or_false] at hx ⊢
   exact .inr hx)) (h3 _ _ (Rw.first h1 e))
 ·rw [vc_clonen]
  exact h
 ·exact h.elim
def cClone : Ef Tryz.prog := mkE mixed 11 Tryz.func11 (by decide) (by kernel_rfl) [] [.sl 1 true] gClone clone_good clone_ok
def exK (msg dst : List Int) (n : Int) (K : SV → Mem → Prop) : Prop :=
 (n > 8160 → ∀ s, K (.tup [.val (.slice none 0 0), .iface 126 (.ptr 633 (.lit 0))]) (memL [(633, ⟨false, .cells [.val (.string s)]⟩)])) ∧
 (n ≤ 8160 → dst.length > 255 → ∀ s, K (.tup [.val (.slice none 0 0), .iface 126 (.ptr 657 (.lit 0))]) (memL [(657, ⟨false, .cells [.val (.string s)]⟩)])) ∧
 (n ≤ 8160 → dst.length ≤ 255 → ∀ ys, ys = expand msg dst n.toNat → K (.tup [.slice 1569 (.lit 0) (.sym n.toNat) (.sym n.toNat), .val .nilIface]) (memL [(1569, ⟨false, .ints .u8 ys⟩)]))
def gEX : G0 := fun args l K =>
 match args, l with
 | [.slice 9 (.lit 0) (.sym n1) (.sym c1), .slice 17 (.lit 0) (.sym n2) (.sym c2), .int .i64 (.sym n)], [(2, ⟨true, .ints .u32 ks⟩), (9, ⟨true, .ints .u8 msg⟩), (17, ⟨true, .ints .u8 dst⟩)] =>
  (ks = kL ∧ msg.length = n1 ∧ dst.length = n2 ∧ n1 ≤ c1 ∧ n2 ≤ c2 ∧ Bytes msg ∧ Bytes dst ∧ n1 ≤ 65536 ∧ n2 ≤ 65536 ∧ 32 ≤ n ∧ n ≤ 65536) ∧ exK msg dst n K
 | [.val (.slice none 0 0), .slice 9 (.lit 0) (.sym n2) (.sym c2), .int .i64 (.sym n)], [(2, ⟨true, .ints .u32 ks⟩), (9, ⟨true, .ints .u8 dst⟩)] =>
  (ks = kL ∧ dst.length = n2 ∧ n2 ≤ c2 ∧ Bytes dst ∧ n2 ≤ 65536 ∧ 32 ≤ n ∧ n ≤ 65536) ∧ exK [] dst n K
 | _, _ => False
theorem exK_mono {msg dst : List Int} {n : Int} {K K' : SV → Mem → Prop} (hk : ∀ v m, K v m → K' v m) (h : exK msg dst n K) : exK msg dst n K' :=
 ⟨fun a s => hk _ _ (h.1 a s), fun a b s => hk _ _ (h.2.1 a b s), fun a b ys e => hk _ _ (h.2.2 a b ys e)⟩
theorem exK_live {msg dst : List Int} {n : Int} {K : SV → Mem → Prop} (h : exK msg dst n K) : ∃ v m, K v m := by
 by_cases h1 : n > 8160
 ·exact ⟨_, _, h.1 h1 .empty⟩
 ·by_cases h2 : dst.length > 255
  ·exact ⟨_, _, h.2.1 (by omega) h2 .empty⟩
  ·exact ⟨_, _, h.2.2 (by omega) (by omega) _ rfl⟩
theorem ex_good : Good gEX := by
 constructor
 ·intro args l K K' hk h
  unfold gEX at h ⊢
  split at h
  ·exact ⟨h.1, exK_mono hk h.2⟩
  ·exact ⟨h.1, exK_mono hk h.2⟩
  ·exact h.elim
 ·intro args l K h
  unfold gEX at h
  split at h
  ·exact exK_live h.2
  ·exact exK_live h.2
  ·exact h.elim
theorem ex_ok (args : List SV) (l : List (Nat × Reg)) (K : SV → Mem → Prop) (hup : KUp K) (h : gEX args l K) : ∃ U, execF cxEX U Tryz.f47 64 args (memL l) K := by
 unfold gEX at h
 split at h
 ·rename_i n1 c1 n2 c2 n ks msg dst
  obtain ⟨⟨hk, h1, h2, h3, h4, h5, h6, h7, h8, h9, h10⟩, ha, hb, hc⟩ := h
  subst hk
  subst h2
  exact ⟨uEX 17 msg dst n, ex_walk msg dst n1 c1 _ c2 n K h1 rfl h3 h4 h5 h6 h7 h8 h9 h10 hup ha hb hc⟩
 ·rename_i n2 c2 n ks dst
  obtain ⟨⟨hk, h2, h4, h6, h8, h9, h10⟩, ha, hb, hc⟩ := h
  subst hk
  subst h2
  exact ⟨uEX 9 [] dst n, exn_walk dst _ c2 n K rfl h4 h6 h8 h9 h10 hup ha hb hc⟩
 ·exact h.elim
def cEX : Ef Tryz.prog := mkE mixed 47 Tryz.func47 (by decide) (by kernel_rfl) [1] [.sl 1 true, .sl 1 true, .num] gEX ex_good ex_ok
def gSE : G0 := fun args l K =>
 match args, l with
 | [.slice 1 (.lit 0) (.sym n1) (.sym _), .slice 9 (.lit 0) (.sym n2) (.sym _), .int .i64 (.sym n)], [(1, ⟨true, .ints .u8 msg⟩), (9, ⟨true, .ints .u8 dst⟩)] =>
  (msg.length = n1 ∧ dst.length = n2 ∧ Bytes msg ∧ Bytes dst ∧ n1 ≤ 65536 ∧ n2 ≤ 65536 ∧ 0 ≤ n ∧ n ≤ 65536) ∧
   ∀ ys cap, Rw ys (expand msg dst n.toNat) n.toNat cap → K (.slice 737 (.lit 0) (.sym n.toNat) (.sym cap)) (memL [(737, ⟨false, .ints .u8 ys⟩)])
 | [.val (.slice none 0 0), .slice 1 (.lit 0) (.sym n2) (.sym _), .int .i64 (.sym n)], [(1, ⟨true, .ints .u8 dst⟩)] =>
  (dst.length = n2 ∧ Bytes dst ∧ n2 ≤ 65536 ∧ 0 ≤ n ∧ n ≤ 65536) ∧
   ∀ ys cap, Rw ys (expand [] dst n.toNat) n.toNat cap → K (.slice 737 (.lit 0) (.sym n.toNat) (.sym cap)) (memL [(737, ⟨false, .ints .u8 ys⟩)])
 | _, _ => False
theorem Rw.made {xs : List Int} {n : Nat} (h : xs.length = n) : Rw xs xs n n := ⟨h, Nat.le_refl _, h, List.take_of_length_le (by omega)⟩
theorem se_good : Good gSE := by
 constructor
 ·intro args l K K' hk h
  unfold gSE at h ⊢
  split at h
  ·exact ⟨h.1, fun ys cap hy => hk _ _ (h.2 ys cap hy)⟩
  ·exact ⟨h.1, fun ys cap hy => hk _ _ (h.2 ys cap hy)⟩
  ·exact h.elim
 ·intro args l K h
  unfold gSE at h
  split at h
  ·exact ⟨_, _, h.2 _ _ (Rw.made (expand_length _ _ _))⟩
  ·exact ⟨_, _, h.2 _ _ (Rw.made (expand_length _ _ _))⟩
  ·exact h.elim
theorem se_ok (args : List SV) (l : List (Nat × Reg)) (K : SV → Mem → Prop) (hup : KUp K) (h : gSE args l K) : ∃ U, execF cxSE U Tryz.f15 64 args (memL l) K := by
 unfold gSE at h
 split at h
 ·rename_i n1 c1 n2 c2 n msg dst
  obtain ⟨⟨h1, h2, h5, h6, h7, h8, h9, h10⟩, hc⟩ := h
  exact ⟨uSE msg dst n, se_walk msg dst n1 c1 n2 c2 n K h1 h2 h5 h6 h7 h8 h9 h10 hup hc⟩
 ·rename_i n2 c2 n dst
  obtain ⟨⟨h2, h6, h8, h9, h10⟩, hc⟩ := h
  exact ⟨uSE [] dst n, sen_walk dst n2 c2 n K h2 h6 h8 h9 h10 hup hc⟩
 ·exact h.elim
def cSE : Ef Tryz.prog := mkNw mixed 15 Tryz.func15 (by decide) (by kernel_rfl) [] [.sl 1 true, .sl 1 true, .num] gSE se_good se_ok
def cxFH : Cx Tryz.prog := { rds := [], efs := [cEX, cSY], eqs := [] }
def elW (x : Nat) : List Int := [lm x 0, lm x 1, lm x 2, lm x 3]
def hfW (f : Nat → Nat) : Nat → List Int
 | 0 => []
 | n + 1 => hfW f n ++ elW (f n)
def chN (ys : List Int) (j : Nat) : Nat := beN ((ys.drop (48 * j)).take 48)
def liFH (ys : List Int) (n : Nat) : LI where
 ι := Nat × List Int
 keep := [9, 11, 27]
 keepR := [2, 577]
 F := fun s => ⟨[(28, i64n s.1)], [(649, ⟨false, .ints .u64 s.2⟩)]⟩
 I := fun _ s => s.1 ≤ n ∧ s.2.length = n * 4 ∧ s.2.take (4 * s.1) = hfW (fun j => mont (chN ys j)) s.1
 μ := fun s => n - s.1
def uFH (ys : List Int) (n : Nat) : Nat → Lp := fun b => match b with | 0 => .inv (liFH ys n) | _ => .un 0
end Go.Sx
