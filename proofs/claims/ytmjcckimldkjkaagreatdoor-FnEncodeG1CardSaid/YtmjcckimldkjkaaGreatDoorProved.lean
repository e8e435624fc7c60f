/- Part 6 of the proof: for every message and domain the law FnEncodeG1 returns true (a verified symbolic evaluator, contracts of each function reached, the law, its row and card). Conditions: those of the given statement, none besides. -/
import Derived.Test.YtmjcckimldkjkaaGreatDoorRows
import Derived.Test.YtmjcckimldkjkaaGreatDoorTie
import Derived.Test.YtmjcckimldkjkaaGreatDoorCards
import Derived.ProofKit
import Derived.LaidMore
import Derived.LaidLaws
import Derived.LaidHandle
import Derived.MakeChecks
import Derived.OpenShut
import Derived.Carry
import Derived.Stop.Joined
import Derived.SevenTiedAt
import Derived.Test.YtmjcckimldkjkaaGreatDoorSx5
namespace Go.Sx
open Go Go.Proofs Go.Num
set_option maxRecDepth 100000
def cxBc : Cx Tryz.prog := { rds := [], efs := [cSu], eqs := [] }
theorem vc_bc (K : SV → Mem → Prop) : (execF cxBc u9 Tryz.f55 64 [] (memL []) K) = (Wd 3 ∧ ∀ a : Nat, a = 19052624634359457937016868847204597229365286637454337178037183604060995791063 → K (.ptr 521 (.lit 0)) (memL [(521, ⟨false, .cells
 [.int .u64 (.sym (lm a 0)), .int .u64 (.sym (lm a 1)), .int .u64 (.sym (lm a 2)), .int .u64 (.sym (lm a 3))]⟩)])) := by kernel_rfl
def BcR (y0 y1 y2 y3 : Int) : Prop := El y0 y1 y2 y3 (mont 3)
theorem mont3 : mont 3 = 19052624634359457937016868847204597229365286637454337178037183604060995791063 := by decide +kernel
def gBc : G0 := fun args l K =>
 match args, l with
 | [], [] => ∀ y0 y1 y2 y3, BcR y0 y1 y2 y3 → K (.ptr 521 (.lit 0)) (memL [(521, ⟨false, w4 y0 y1 y2 y3⟩)])
 | _, _ => False
theorem bc_good : Good gBc := by
 constructor
 ·intro args l K K' hk h
  unfold gBc at h ⊢
  split at h
  ·exact fun y0 y1 y2 y3 hy => hk _ _ (h y0 y1 y2 y3 hy)
  ·exact h.elim
 ·intro args l K h
  unfold gBc at h
  split at h
  ·exact ⟨_, _, h _ _ _ _ (El.of (mont_lt 3))⟩
  ·exact h.elim
theorem bc_ok (args : List SV) (l : List (Nat × Reg)) (K : SV → Mem → Prop) (hup : KUp K) (h : gBc args l K) : ∃ U, execF cxBc U Tryz.f55 64 args (memL l) K := by
 unfold gBc at h
 split at h
 ·refine ⟨u9, ?_⟩
  rw [vc_bc]
  refine ⟨by decide, fun r hr => ?_⟩
  have := h _ _ _ _ (El.of (mont_lt 3))
  rw [hr, ← mont3]
  exact this
 ·exact h.elim
def kBc : Ef Tryz.prog := mkNw mixed 55 Tryz.func55 (by decide) (by kernel_rfl) [] [] gBc bc_good bc_ok
def cxSg : Cx Tryz.prog := { rds := [cBits], efs := [], eqs := [] }
theorem vc_sg (a0 a1 a2 a3 : Int) (K : SV → Mem → Prop) : (execF cxSg u9 Tryz.f59 64 [.ptr 1 (.lit 0)] (memL [(1, ⟨true, w4 a0 a1 a2 a3⟩)]) K) = (W4 a0 a1 a2 a3 ∧ B4 (bitsV a0 a1 a2 a3 0) (bitsV a0 a1 a2 a3 1) (bitsV a0 a1 a2 a3 2) (bitsV
 a0 a1 a2 a3 3) fun a b c d => B1 (Int.tmod a 2) fun e => K (U e) (memL [(1, ⟨true, .cells [U a0, U a1, U a2, U a3]⟩), (537, ⟨false, .cells [U a, U b, U c, U d]⟩)])) := by kernel_rfl
def rSg : R0 := fun args l =>
 match args, l with
 | [.ptr 1 (.lit 0)], [(1, ⟨true, x⟩)] => r4 x fun a b c d => some (some (Wd a ∧ Wd b ∧ Wd c ∧ Wd d), .int .u64 (.sym ((mmul (V4 a b c d).toNat 1 % 2 : Nat) : Int)))
 | _, _ => none
theorem sg_val {a b c d : Int} : Int.tmod (bitsV a b c d 0) 2 = ((mmul (V4 a b c d).toNat 1 % 2 : Nat) : Int) := by
 unfold bitsV
 exact par (ws_q (mmul_lt _ _))
theorem sg_ok (args : List SV) (l : List (Nat × Reg)) (p : Ob) (v : SV) (h : rSg args l = some (p, v)) (hp : p.ok) : ∃ U, execF cxSg U Tryz.f59 64 args (memL l) fun v' _ => v' = v := by
 unfold rSg at h
 split at h
 ·rename_i x
  obtain ⟨a, b, c, d, rfl, q⟩ := r4_ex h
  simp only [Option.some.injEq, Prod.mk.injEq] at q
  obtain ⟨rfl, rfl⟩ := q
  refine ⟨u9, ?_⟩
  rw [vc_sg]
  refine ⟨hp, ?_⟩
  rw [B4_eq, B1_eq, sg_val]
  rfl
 ·cases h
def cSg : Rd Tryz.prog := mkR mixed 59 Tryz.func59 (by decide) (by kernel_rfl) [] [.ptr 4 true] rSg sg_ok
def cxSq : Cx Tryz.prog := { rds := [cEq], efs := [kEs, kSqr, kSet], eqs := [] }
theorem vc_sqt (z0 z1 z2 z3 a0 a1 a2 a3 : Int) (K : SV → Mem → Prop) : (execF cxSq u9 Tryz.f58 64 [.ptr 1 (.lit 0), .ptr 9 (.lit 0)] (memL [(1, ⟨false, w4 z0 z1 z2 z3⟩), (9, ⟨true, w4 a0 a1 a2 a3⟩)]) K) = (B4 a0 a1 a2 a3 fun m n o p => ∃ i
 : Nat, El m n o p (mont i) ∧ ∀ a b c d : Int, EsR i a b c d → ∃ j k : Nat, (Ws a b c d j ∧ El a b c d k) ∧ ∀ l : Nat, l = mmul j k → ∀ e f g h : Int, El e f g h l → (W4 e f g h ∧ W4 a0 a1 a2 a3) ∧ (decide (V4 e f g h = V4 a0 a1 a2 a3) =
 true → K (.ptr 1 (.lit 0)) (memL [(1, ⟨false, .cells [.int .u64 (.sym a), .int .u64 (.sym b), .int .u64 (.sym c), .int .u64 (.sym d)]⟩), (9, ⟨true, .cells [U a0, U a1, U a2, U a3]⟩), (521, ⟨false, .cells [.int .u64 (.sym a), .int .u64
 (.sym b), .int .u64 (.sym c), .int .u64 (.sym d)]⟩), (529, ⟨false, .cells [.int .u64 (.sym e), .int .u64 (.sym f), .int .u64 (.sym g), .int .u64 (.sym h)]⟩)])) ∧ (decide (V4 e f g h = V4 a0 a1 a2 a3) = false → K (.val (.pointer none))
 (memL [(1, ⟨false, .cells [U z0, U z1, U z2, U z3]⟩), (9, ⟨true, .cells [U a0, U a1, U a2, U a3]⟩), (521, ⟨false, .cells [.int .u64 (.sym a), .int .u64 (.sym b), .int .u64 (.sym c), .int .u64 (.sym d)]⟩), (529, ⟨false, .cells [.int .u64
 (.sym e), .int .u64 (.sym f), .int .u64 (.sym g), .int .u64 (.sym h)]⟩)]))) := by kernel_rfl
theorem sqt_eq {X : Nat} (h : sqN (X % qN) = true) : mmul (mont (X ^ e4N)) (mont (X ^ e4N)) = mont X := by
 rw [mont_mul, ← mont_mod (X ^ e4N * X ^ e4N), ← mont_mod X]
 unfold sqN at h
 have h := of_decide_eq_true h
 rw [rtN_eq, Nat.pow_mod, Nat.mod_mod, ← Nat.pow_mod, ← Nat.mul_mod] at h
 rw [h]
theorem EsR.rt {X : Nat} {a b c d : Int} (h : EsR X a b c d) : El a b c d (mont (rtN (X % qN))) := by
 have := h.el
 rw [← mont_mod, Nat.pow_mod, ← rtN_eq] at this
 exact this
def gSqt : G0 := fun args l K =>
 match args, l with
 | [.ptr 1 (.lit 0), .ptr 9 (.lit 0)], [(1, ⟨false, z⟩), (9, ⟨true, x⟩)] => c4 z fun _ _ _ _ => c4 x fun a0 a1 a2 a3 => ∃ X, (El a0 a1 a2 a3 (mont X) ∧ sqN (X % qN) = true) ∧ ∀ y0 y1 y2 y3, EsR X y0 y1 y2 y3 → K (.ptr 1 (.lit 0)) (memL [(1, ⟨false, w4 y0 y1 y2 y3⟩), (9, ⟨true, w4 a0 a1 a2 a3⟩)])
 | _, _ => False
theorem sqt_good : Good gSqt := by
 constructor
 ·intro args l K K' hk h
  unfold gSqt at h ⊢
  split at h
  ·exact c4_mono (fun _ _ _ _ h => c4_mono (fun _ _ _ _ h => h.elim fun X h => ⟨X, h.1, fun y0 y1 y2 y3 hy => hk _ _ (h.2 y0 y1 y2 y3 hy)⟩) h) h
  ·exact h.elim
 ·intro args l K h
  unfold gSqt at h
  split at h
  ·obtain ⟨_, _, _, _, _, h⟩ := c4_ex h
   obtain ⟨_, _, _, _, _, h⟩ := c4_ex h
   obtain ⟨X, _, h⟩ := h
   obtain ⟨a, b, c, d, e⟩ := EsR.ex X
   exact ⟨_, _, h _ _ _ _ e⟩
  ·exact h.elim
theorem sqt_ok (args : List SV) (l : List (Nat × Reg)) (K : SV → Mem → Prop) (hup : KUp K) (h : gSqt args l K) : ∃ U, execF cxSq U Tryz.f58 64 args (memL l) K := by
 unfold gSqt at h
 split at h
 ·obtain ⟨z0, z1, z2, z3, rfl, q0⟩ := c4_ex h
  obtain ⟨a0, a1, a2, a3, rfl, q1⟩ := c4_ex q0
  obtain ⟨X, ⟨hx, hs⟩, hK⟩ := q1
  refine ⟨u9, ?_⟩
  rw [vc_sqt z0 z1 z2 z3 a0 a1 a2 a3, B4_eq]
  refine ⟨X, hx, fun y0 y1 y2 y3 hy => ⟨_, _, ⟨hy.el.ws, hy.el⟩, ?_⟩⟩
  rw [sqt_eq hs]
  rintro _ rfl s0 s1 s2 s3 hq
  refine ⟨⟨hq.wd, hx.wd⟩, fun _ => ?_, fun h => ?_⟩
  ·exact hup.le (memL_sub [1, 9, 521, 529] rfl (by decide) (by
    intro x hx
    simp only [List.mem_cons, List.not_mem_nil, or_false] at hx ⊢
    rcases hx with hx | hx <;> simp [hx, w4, U])) (hK y0 y1 y2 y3 hy)
  ·exact absurd (by rw [hq.val, hx.val]) (of_decide_eq_false h)
 ·exact h.elim
def kSqt : Ef Tryz.prog := mkE mixed 58 Tryz.func58 (by decide) (by kernel_rfl) [] [.ptr 4 false, .ptr 4 true] gSqt sqt_good sqt_ok
def cxT : Cx Tryz.prog := { rds := [cBits], efs := [], eqs := [] }
theorem vc_told (a0 a1 a2 a3 b0 b1 b2 b3 : Int) (K : SV → Mem → Prop) : (execF cxT u9 Tryz.f12 64 [.agg [.int .u64 (.sym a0), .int .u64 (.sym a1), .int .u64 (.sym a2), .int .u64 (.sym a3), .int .u64 (.sym b0), .int .u64 (.sym b1), .int .u64
 (.sym b2), .int .u64 (.sym b3)]] (memL []) K) = (W4 a0 a1 a2 a3 ∧ L4 (mmul (N4 a0 a1 a2 a3) 1) fun a b c d => W4 b0 b1 b2 b3 ∧ L4 (mmul (N4 b0 b1 b2 b3) 1) fun e f g h => K (.agg [U a, U b, U c, U d, U e, U f, U g, U h]) (memL [(513,
 ⟨false, .cells [U a0, U a1, U a2, U a3, U b0, U b1, U b2, U b3]⟩), (521, ⟨false, .cells [U a, U b, U c, U d, U e, U f, U g, U h]⟩)])) := by kernel_rfl def rTold : R0 := fun args l =>
 match args, l with
 | [.agg [.int .u64 (.sym a0), .int .u64 (.sym a1), .int .u64 (.sym a2), .int .u64 (.sym a3), .int .u64 (.sym b0), .int .u64 (.sym b1), .int .u64 (.sym b2), .int .u64 (.sym b3)]], [] => some (some ((Wd a0 ∧ Wd a1 ∧ Wd a2 ∧ Wd a3) ∧ (Wd b0 ∧ Wd b1 ∧ Wd b2 ∧ Wd b3)), .agg [U (lm (mmul (V4 a0 a1 a2 a3).toNat 1) 0), U (lm (mmul (V4 a0 a1 a2 a3).toNat 1) 1), U (lm (mmul (V4 a0 a1 a2 a3).toNat 1) 2), U (lm (mmul (V4 a0 a1 a2 a3).toNat 1) 3), U (lm (mmul (V4 b0 b1 b2 b3).toNat 1) 0), U (lm (mmul (V4 b0 b1 b2 b3).toNat 1) 1), U (lm (mmul (V4 b0 b1 b2 b3).toNat 1) 2), U (lm (mmul (V4 b0 b1 b2 b3).toNat 1) 3)])
 | _, _ => none
theorem Told_ok (args : List SV) (l : List (Nat × Reg)) (p : Ob) (v : SV) (h : rTold args l = some (p, v)) (hp : p.ok) : ∃ U, execF cxT U Tryz.f12 64 args (memL l) fun v' _ => v' = v := by
 unfold rTold at h
 split at h
 ·rename_i a0 a1 a2 a3 b0 b1 b2 b3
  simp only [Option.some.injEq, Prod.mk.injEq] at h
  obtain ⟨rfl, rfl⟩ := h
  have hp : (Wd a0 ∧ Wd a1 ∧ Wd a2 ∧ Wd a3) ∧ (Wd b0 ∧ Wd b1 ∧ Wd b2 ∧ Wd b3) := hp
  refine ⟨u9, ?_⟩
  rw [vc_told, L4_eq, L4_eq]
  exact ⟨hp.1, hp.2, rfl⟩
 ·cases h
def cTold : Rd Tryz.prog := mkR mixed 12 Tryz.func12 (by decide) (by kernel_rfl) [] [.num] rTold Told_ok
def cxMc : Cx Tryz.prog := { rds := [cLgd, cSg], efs := [kSo, kSqr, kMulA, kAddA, kSubA, kIv, kBc, kSel, kSqt, kNeg], eqs := [] }
def bcC (K : Int → Int → Int → Int → Prop) : Prop := ∀ y0 y1 y2 y3, BcR y0 y1 y2 y3 → K y0 y1 y2 y3
def ivC (a0 a1 a2 a3 : Int) (K : Int → Int → Int → Int → Prop) : Prop := ∃ X, El a0 a1 a2 a3 (mont X) ∧ ∀ y0 y1 y2 y3, IvR X y0 y1 y2 y3 → K y0 y1 y2 y3
def sqC (a0 a1 a2 a3 : Int) (K : Int → Int → Int → Int → Prop) : Prop := ∃ X, (El a0 a1 a2 a3 (mont X) ∧ sqN (X % qN) = true) ∧ ∀ y0 y1 y2 y3, EsR X y0 y1 y2 y3 → K y0 y1 y2 y3
def ngC (a0 a1 a2 a3 : Int) (K : Int → Int → Int → Int → Prop) : Prop := ∃ x, El a0 a1 a2 a3 x ∧ ∀ r, r = negN x → ∀ y0 y1 y2 y3, El y0 y1 y2 y3 r → K y0 y1 y2 y3
def McC (a0 a1 a2 a3 : Int) (P : SV → Prop) : Prop :=
 mulC a0 a1 a2 a3 a0 a1 a2 a3 fun p0a p0b p0c p0d =>
 mulC p0a p0b p0c p0d 1248766071674976557 10548065924188627562 16242874202584236114 560012691975822483 fun p1a p1b p1c p1d =>
 addC 15230403791020821917 754611498739239741 7381016538464732716 1011752739694698287 p1a p1b p1c p1d fun p2a p2b p2c p2d =>
 subC 15230403791020821917 754611498739239741 7381016538464732716 1011752739694698287 p1a p1b p1c p1d fun p3a p3b p3c p3d =>
 mulC p3a p3b p3c p3d p2a p2b p2c p2d fun p4a p4b p4c p4d =>
 ivC p4a p4b p4c p4d fun p5a p5b p5c p5d =>
 mulC a0 a1 a2 a3 p3a p3b p3c p3d fun p6a p6b p6c p6d =>
 mulC p6a p6b p6c p6d p5a p5b p5c p5d fun p7a p7b p7c p7d =>
 mulC p7a p7b p7c p7d 8972444824031832946 5898165201680709844 10690697896010808308 824354360198587078 fun p8a p8b p8c p8d =>
 subC 12997850613838968789 14304628359724097447 2950087706404981016 1237622763554136189 p8a p8b p8c p8d fun p9a p9b p9c p9d =>
 mulC p9a p9b p9c p9d p9a p9b p9c p9d fun p10a p10b p10c p10d =>
 mulC p10a p10b p10c p10d p9a p9b p9c p9d fun p11a p11b p11c p11d =>
 bcC fun p12a p12b p12c p12d =>
 addC p11a p11b p11c p11d p12a p12b p12c p12d fun p13a p13b p13c p13d =>
 ((W4 p13a p13b p13c p13d ∧ V4 p13a p13b p13c p13d < qI) ∧ B1 (lgV (N4 p13a p13b p13c p13d)) fun l1 => B1 (shrv .i64 l1 1) fun s1 =>
 addC 12997850613838968789 14304628359724097447 2950087706404981016 1237622763554136189 p8a p8b p8c p8d fun p14a p14b p14c p14d =>
 mulC p14a p14b p14c p14d p14a p14b p14c p14d fun p15a p15b p15c p15d =>
 mulC p15a p15b p15c p15d p14a p14b p14c p14d fun p16a p16b p16c p16d =>
 bcC fun p17a p17b p17c p17d =>
 addC p16a p16b p16c p16d p17a p17b p17c p17d fun p18a p18b p18c p18d =>
 ((W4 p18a p18b p18c p18d ∧ V4 p18a p18b p18c p18d < qI) ∧ B1 (lgV (N4 p18a p18b p18c p18d)) fun l2 => B1 (shrv .i64 l2 1) fun s2 => B1 (bxor .i64 (-1) s1) fun s3 => B1 (bor .i64 s2 s3) fun s4 =>
 mulC p2a p2b p2c p2d p2a p2b p2c p2d fun p19a p19b p19c p19d =>
 mulC p19a p19b p19c p19d p5a p5b p5c p5d fun p20a p20b p20c p20d =>
 mulC p20a p20b p20c p20d p20a p20b p20c p20d fun p21a p21b p21c p21d =>
 mulC p21a p21b p21c p21d 12077013577332951089 1872782865047492001 13514471836495169457 415649166299893576 fun p22a p22b p22c p22d =>
 addC p22a p22b p22c p22d 15230403791020821917 754611498739239741 7381016538464732716 1011752739694698287 fun p23a p23b p23c p23d =>
 selC s1 p9a p9b p9c p9d p23a p23b p23c p23d fun p24a p24b p24c p24d =>
 selC s4 p14a p14b p14c p14d p24a p24b p24c p24d fun p25a p25b p25c p25d =>
 mulC p25a p25b p25c p25d p25a p25b p25c p25d fun p26a p26b p26c p26d =>
 mulC p26a p26b p26c p26d p25a p25b p25c p25d fun p27a p27b p27c p27d =>
 bcC fun p28a p28b p28c p28d =>
 addC p27a p27b p27c p27d p28a p28b p28c p28d fun p29a p29b p29c p29d =>
 sqC p29a p29b p29c p29d fun p30a p30b p30c p30d =>
 (W4 a0 a1 a2 a3 ∧ B1 ((mmul (N4 a0 a1 a2 a3) 1 % 2 : Nat) : Int) fun g1 => (W4 p30a p30b p30c p30d ∧ B1 ((mmul (N4 p30a p30b p30c p30d) 1 % 2 : Nat) : Int) fun g2 => B1 (bxor .u64 g1 g2) fun g3 =>
 ngC p30a p30b p30c p30d fun p31a p31b p31c p31d =>
 B1 (IntKind.i64.wrap g3) fun g4 => selC g4 p30a p30b p30c p30d p31a p31b p31c p31d fun p32a p32b p32c p32d =>
 B4 p25a p25b p25c p25d fun x0 x1 x2 x3 => B4 p32a p32b p32c p32d fun y0 y1 y2 y3 => P (.agg [U x0, U x1, U x2, U x3, U y0, U y1, U y2, U y3])))))
theorem vc_mc (a0 a1 a2 a3 : Int) (P : SV → Prop) : execF cxMc u9 Tryz.f23 64 [.ptr 1 (.lit 0)] (memL [(1, ⟨true, w4 a0 a1 a2 a3⟩)]) (fun v _ => P v) = McC a0 a1 a2 a3 P := by kernel_rfl
theorem mulC_m {X Y : Nat} {a0 a1 a2 a3 b0 b1 b2 b3 : Int} {K : Int → Int → Int → Int → Prop} (ha : El a0 a1 a2 a3 (mont X)) (hb : El b0 b1 b2 b3 (mont Y)) (h : ∀ y0 y1 y2 y3, El y0 y1 y2 y3 (mont (X * Y % qN)) → K y0 y1 y2 y3) : mulC a0 a1 a2 a3 b0 b1 b2 b3 K :=
 ⟨_, _, ⟨ha.ws, hb⟩, fun r hr y0 y1 y2 y3 hy => h y0 y1 y2 y3 (by rw [mont_mul, ← mont_mod] at hr; rw [hr] at hy; exact hy)⟩
theorem addC_m {X Y : Nat} {a0 a1 a2 a3 b0 b1 b2 b3 : Int} {K : Int → Int → Int → Int → Prop} (ha : El a0 a1 a2 a3 (mont X)) (hb : El b0 b1 b2 b3 (mont Y)) (h : ∀ y0 y1 y2 y3, El y0 y1 y2 y3 (mont ((X + Y) % qN)) → K y0 y1 y2 y3) : addC a0 a1 a2 a3 b0 b1 b2 b3 K :=
 ⟨_, _, ⟨ha, hb⟩, fun r hr y0 y1 y2 y3 hy => h y0 y1 y2 y3 (by rw [mont_add, ← mont_mod] at hr; rw [hr] at hy; exact hy)⟩
theorem mont_fz (x : Nat) : fz (mont x) = fz x * fz (2 ^ 256) := by
 unfold mont mmul
 rw [fz_mod, fz_mul, fz_mul]
 have e : fz r2N * fz rInv = fz (2 ^ 256) := by
  rw [← fz_mul, fz_eq]
  decide +kernel
 rw [← e]
 grobner
theorem nat_fz {a b : Nat} (ha : a < qN) (hb : b < qN) (h : fz a = fz b) : a = b := by
 have := fz_eq.1 h
 rwa [Nat.mod_eq_of_lt ha, Nat.mod_eq_of_lt hb] at this
theorem subN_fz {x y : Nat} (h : y ≤ qN) : fz (subN x y) = fz x - fz y := by
 unfold subN
 rw [fz_mod, fz_sub h]
theorem mont_sub {X Y : Nat} (hY : Y < qN) : subN (mont X) (mont Y) = mont ((X + (qN - Y)) % qN) := by
 refine nat_fz (show subN (mont X) (mont Y) < qN from Nat.mod_lt _ (by decide)) (mont_lt _) ?_
 rw [subN_fz (Nat.le_of_lt (mont_lt Y)), mont_fz, mont_fz, mont_fz, fz_mod, fz_sub (Nat.le_of_lt hY)]
 generalize fz (2 ^ 256) = R
 grobner
theorem mont_neg {Y : Nat} (hY : Y < qN) : negN (mont Y) = mont ((0 + (qN - Y)) % qN) := by
 rw [← mont_sub hY, mont_zero]
 unfold negN subN
 rw [Nat.zero_add]
theorem subC_m {X Y : Nat} {a0 a1 a2 a3 b0 b1 b2 b3 : Int} {K : Int → Int → Int → Int → Prop} (ha : El a0 a1 a2 a3 (mont X)) (hb : El b0 b1 b2 b3 (mont Y)) (hY : Y < qN) (h : ∀ y0 y1 y2 y3, El y0 y1 y2 y3 (mont ((X + (qN - Y)) % qN)) → K y0 y1 y2 y3) : subC a0 a1 a2 a3 b0 b1 b2 b3 K :=
 ⟨_, _, ⟨ha, hb⟩, fun r hr y0 y1 y2 y3 hy => h y0 y1 y2 y3 (by rw [mont_sub hY] at hr; rw [hr] at hy; exact hy)⟩
theorem IvR.inv {X : Nat} {y0 y1 y2 y3 : Int} (h : IvR X y0 y1 y2 y3) (hX : X < qN) : El y0 y1 y2 y3 (mont (inv0 X)) := by
 obtain ⟨Y, hy, hl, h0, h1⟩ := h
 have e : Y = inv0 X := by
  by_cases hx : X % qN = 0
  ·rw [h0 hx]
   rw [Nat.mod_eq_of_lt hX] at hx
   rw [hx, inv0_zero]
  ·exact inv0_unique hl (by rw [Nat.mul_comm]; exact h1 hx)
 rw [← e]
 exact hy
theorem ivC_m {X : Nat} {a0 a1 a2 a3 : Int} {K : Int → Int → Int → Int → Prop} (ha : El a0 a1 a2 a3 (mont X)) (hX : X < qN) (h : ∀ y0 y1 y2 y3, El y0 y1 y2 y3 (mont (inv0 X)) → K y0 y1 y2 y3) : ivC a0 a1 a2 a3 K :=
 ⟨X, ha, fun y0 y1 y2 y3 hy => h y0 y1 y2 y3 (hy.inv hX)⟩
theorem bcC_m {K : Int → Int → Int → Int → Prop} (h : ∀ y0 y1 y2 y3, El y0 y1 y2 y3 (mont 3) → K y0 y1 y2 y3) : bcC K := h
theorem sqC_m {X : Nat} {a0 a1 a2 a3 : Int} {K : Int → Int → Int → Int → Prop} (ha : El a0 a1 a2 a3 (mont X)) (hX : X < qN) (hs : sqN X = true) (h : ∀ y0 y1 y2 y3, El y0 y1 y2 y3 (mont (rtN X)) → K y0 y1 y2 y3) : sqC a0 a1 a2 a3 K :=
 ⟨X, ⟨ha, by rw [Nat.mod_eq_of_lt hX]; exact hs⟩, fun y0 y1 y2 y3 hy => h y0 y1 y2 y3 (by have := hy.rt; rw [Nat.mod_eq_of_lt hX] at this; exact this)⟩
theorem ngC_m {X : Nat} {a0 a1 a2 a3 : Int} {K : Int → Int → Int → Int → Prop} (ha : El a0 a1 a2 a3 (mont X)) (hX : X < qN) (h : ∀ y0 y1 y2 y3, El y0 y1 y2 y3 (mont ((0 + (qN - X)) % qN)) → K y0 y1 y2 y3) : ngC a0 a1 a2 a3 K :=
 ⟨_, ha, fun r hr y0 y1 y2 y3 hy => h y0 y1 y2 y3 (by rw [mont_neg hX] at hr; rw [hr] at hy; exact hy)⟩
theorem mont_J (x : Nat) (h : x % qN ≠ 0) : J (mont x) qN = J x qN := by
 have e : mont x % qN = x * (2 ^ 128 * 2 ^ 128) % qN := by
  rw [← fz_eq, mont_fz, fz_mul, ← Nat.pow_add]
 have n2 : 2 ^ 128 % qN ≠ 0 := by decide
 rw [← J_mod, e, J_mod, J_mulN h (mul_ne n2 n2), J_mulN n2 n2, J_self n2, Int.mul_one]
theorem lgV_mont {x : Nat} (h : x < qN) : lgV (mont x) = lgN x := by
 unfold lgV lgN
 by_cases h0 : x = 0
 ·rw [h0, mont_zero]
 ·have hm : mont x ≠ 0 := by
   intro e
   have := mont_back x
   rw [e, mmul_zero, Nat.mod_eq_of_lt h] at this
   exact h0 this.symm
  rw [if_neg hm, if_neg h0]
  exact mont_J x (by rw [Nat.mod_eq_of_lt h]; exact h0)
theorem lg_sh {x : Nat} (h : x < qN) : shrv .i64 (lgN x) 1 = if sqN x = true then 0 else -1 := by
 by_cases hs : sqN x = true
 ·rw [if_pos hs]
  have hn := (sqN_iff h).1 hs
  rcases lgN_cases h with e | e | e
  ·rw [e]; rfl
  ·rw [e]; rfl
  ·exact absurd e hn
 ·rw [if_neg hs]
  have e : lgN x = -1 := by
   rcases lgN_cases h with e | e | e
   ·exact absurd ((sqN_iff h).2 (by rw [e]; decide)) hs
   ·exact absurd ((sqN_iff h).2 (by rw [e]; decide)) hs
   ·exact e
  rw [e]; rfl
theorem gN_comm (x : Nat) : (x * x % qN * x % qN + 3) % qN = gN x := by
 unfold gN
 rw [Nat.mul_comm (x * x % qN)]
theorem selC_m {s : Int} {X Y : Nat} {a0 a1 a2 a3 b0 b1 b2 b3 : Int} {K : Int → Int → Int → Int → Prop} (hs : s = 0 ∨ s = 1 ∨ s = -1) (ha : El a0 a1 a2 a3 (mont X)) (hb : El b0 b1 b2 b3 (mont Y)) (h : ∀ y0 y1 y2 y3, El y0 y1 y2 y3 (mont (if s = 0 then X else Y)) → K y0 y1 y2 y3) : selC s a0 a1 a2 a3 b0 b1 b2 b3 K := by
 refine ⟨⟨hs, ha.wd, hb.wd⟩, fun e => h _ _ _ _ ?_, fun e => h _ _ _ _ ?_⟩
 ·rw [if_pos e]; exact ha
 ·rw [if_neg e]; exact hb
theorem Vlt' {a b c d : Int} {x : Nat} (h : El a b c d x) : V4 a b c d < qI := by
 have := h.lt
 rw [h.val, qI_eq]
 omega
theorem sel1 (p : Bool) : (if p = true then (0 : Int) else -1) = 0 ∨ (if p = true then (0 : Int) else -1) = 1 ∨ (if p = true then (0 : Int) else -1) = -1 := by
 cases p <;> simp
theorem or_val (p r : Bool) : bor .i64 (if r = true then (0 : Int) else -1) (bxor .i64 (-1) (if p = true then (0 : Int) else -1)) = if p = false ∧ r = true then 0 else -1 := by
 cases p <;> cases r <;> decide +kernel
theorem sel2 (p r : Bool) : bor .i64 (if r = true then (0 : Int) else -1) (bxor .i64 (-1) (if p = true then (0 : Int) else -1)) = 0 ∨ bor .i64 (if r = true then (0 : Int) else -1) (bxor .i64 (-1) (if p = true then (0 : Int) else -1)) = 1 ∨ bor .i64 (if r = true then (0 : Int) else -1) (bxor .i64 (-1) (if p = true then (0 : Int) else -1)) = -1 := by
 rw [or_val]
 split
 ·exact .inl rfl
 ·exact .inr (.inr rfl)
theorem sel_x {X : Nat} : (if bor .i64 (if sqN (gN (x2N X)) = true then (0 : Int) else -1) (bxor .i64 (-1) (if sqN (gN (x1N X)) = true then (0 : Int) else -1)) = 0 then x2N X else if (if sqN (gN (x1N X)) = true then (0 : Int) else -1) = 0 then x1N X else x3N X) = mxN X := by
 rw [or_val]
 unfold mxN
 cases sqN (gN (x1N X)) <;> cases sqN (gN (x2N X)) <;> simp
theorem sq_mx (X : Nat) : sqN (gN (mxN X)) = true := by
 have sv := svdw X
 unfold mxN
 split
 ·assumption
 ·rename_i h1
  split
  ·assumption
  ·rename_i h2
   rcases sv with h | h | h
   ·exact absurd h h1
   ·exact absurd h h2
   ·exact h
theorem sg_x {a b : Nat} (ha : a < 2) (hb : b < 2) : IntKind.i64.wrap (bxor .u64 (a : Int) (b : Int)) = if a = b then 0 else 1 := by
 have : a = 0 ∨ a = 1 := by omega
 have : b = 0 ∨ b = 1 := by omega
 rcases ‹a = 0 ∨ a = 1› with rfl | rfl <;> rcases ‹b = 0 ∨ b = 1› with rfl | rfl <;> decide +kernel
theorem sel3 (a b : Nat) : IntKind.i64.wrap (bxor .u64 ((a % 2 : Nat) : Int) ((b % 2 : Nat) : Int)) = 0 ∨ IntKind.i64.wrap (bxor .u64 ((a % 2 : Nat) : Int) ((b % 2 : Nat) : Int)) = 1 ∨ IntKind.i64.wrap (bxor .u64 ((a % 2 : Nat) : Int) ((b % 2 : Nat) : Int)) = -1 := by
 rw [sg_x (Nat.mod_lt _ (by omega)) (Nat.mod_lt _ (by omega))]
 split
 ·exact .inl rfl
 ·exact .inr (.inl rfl)
theorem sel_y {X : Nat} : (if IntKind.i64.wrap (bxor .u64 ((X % 2 : Nat) : Int) ((rtN (gN (mxN X)) % 2 : Nat) : Int)) = 0 then rtN (gN (mxN X)) else (0 + (qN - rtN (gN (mxN X)))) % qN) = myN X := by
 rw [sg_x (Nat.mod_lt _ (by omega)) (Nat.mod_lt _ (by omega))]
 unfold myN
 by_cases h : X % 2 = rtN (gN (mxN X)) % 2
 ·rw [if_pos h, if_pos rfl, if_pos h.symm]
 ·rw [if_neg h, if_neg (by decide), if_neg fun e => h e.symm]
theorem mc_walk {X : Nat} {a0 a1 a2 a3 : Int} {P : SV → Prop} (hu : El a0 a1 a2 a3 (mont X)) (hX : X < qN) (hP : P (.agg [U (lm (mont (mxN X)) 0), U (lm (mont (mxN X)) 1), U (lm (mont (mxN X)) 2), U (lm (mont (mxN X)) 3), U (lm (mont (myN X)) 0), U (lm (mont (myN X)) 1), U (lm (mont (myN X)) 2), U (lm (mont (myN X)) 3)])) : McC a0 a1 a2 a3 P := by
 unfold McC
 have k1 : El 15230403791020821917 754611498739239741 7381016538464732716 1011752739694698287 (mont 1) := ⟨by decide +kernel, by decide +kernel, by decide +kernel, by decide +kernel, mont_lt _⟩
 have k4 : El 1248766071674976557 10548065924188627562 16242874202584236114 560012691975822483 (mont 4) := ⟨by decide +kernel, by decide +kernel, by decide +kernel, by decide +kernel, mont_lt _⟩
 have kc2 : El 12997850613838968789 14304628359724097447 2950087706404981016 1237622763554136189 (mont c2N) := ⟨by decide +kernel, by decide +kernel, by decide +kernel, by decide +kernel, mont_lt _⟩
 have kc3 : El 8972444824031832946 5898165201680709844 10690697896010808308 824354360198587078 (mont c3N) := ⟨by decide +kernel, by decide +kernel, by decide +kernel, by decide +kernel, mont_lt _⟩
 have kc4 : El 12077013577332951089 1872782865047492001 13514471836495169457 415649166299893576 (mont c4N) := ⟨by decide +kernel, by decide +kernel, by decide +kernel, by decide +kernel, mont_lt _⟩
 refine mulC_m hu hu ?_
 intro p0a p0b p0c p0d h0
 refine mulC_m h0 k4 ?_
 intro p1a p1b p1c p1d h1
 rw [show X * X % qN * 4 % qN = tN X from rfl] at h1
 refine addC_m k1 h1 ?_
 intro p2a p2b p2c p2d h2
 rw [show (1 + tN X) % qN = moN X from rfl] at h2
 refine subC_m k1 h1 (tN_lt X) ?_
 intro p3a p3b p3c p3d h3
 rw [show (1 + (qN - tN X)) % qN = leN X from rfl] at h3
 refine mulC_m h3 h2 ?_
 intro p4a p4b p4c p4d h4
 refine ivC_m h4 (Nat.mod_lt _ (by decide)) ?_
 intro p5a p5b p5c p5d h5
 rw [show inv0 (leN X * moN X % qN) = ivN X from rfl] at h5
 refine mulC_m hu h3 ?_
 intro p6a p6b p6c p6d h6
 refine mulC_m h6 h5 ?_
 intro p7a p7b p7c p7d h7
 refine mulC_m h7 kc3 ?_
 intro p8a p8b p8c p8d h8
 rw [show X * leN X % qN * ivN X % qN * c3N % qN = stN X from rfl] at h8
 refine subC_m kc2 h8 (stN_lt X) ?_
 intro p9a p9b p9c p9d h9
 rw [show (c2N + (qN - stN X)) % qN = x1N X from rfl] at h9
 refine mulC_m h9 h9 ?_
 intro p10a p10b p10c p10d h10
 refine mulC_m h10 h9 ?_
 intro p11a p11b p11c p11d h11
 refine bcC_m ?_
 intro p12a p12b p12c p12d h12
 refine addC_m h11 h12 ?_
 intro p13a p13b p13c p13d h13
 rw [gN_comm] at h13
 refine ⟨⟨h13.wd, Vlt' h13⟩, ?_⟩
 rw [B1_eq, B1_eq, show N4 _ _ _ _ = _ from Vx h13.ws, lgV_mont (gN_lt _), lg_sh (gN_lt _)]
 refine addC_m kc2 h8 ?_
 intro p14a p14b p14c p14d h14
 rw [show (c2N + stN X) % qN = x2N X from rfl] at h14
 refine mulC_m h14 h14 ?_
 intro p15a p15b p15c p15d h15
 refine mulC_m h15 h14 ?_
 intro p16a p16b p16c p16d h16
 refine bcC_m ?_
 intro p17a p17b p17c p17d h17
 refine addC_m h16 h17 ?_
 intro p18a p18b p18c p18d h18
 rw [gN_comm] at h18
 refine ⟨⟨h18.wd, Vlt' h18⟩, ?_⟩
 rw [B1_eq, B1_eq, show N4 _ _ _ _ = _ from Vx h18.ws, lgV_mont (gN_lt _), lg_sh (gN_lt _)]
 rw [B1_eq, B1_eq]
 refine mulC_m h2 h2 ?_
 intro p19a p19b p19c p19d h19
 refine mulC_m h19 h5 ?_
 intro p20a p20b p20c p20d h20
 rw [show moN X * moN X % qN * ivN X % qN = vvN X from rfl] at h20
 refine mulC_m h20 h20 ?_
 intro p21a p21b p21c p21d h21
 refine mulC_m h21 kc4 ?_
 intro p22a p22b p22c p22d h22
 refine addC_m h22 k1 ?_
 intro p23a p23b p23c p23d h23
 rw [show (vvN X * vvN X % qN * c4N % qN + 1) % qN = x3N X from rfl] at h23
 refine selC_m (sel1 _) h9 h23 ?_
 intro p24a p24b p24c p24d h24
 refine selC_m (sel2 _ _) h14 h24 ?_
 intro p25a p25b p25c p25d h25
 rw [sel_x] at h25
 refine mulC_m h25 h25 ?_
 intro p26a p26b p26c p26d h26
 refine mulC_m h26 h25 ?_
 intro p27a p27b p27c p27d h27
 refine bcC_m ?_
 intro p28a p28b p28c p28d h28
 refine addC_m h27 h28 ?_
 intro p29a p29b p29c p29d h29
 rw [gN_comm] at h29
 refine sqC_m h29 (gN_lt _) (sq_mx X) ?_
 intro p30a p30b p30c p30d h30
 refine ⟨hu.wd, ?_⟩
 rw [B1_eq]
 refine ⟨h30.wd, ?_⟩
 rw [B1_eq, B1_eq, show N4 a0 a1 a2 a3 = _ from Vx hu.ws, show N4 _ _ _ _ = _ from Vx h30.ws, mont_back, mont_back, Nat.mod_eq_of_lt hX, Nat.mod_eq_of_lt (rtN_lt _)]
 refine ngC_m h30 (rtN_lt _) ?_
 intro p31a p31b p31c p31d h31
 rw [B1_eq]
 refine selC_m (sel3 _ _) h30 h31 ?_
 intro p32a p32b p32c p32d h32
 rw [sel_y] at h32
 rw [B4_eq, B4_eq]
 obtain ⟨rfl, rfl, rfl, rfl, _⟩ := h25
 obtain ⟨rfl, rfl, rfl, rfl, _⟩ := h32
 exact hP
def mpX (a b c d : Int) (i : Nat) : Int := lm (mont (mxN (mmul (V4 a b c d).toNat 1))) i
def mpY (a b c d : Int) (i : Nat) : Int := lm (mont (myN (mmul (V4 a b c d).toNat 1))) i
def rMc : R0 := fun args l =>
 match args, l with
 | [.ptr 1 (.lit 0)], [(1, ⟨true, x⟩)] => r4 x fun a b c d => some (some ((Wd a ∧ Wd b ∧ Wd c ∧ Wd d) ∧ V4 a b c d < 21888242871839275222246405745257275088696311157297823662689037894645226208583), .agg [U (mpX a b c d 0), U (mpX a b c d 1), U (mpX a b c d 2), U (mpX a b c d 3), U (mpY a b c d 0), U (mpY a b c d 1), U (mpY a b c d 2), U (mpY a b c d 3)])
 | _, _ => none
theorem mc_ok (args : List SV) (l : List (Nat × Reg)) (p : Ob) (v : SV) (h : rMc args l = some (p, v)) (hp : p.ok) : ∃ U, execF cxMc U Tryz.f23 64 args (memL l) fun v' _ => v' = v := by
 unfold rMc at h
 split at h
 ·rename_i x
  obtain ⟨a, b, c, d, rfl, q⟩ := r4_ex h
  simp only [Option.some.injEq, Prod.mk.injEq] at q
  obtain ⟨rfl, rfl⟩ := q
  obtain ⟨hw, hl⟩ := (show (Wd a ∧ Wd b ∧ Wd c ∧ Wd d) ∧ V4 a b c d < 21888242871839275222246405745257275088696311157297823662689037894645226208583 from hp)
  refine ⟨u9, ?_⟩
  have W := ws_of hw.1 hw.2.1 hw.2.2.1 hw.2.2.2
  have ev := W.val
  have hA : (V4 a b c d).toNat < qN := by unfold qN; omega
  have E : El a b c d (mont (mmul (V4 a b c d).toNat 1)) := by
   rw [mont_of hA]
   exact ⟨W.a, W.b, W.c, W.d, hA⟩
  rw [vc_mc]
  exact mc_walk E (mmul_lt _ _) rfl
 ·cases h
def cMc : Rd Tryz.prog := mkR mixed 23 Tryz.func23 (by decide) (by kernel_rfl) [] [.ptr 4 true] rMc mc_ok
end Go.Sx
namespace Go.Sx
open Go Go.Proofs
set_option maxRecDepth 100000
def cxHf : Cx Tryz.prog := { rds := [cMl, cAd], efs := [cSE], eqs := [] }
structure HfI where
 i : Nat
 o : List Int
 cap : Nat
def spN (ys : List Int) (j : Nat) : Nat := chN ys j % qN
def liHf (ys : List Int) (n : Nat) : LI where
 ι := HfI
 keep := [2, 7]
 keepR := [553]
 F := fun s => ⟨[(8, .slice 593 (.lit 0) (.sym s.i) (.sym s.cap)), (9, i64n s.i)], [(593, ⟨false, .ints .u64 s.o⟩)]⟩
 I := fun _ s => s.i ≤ n ∧ s.i ≤ s.cap ∧ s.o.length = s.cap * 4 ∧ s.o.take (4 * s.i) = hfW (spN ys) s.i
 μ := fun s => n - s.i
 k := 1
structure HgI where
 k : Nat
 r : Nat
def liHg : LI where
 ι := HgI
 keep := [2, 7, 8, 9, 10]
 keepR := [553, 593]
 F := fun s => ⟨[(11, i64n s.k)], [(633, ⟨false, e4 s.r⟩)]⟩
 I := fun st s => s.k ≤ 48 ∧ s.r = beN (((st.reg 553).drop (48 * (st.int 9).toNat)).take s.k) % qN
 μ := fun s => 48 - s.k
def uHf (ys : List Int) (n : Nat) : Nat → Lp := fun b => match b with | 0 => .inv (liHf ys n) | 2 => .inv liHg | _ => .un 0
end Go.Sx
namespace Go.Sx
open Go
set_option maxRecDepth 100000
theorem drop_getD (ys : List Int) (s k : Nat) : (ys.drop s).getD k 0 = ys.getD (s + k) 0 := by
 rw [List.getD_eq_getElem?_getD, List.getElem?_drop, List.getD_eq_getElem?_getD]
theorem hg_step {ys : List Int} {s k r : Nat} (hk : s + k < ys.length) (hr : r = beN ((ys.drop s).take k) % qN) {b : Int} (hb : b = ys.getD (s + k) 0) (h0 : 0 ≤ b) :
  ((((r * 256 % 21888242871839275222246405745257275088696311157297823662689037894645226208583 : Nat) : Int) + b) % 21888242871839275222246405745257275088696311157297823662689037894645226208583).toNat = beN ((ys.drop s).take (k + 1)) % qN := by
 rw [beN_take (by rw [List.length_drop]; omega), drop_getD, ← hb, hr]
 generalize beN ((ys.drop s).take k) = x
 obtain ⟨c, rfl⟩ : ∃ c : Nat, b = c := ⟨b.toNat, by omega⟩
 rw [Int.toNat_natCast, ← Int.natCast_add, show (21888242871839275222246405745257275088696311157297823662689037894645226208583 : Int) = ((qN : Nat) : Int) from rfl, ← Int.natCast_emod, Int.toNat_natCast,
  show (21888242871839275222246405745257275088696311157297823662689037894645226208583 : Nat) = qN from rfl]
 rw [Nat.add_mod, Nat.mod_mod, Nat.mul_mod, Nat.mod_mod, ← Nat.mul_mod, ← Nat.add_mod]
theorem chN_row {ys xs : List Int} {n cap j : Nat} (h : Rw ys xs n cap) (hj : 48 * (j + 1) ≤ n) : (ys.drop (48 * j)).take 48 = (xs.drop (48 * j)).take 48 := by
 rw [← h.row, List.drop_take, List.take_take, Nat.min_eq_left (by omega)]
theorem w4_drop {o : List Int} {i n : Nat} {f : Nat → Nat} {ys : List Int} {r : Nat} (ho : o.take (4 * i) = hfW f i) (hr : r = f i)
  (h : (i + 1) ≤ n ∧ ys.length = n * 4 ∧ ys.take ((i + 1) * 4) = List.take (i * 4) (List.drop 0 o) ++ List.take 4 (List.drop 0 [lm r 0, lm r 1, lm r 2, lm r 3])) :
  ys.take (4 * (i + 1)) = hfW f (i + 1) := by
 rw [Nat.mul_comm 4, h.2.2, List.drop_zero, Nat.mul_comm i 4, ho, hr]
 rfl
theorem hfW_length (f : Nat → Nat) : ∀ n, (hfW f n).length = 4 * n
 | 0 => rfl
 | n + 1 => by
  show (hfW f n ++ elW (f n)).length = _
  rw [List.length_append, hfW_length f n]
  show 4 * n + 4 = _
  omega
theorem V4_lm {r : Nat} (h : r < qN) : V4 (lm r 0) (lm r 1) (lm r 2) (lm r 3) = (r : Int) := lm_val (by unfold qN at h; omega)
theorem V4_one (b : Int) : V4 b 0 0 0 = b := by unfold V4; omega
end Go.Sx
namespace Go.Sx
open Go Go.Proofs
set_option maxRecDepth 100000
theorem vc_hf (ex msg dst : List Int) (l c l2 c2 : Nat) (n : Int) (K : SV → Mem → Prop) : (execF cxHf (uHf ex n.toNat) Tryz.f7 64 [.slice 1 (.lit 0) (.sym l) (.sym c), .slice 9 (.lit 0) (.sym l2) (.sym c2), .int .i64 (.sym n)] (memL [(1,
 ⟨true, .ints .u8 msg⟩), (9, ⟨true, .ints .u8 dst⟩)]) K) = (∀ e, e = IntKind.wrap IntKind.i64 (48 * n) → (0 + l * 1 ≤ msg.length ∧ 0 + l2 * 1 ≤ dst.length) ∧ ((List.length (List.take (l * 1) (List.drop 0 msg)) = l ∧ List.length (List.take
 (l2 * 1) (List.drop 0 dst)) = l2 ∧ Bytes (List.take (l * 1) (List.drop 0 msg)) ∧ Bytes (List.take (l2 * 1) (List.drop 0 dst)) ∧ l ≤ 65536 ∧ l2 ≤ 65536 ∧ 0 ≤ e ∧ e ≤ 65536) ∧ ∀ (C : List Int) (h : Nat), Rw C (expand (List.take (l * 1)
 (List.drop 0 msg)) (List.take (l2 * 1) (List.drop 0 dst)) (Int.toNat e)) (Int.toNat e) h → ∀ d : List Int, d = C → ((∃ g : HfI, (HfI.i g ≤ Int.toNat n ∧ HfI.i g ≤ HfI.cap g ∧ List.length (HfI.o g) = HfI.cap g * 4 ∧ List.take (4 * HfI.i g)
 (HfI.o g) = hfW (spN ex) (HfI.i g)) ∧ (n = n ∧ (Int.toNat e = Int.toNat e ∧ h = h) ∧ (0 = HfI.i g ∧ 0 = HfI.cap g) ∧ 0 = ((HfI.i g : Nat) : Int)) ∧ d = d ∧ [] = HfI.o g) ∧ ∀ a : HfI, HfI.i a ≤ Int.toNat n ∧ HfI.i a ≤ HfI.cap a ∧
 List.length (HfI.o a) = HfI.cap a * 4 ∧ List.take (4 * HfI.i a) (HfI.o a) = hfW (spN ex) (HfI.i a) → (decide (((HfI.i a : Nat) : Int) < n) = true → ((∃ j : HgI, (HgI.k j ≤ 48 ∧ HgI.r j = beN (List.take (HgI.k j) (List.drop (48 * Int.toNat
 ((HfI.i a : Nat) : Int)) d)) % 21888242871839275222246405745257275088696311157297823662689037894645226208583) ∧ (n = n ∧ (Int.toNat e = Int.toNat e ∧ h = h) ∧ (HfI.i a = HfI.i a ∧ HfI.cap a = HfI.cap a) ∧ ((HfI.i a : Nat) : Int) = ((HfI.i
 a : Nat) : Int) ∧ 0 = ((HgI.k j : Nat) : Int)) ∧ d = d ∧ HfI.o a = HfI.o a ∧ 0 = lm (HgI.r j) 0 ∧ 0 = lm (HgI.r j) 1 ∧ 0 = lm (HgI.r j) 2 ∧ 0 = lm (HgI.r j) 3) ∧ ∀ b : HgI, HgI.k b ≤ 48 ∧ HgI.r b = beN (List.take (HgI.k b) (List.drop (48 *
 Int.toNat ((HfI.i a : Nat) : Int)) d)) % 21888242871839275222246405745257275088696311157297823662689037894645226208583 → (decide (((HgI.k b : Nat) : Int) < 48) = true → ∀ r, r = lm (HgI.r b) 0 → ∀ s, s = lm (HgI.r b) 1 → ∀ t, t = lm (HgI.r
 b) 2 → ∀ u, u = lm (HgI.r b) 3 → (((Wd r ∧ Wd s ∧ Wd t ∧ Wd u) ∧ Wd (256 : Int) ∧ Wd (0 : Int) ∧ Wd (0 : Int) ∧ Wd (0 : Int)) ∧ ∀ k, k = lm (Int.toNat (V4 r s t u) * 256 %
 21888242871839275222246405745257275088696311157297823662689037894645226208583) 0 → ∀ m, m = lm (Int.toNat (V4 r s t u) * 256 % 21888242871839275222246405745257275088696311157297823662689037894645226208583) 1 → ∀ o, o = lm (Int.toNat (V4 r
 s t u) * 256 % 21888242871839275222246405745257275088696311157297823662689037894645226208583) 2 → ∀ p, p = lm (Int.toNat (V4 r s t u) * 256 % 21888242871839275222246405745257275088696311157297823662689037894645226208583) 3 → ∀ D, D =
 IntKind.wrap IntKind.i64 (48 * ((HfI.i a : Nat) : Int)) → ∀ v, v = IntKind.wrap IntKind.i64 (D + ((HgI.k b : Nat) : Int)) → (0 ≤ v ∧ v < ((Int.toNat e : Nat) : Int)) ∧ (Int.toNat v * 1 + 1 ≤ d.length ∧ ∀ E : Int, E = List.getD d (Int.toNat
 v * 1) (0 : Int) → ∀ q, q = IntKind.wrap IntKind.u64 E → ((((Wd k ∧ Wd m ∧ Wd o ∧ Wd p) ∧ Wd q ∧ Wd (0 : Int) ∧ Wd (0 : Int) ∧ Wd (0 : Int)) ∧ V4 k m o p < 21888242871839275222246405745257275088696311157297823662689037894645226208583 ∧ V4
 q (0 : Int) (0 : Int) (0 : Int) < 21888242871839275222246405745257275088696311157297823662689037894645226208583) ∧ ∀ F, F = lm (Int.toNat ((V4 k m o p + V4 q (0 : Int) (0 : Int) (0 : Int)) %
 21888242871839275222246405745257275088696311157297823662689037894645226208583)) 0 → ∀ G, G = lm (Int.toNat ((V4 k m o p + V4 q (0 : Int) (0 : Int) (0 : Int)) % 21888242871839275222246405745257275088696311157297823662689037894645226208583))
 1 → ∀ H, H = lm (Int.toNat ((V4 k m o p + V4 q (0 : Int) (0 : Int) (0 : Int)) % 21888242871839275222246405745257275088696311157297823662689037894645226208583)) 2 → ∀ I, I = lm (Int.toNat ((V4 k m o p + V4 q (0 : Int) (0 : Int) (0 : Int)) %
 21888242871839275222246405745257275088696311157297823662689037894645226208583)) 3 → ∀ J, J = IntKind.wrap IntKind.i64 (((HgI.k b : Nat) : Int) + 1) → ∃ i : HgI, (HgI.k i ≤ 48 ∧ HgI.r i = beN (List.take (HgI.k i) (List.drop (48 * Int.toNat
 ((HfI.i a : Nat) : Int)) d)) % 21888242871839275222246405745257275088696311157297823662689037894645226208583) ∧ ((n = n ∧ (Int.toNat e = Int.toNat e ∧ h = h) ∧ (HfI.i a = HfI.i a ∧ HfI.cap a = HfI.cap a) ∧ ((HfI.i a : Nat) : Int) = ((HfI.i
 a : Nat) : Int) ∧ J = ((HgI.k i : Nat) : Int)) ∧ d = d ∧ HfI.o a = HfI.o a ∧ F = lm (HgI.r i) 0 ∧ G = lm (HgI.r i) 1 ∧ H = lm (HgI.r i) 2 ∧ I = lm (HgI.r i) 3) ∧ 48 - HgI.k i < 48 - HgI.k b)))) ∧ (decide (((HgI.k b : Nat) : Int) < 48) =
 false → ∀ w, w = lm (HgI.r b) 0 → ∀ x, x = lm (HgI.r b) 1 → ∀ y, y = lm (HgI.r b) 2 → ∀ z, z = lm (HgI.r b) 3 → (((HfI.i a ≤ HfI.cap a ∧ 0 + HfI.cap a * 4 ≤ List.length (HfI.o a)) ∧ Nat.le (4 : Nat) (List.length [w, x, y, z]) ∧ (HfI.i a +
 1) * 32 ≤ 549755813888 ∧ HfI.i a + 1 ≤ 549755813888) ∧ ∀ (A : Nat) (B : List Int), HfI.i a + 1 ≤ A ∧ B.length = A * 4 ∧ List.take ((HfI.i a + 1) * 4) B = List.take (HfI.i a * 4) (List.drop 0 (HfI.o a)) ++ List.take 4 (List.drop 0 [w, x, y,
 z]) → ∀ L, L = IntKind.wrap IntKind.i64 (((HfI.i a : Nat) : Int) + 1) → ∃ f : HfI, (HfI.i f ≤ Int.toNat n ∧ HfI.i f ≤ HfI.cap f ∧ List.length (HfI.o f) = HfI.cap f * 4 ∧ List.take (4 * HfI.i f) (HfI.o f) = hfW (spN ex) (HfI.i f)) ∧ ((n = n
 ∧ (Int.toNat e = Int.toNat e ∧ h = h) ∧ (HfI.i a + 1 = HfI.i f ∧ A = HfI.cap f) ∧ L = ((HfI.i f : Nat) : Int)) ∧ d = d ∧ B = HfI.o f) ∧ Int.toNat n - HfI.i f < Int.toNat n - HfI.i a)))) ∧ (decide (((HfI.i a : Nat) : Int) < n) = false → K
 (.slice 593 (.lit 0) (.sym (HfI.i a)) (.sym (HfI.cap a))) (memL [(553, ⟨false, .ints .u8 d⟩), (593, ⟨false, .ints .u64 (HfI.o a)⟩)]))))) := by kernel_rfl
theorem vc_hfn (ex dst : List Int) (l2 c2 : Nat) (n : Int) (K : SV → Mem → Prop) : (execF cxHf (uHf ex n.toNat) Tryz.f7 64 [.val (.slice none 0 0), .slice 1 (.lit 0) (.sym l2) (.sym c2), .int .i64 (.sym n)] (memL [(1, ⟨true, .ints .u8
 dst⟩)]) K) = (∀ d, d = IntKind.wrap IntKind.i64 (48 * n) → 0 + l2 * 1 ≤ dst.length ∧ ((List.length (List.take (l2 * 1) (List.drop 0 dst)) = l2 ∧ Bytes (List.take (l2 * 1) (List.drop 0 dst)) ∧ l2 ≤ 65536 ∧ 0 ≤ d ∧ d ≤ 65536) ∧ ∀ (A : List
 Int) (g : Nat), Rw A (expand [] (List.take (l2 * 1) (List.drop 0 dst)) (Int.toNat d)) (Int.toNat d) g → ∀ c : List Int, c = A → ((∃ f : HfI, (HfI.i f ≤ Int.toNat n ∧ HfI.i f ≤ HfI.cap f ∧ List.length (HfI.o f) = HfI.cap f * 4 ∧ List.take
 (4 * HfI.i f) (HfI.o f) = hfW (spN ex) (HfI.i f)) ∧ (n = n ∧ (Int.toNat d = Int.toNat d ∧ g = g) ∧ (0 = HfI.i f ∧ 0 = HfI.cap f) ∧ 0 = ((HfI.i f : Nat) : Int)) ∧ c = c ∧ [] = HfI.o f) ∧ ∀ a : HfI, HfI.i a ≤ Int.toNat n ∧ HfI.i a ≤ HfI.cap
 a ∧ List.length (HfI.o a) = HfI.cap a * 4 ∧ List.take (4 * HfI.i a) (HfI.o a) = hfW (spN ex) (HfI.i a) → (decide (((HfI.i a : Nat) : Int) < n) = true → ((∃ i : HgI, (HgI.k i ≤ 48 ∧ HgI.r i = beN (List.take (HgI.k i) (List.drop (48 *
 Int.toNat ((HfI.i a : Nat) : Int)) c)) % 21888242871839275222246405745257275088696311157297823662689037894645226208583) ∧ (n = n ∧ (Int.toNat d = Int.toNat d ∧ g = g) ∧ (HfI.i a = HfI.i a ∧ HfI.cap a = HfI.cap a) ∧ ((HfI.i a : Nat) : Int)
 = ((HfI.i a : Nat) : Int) ∧ 0 = ((HgI.k i : Nat) : Int)) ∧ c = c ∧ HfI.o a = HfI.o a ∧ 0 = lm (HgI.r i) 0 ∧ 0 = lm (HgI.r i) 1 ∧ 0 = lm (HgI.r i) 2 ∧ 0 = lm (HgI.r i) 3) ∧ ∀ b : HgI, HgI.k b ≤ 48 ∧ HgI.r b = beN (List.take (HgI.k b)
 (List.drop (48 * Int.toNat ((HfI.i a : Nat) : Int)) c)) % 21888242871839275222246405745257275088696311157297823662689037894645226208583 → (decide (((HgI.k b : Nat) : Int) < 48) = true → ∀ p, p = lm (HgI.r b) 0 → ∀ q, q = lm (HgI.r b) 1 → ∀
 r, r = lm (HgI.r b) 2 → ∀ s, s = lm (HgI.r b) 3 → (((Wd p ∧ Wd q ∧ Wd r ∧ Wd s) ∧ Wd (256 : Int) ∧ Wd (0 : Int) ∧ Wd (0 : Int) ∧ Wd (0 : Int)) ∧ ∀ j, j = lm (Int.toNat (V4 p q r s) * 256 %
 21888242871839275222246405745257275088696311157297823662689037894645226208583) 0 → ∀ k, k = lm (Int.toNat (V4 p q r s) * 256 % 21888242871839275222246405745257275088696311157297823662689037894645226208583) 1 → ∀ l, l = lm (Int.toNat (V4 p
 q r s) * 256 % 21888242871839275222246405745257275088696311157297823662689037894645226208583) 2 → ∀ m, m = lm (Int.toNat (V4 p q r s) * 256 % 21888242871839275222246405745257275088696311157297823662689037894645226208583) 3 → ∀ B, B =
 IntKind.wrap IntKind.i64 (48 * ((HfI.i a : Nat) : Int)) → ∀ t, t = IntKind.wrap IntKind.i64 (B + ((HgI.k b : Nat) : Int)) → (0 ≤ t ∧ t < ((Int.toNat d : Nat) : Int)) ∧ (Int.toNat t * 1 + 1 ≤ c.length ∧ ∀ C : Int, C = List.getD c (Int.toNat
 t * 1) (0 : Int) → ∀ o, o = IntKind.wrap IntKind.u64 C → ((((Wd j ∧ Wd k ∧ Wd l ∧ Wd m) ∧ Wd o ∧ Wd (0 : Int) ∧ Wd (0 : Int) ∧ Wd (0 : Int)) ∧ V4 j k l m < 21888242871839275222246405745257275088696311157297823662689037894645226208583 ∧ V4
 o (0 : Int) (0 : Int) (0 : Int) < 21888242871839275222246405745257275088696311157297823662689037894645226208583) ∧ ∀ D, D = lm (Int.toNat ((V4 j k l m + V4 o (0 : Int) (0 : Int) (0 : Int)) %
 21888242871839275222246405745257275088696311157297823662689037894645226208583)) 0 → ∀ E, E = lm (Int.toNat ((V4 j k l m + V4 o (0 : Int) (0 : Int) (0 : Int)) % 21888242871839275222246405745257275088696311157297823662689037894645226208583))
 1 → ∀ F, F = lm (Int.toNat ((V4 j k l m + V4 o (0 : Int) (0 : Int) (0 : Int)) % 21888242871839275222246405745257275088696311157297823662689037894645226208583)) 2 → ∀ G, G = lm (Int.toNat ((V4 j k l m + V4 o (0 : Int) (0 : Int) (0 : Int)) %
 21888242871839275222246405745257275088696311157297823662689037894645226208583)) 3 → ∀ H, H = IntKind.wrap IntKind.i64 (((HgI.k b : Nat) : Int) + 1) → ∃ h : HgI, (HgI.k h ≤ 48 ∧ HgI.r h = beN (List.take (HgI.k h) (List.drop (48 * Int.toNat
 ((HfI.i a : Nat) : Int)) c)) % 21888242871839275222246405745257275088696311157297823662689037894645226208583) ∧ ((n = n ∧ (Int.toNat d = Int.toNat d ∧ g = g) ∧ (HfI.i a = HfI.i a ∧ HfI.cap a = HfI.cap a) ∧ ((HfI.i a : Nat) : Int) = ((HfI.i
 a : Nat) : Int) ∧ H = ((HgI.k h : Nat) : Int)) ∧ c = c ∧ HfI.o a = HfI.o a ∧ D = lm (HgI.r h) 0 ∧ E = lm (HgI.r h) 1 ∧ F = lm (HgI.r h) 2 ∧ G = lm (HgI.r h) 3) ∧ 48 - HgI.k h < 48 - HgI.k b)))) ∧ (decide (((HgI.k b : Nat) : Int) < 48) =
 false → ∀ u, u = lm (HgI.r b) 0 → ∀ v, v = lm (HgI.r b) 1 → ∀ w, w = lm (HgI.r b) 2 → ∀ x, x = lm (HgI.r b) 3 → (((HfI.i a ≤ HfI.cap a ∧ 0 + HfI.cap a * 4 ≤ List.length (HfI.o a)) ∧ Nat.le (4 : Nat) (List.length [u, v, w, x]) ∧ (HfI.i a +
 1) * 32 ≤ 549755813888 ∧ HfI.i a + 1 ≤ 549755813888) ∧ ∀ (y : Nat) (z : List Int), HfI.i a + 1 ≤ y ∧ z.length = y * 4 ∧ List.take ((HfI.i a + 1) * 4) z = List.take (HfI.i a * 4) (List.drop 0 (HfI.o a)) ++ List.take 4 (List.drop 0 [u, v, w,
 x]) → ∀ I, I = IntKind.wrap IntKind.i64 (((HfI.i a : Nat) : Int) + 1) → ∃ e : HfI, (HfI.i e ≤ Int.toNat n ∧ HfI.i e ≤ HfI.cap e ∧ List.length (HfI.o e) = HfI.cap e * 4 ∧ List.take (4 * HfI.i e) (HfI.o e) = hfW (spN ex) (HfI.i e)) ∧ ((n = n
 ∧ (Int.toNat d = Int.toNat d ∧ g = g) ∧ (HfI.i a + 1 = HfI.i e ∧ y = HfI.cap e) ∧ I = ((HfI.i e : Nat) : Int)) ∧ c = c ∧ z = HfI.o e) ∧ Int.toNat n - HfI.i e < Int.toNat n - HfI.i a)))) ∧ (decide (((HfI.i a : Nat) : Int) < n) = false → K
 (.slice 593 (.lit 0) (.sym (HfI.i a)) (.sym (HfI.cap a))) (memL [(553, ⟨false, .ints .u8 c⟩), (593, ⟨false, .ints .u64 (HfI.o a)⟩)]))))) := by kernel_rfl
theorem hf_walk (msg dst : List Int) (l c l2 c2 : Nat) (n : Int) (K : SV → Mem → Prop) (h1 : msg.length = l) (h2 : dst.length = l2) (b1 : Bytes msg) (b2 : Bytes dst) (m1 : l ≤ 65536) (m2 : l2 ≤ 65536) (n1 : 0 ≤ n) (n2 : n ≤ 170) (hup : KUp K)
  (hK : ∀ o cap, n.toNat ≤ cap → o.length = cap * 4 → o.take (4 * n.toNat) = hfW (spN (expand msg dst (n * 48).toNat)) n.toNat → K (.slice 593 (.lit 0) (.sym n.toNat) (.sym cap)) (memL [(593, ⟨false, .ints .u64 o⟩)])) :
  execF cxHf (uHf (expand msg dst (n * 48).toNat) n.toNat) Tryz.f7 64 [.slice 1 (.lit 0) (.sym l) (.sym c), .slice 9 (.lit 0) (.sym l2) (.sym c2), .int .i64 (.sym n)] (memL [(1, ⟨true, .ints .u8 msg⟩), (9, ⟨true, .ints .u8 dst⟩)]) K := by
 have t1 : List.take (l * 1) (List.drop 0 msg) = msg := by rw [Nat.mul_one, List.drop_zero, ← h1, List.take_length]
 have t2 : List.take (l2 * 1) (List.drop 0 dst) = dst := by rw [Nat.mul_one, List.drop_zero, ← h2, List.take_length]
 rw [vc_hf]
 intro x0 h0
 rw [wrap64 (by omega) (by omega)] at h0
 have e0 : x0.toNat = (n * 48).toNat := by omega
 have e1 : (n * 48).toNat = 48 * n.toNat := by omega
 simp only [t1, t2]
 refine ⟨⟨by omega, by omega⟩, ⟨h1, h2, b1, b2, m1, m2, by omega, by omega⟩, ?_⟩
 intro ys3 cap2 hrw ys1 h3
 subst h3
 rw [e0] at hrw
 have hl := hrw.len
 have hle := hrw.le
 have eb : ∀ z ∈ expand msg dst (n * 48).toNat, 0 ≤ z ∧ z < 256 := fun z hz => expand_bytes _ _ _ z hz
 refine ⟨⟨⟨0, [], 0⟩, ⟨⟨Nat.zero_le _, Nat.le_refl _, rfl, rfl⟩, ?_⟩⟩, ?_⟩
 ·repeat' apply And.intro
  all_goals first | rfl | trivial
 rintro ⟨i, o, cap⟩ ⟨hi, hic, hol, ho⟩
 dsimp only at hi hic hol ho ⊢
 refine ⟨fun h => ?_, fun h => ?_⟩
 ·simp only [decide_eq_true_eq] at h
  have hi' : i < n.toNat := by omega
  simp only [Int.toNat_natCast]
  refine ⟨⟨⟨0, 0⟩, ⟨⟨Nat.zero_le _, rfl⟩, ?_⟩⟩, ?_⟩
  ·have z0 : ∀ i, lm 0 i = 0 := fun i => by
    unfold lm
    simp
   simp only [z0]
   repeat' apply And.intro
   all_goals first | rfl | trivial
  rintro ⟨k, r⟩ ⟨hk, hr⟩
  dsimp only at hk hr ⊢
  have hr : r = beN ((ys1.drop (48 * i)).take k) % qN := hr
  have hrl : r < qN := by rw [hr]; exact Nat.mod_lt _ (by unfold qN; omega)
  refine ⟨fun h => ?_, fun h => ?_⟩
  ·simp only [decide_eq_true_eq] at h
   rintro x8 h8 x9 h9 x10 h10 x11 h11
   rw [h8, h9, h10, h11]
   refine ⟨⟨⟨lm_wd _ _, lm_wd _ _, lm_wd _ _, lm_wd _ _⟩, by unfold Wd; omega, wd0, wd0, wd0⟩, ?_⟩
   rintro x12 h12 x13 h13 x14 h14 x15 h15 x16 h16 x17 h17
   rw [wrap64 (by omega) (by omega)] at h16
   rw [wrap64 (by omega) (by omega)] at h17
   have e17 : x17.toNat = 48 * i + k := by omega
   refine ⟨⟨by omega, by omega⟩, by omega, ?_⟩
   rintro x18 h18 x19 h19
   rw [e17, Nat.mul_one] at h18
   have hb : 0 ≤ x18 ∧ x18 < 256 := by
    rw [h18, hrw.getD (by omega), List.getD_eq_getElem?_getD, List.getElem?_eq_getElem (by rw [hrw.xl]; omega)]
    exact eb _ (List.getElem_mem _)
   rw [wu64] at h19
   have e19 : x19 = x18 := by omega
   subst e19
   rw [V4_lm hrl, Int.toNat_natCast] at h12 h13 h14 h15
   have hq : r * 256 % 21888242871839275222246405745257275088696311157297823662689037894645226208583 < qN := Nat.mod_lt _ (by decide)
   rw [h12, h13, h14, h15, V4_lm hq, V4_one]
   refine ⟨⟨⟨⟨lm_wd _ _, lm_wd _ _, lm_wd _ _, lm_wd _ _⟩, by unfold Wd; omega, wd0, wd0, wd0⟩, by unfold qN at hq; omega, by omega⟩, ?_⟩
   rintro x20 h20 x21 h21 x22 h22 x23 h23 x24 h24
   rw [wrap64 (by omega) (by omega)] at h24
   have st := hg_step (ys := ys1) (s := 48 * i) (k := k) (by omega) hr h18 hb.1
   rw [st] at h20 h21 h22 h23
   refine ⟨⟨k + 1, beN ((ys1.drop (48 * i)).take (k + 1)) % qN⟩, ⟨by simp only; omega, rfl⟩, ?_⟩
   repeat' apply And.intro
   all_goals first | rfl | trivial | assumption | (simp only; omega)
  ·simp only [decide_eq_false_iff_not] at h
   have hk48 : k = 48 := by omega
   rintro x26 h26 x27 h27 x28 h28 x29 h29
   rw [h26, h27, h28, h29]
   refine ⟨⟨⟨hic, by omega⟩, Nat.le_refl _, by omega, by omega⟩, ?_⟩
   intro cap30 ys31 ha x32 h32
   rw [wrap64 (by omega) (by omega)] at h32
   have hrf : r = spN (expand msg dst (n * 48).toNat) i := by
    rw [hr, hk48, chN_row hrw (by omega)]
    rfl
   refine ⟨⟨i + 1, ys31, cap30⟩, ⟨by simp only; omega, ha.1, ha.2.1, w4_drop ho hrf ha⟩, ?_⟩
   repeat' apply And.intro
   all_goals first | rfl | trivial | assumption | (simp only; omega)
 ·simp only [decide_eq_false_iff_not] at h
  have hin : i = n.toNat := by omega
  subst hin
  exact hup.le (memL_sub [553, 593] rfl (by decide) (by
   intro x hx
   simp only [List.mem_cons, List.not_mem_nil, or_false] at hx ⊢
   simp [hx])) (hK o cap hic hol ho)
theorem hfn_walk (dst : List Int) (l2 c2 : Nat) (n : Int) (K : SV → Mem → Prop) (h2 : dst.length = l2) (b2 : Bytes dst) (m2 : l2 ≤ 65536) (n1 : 0 ≤ n) (n2 : n ≤ 170) (hup : KUp K)
  (hK : ∀ o cap, n.toNat ≤ cap → o.length = cap * 4 → o.take (4 * n.toNat) = hfW (spN (expand [] dst (n * 48).toNat)) n.toNat → K (.slice 593 (.lit 0) (.sym n.toNat) (.sym cap)) (memL [(593, ⟨false, .ints .u64 o⟩)])) :
  execF cxHf (uHf (expand [] dst (n * 48).toNat) n.toNat) Tryz.f7 64 [.val (.slice none 0 0), .slice 1 (.lit 0) (.sym l2) (.sym c2), .int .i64 (.sym n)] (memL [(1, ⟨true, .ints .u8 dst⟩)]) K := by
 have t2 : List.take (l2 * 1) (List.drop 0 dst) = dst := by rw [Nat.mul_one, List.drop_zero, ← h2, List.take_length]
 rw [vc_hfn]
 intro x0 h0
 rw [wrap64 (by omega) (by omega)] at h0
 have e0 : x0.toNat = (n * 48).toNat := by omega
 have e1 : (n * 48).toNat = 48 * n.toNat := by omega
 simp only [t2]
 refine ⟨by omega, ⟨h2, b2, m2, by omega, by omega⟩, ?_⟩
 intro ys3 cap2 hrw ys1 h3
 subst h3
 rw [e0] at hrw
 have hl := hrw.len
 have hle := hrw.le
 have eb : ∀ z ∈ expand [] dst (n * 48).toNat, 0 ≤ z ∧ z < 256 := fun z hz => expand_bytes _ _ _ z hz
 refine ⟨⟨⟨0, [], 0⟩, ⟨⟨Nat.zero_le _, Nat.le_refl _, rfl, rfl⟩, ?_⟩⟩, ?_⟩
 ·repeat' apply And.intro
  all_goals first | rfl | trivial
 rintro ⟨i, o, cap⟩ ⟨hi, hic, hol, ho⟩
 dsimp only at hi hic hol ho ⊢
 refine ⟨fun h => ?_, fun h => ?_⟩
 ·simp only [decide_eq_true_eq] at h
  have hi' : i < n.toNat := by omega
  simp only [Int.toNat_natCast]
  refine ⟨⟨⟨0, 0⟩, ⟨⟨Nat.zero_le _, rfl⟩, ?_⟩⟩, ?_⟩
  ·have z0 : ∀ i, lm 0 i = 0 := fun i => by
    unfold lm
    simp
   simp only [z0]
   repeat' apply And.intro
   all_goals first | rfl | trivial
  rintro ⟨k, r⟩ ⟨hk, hr⟩
  dsimp only at hk hr ⊢
  have hr : r = beN ((ys1.drop (48 * i)).take k) % qN := hr
  have hrl : r < qN := by rw [hr]; exact Nat.mod_lt _ (by unfold qN; omega)
  refine ⟨fun h => ?_, fun h => ?_⟩
  ·simp only [decide_eq_true_eq] at h
   rintro x8 h8 x9 h9 x10 h10 x11 h11
   rw [h8, h9, h10, h11]
   refine ⟨⟨⟨lm_wd _ _, lm_wd _ _, lm_wd _ _, lm_wd _ _⟩, by unfold Wd; omega, wd0, wd0, wd0⟩, ?_⟩
   rintro x12 h12 x13 h13 x14 h14 x15 h15 x16 h16 x17 h17
   rw [wrap64 (by omega) (by omega)] at h16
   rw [wrap64 (by omega) (by omega)] at h17
   have e17 : x17.toNat = 48 * i + k := by omega
   refine ⟨⟨by omega, by omega⟩, by omega, ?_⟩
   rintro x18 h18 x19 h19
   rw [e17, Nat.mul_one] at h18
   have hb : 0 ≤ x18 ∧ x18 < 256 := by
    rw [h18, hrw.getD (by omega), List.getD_eq_getElem?_getD, List.getElem?_eq_getElem (by rw [hrw.xl]; omega)]
    exact eb _ (List.getElem_mem _)
   rw [wu64] at h19
   have e19 : x19 = x18 := by omega
   subst e19
   rw [V4_lm hrl, Int.toNat_natCast] at h12 h13 h14 h15
   have hq : r * 256 % 21888242871839275222246405745257275088696311157297823662689037894645226208583 < qN := Nat.mod_lt _ (by decide)
   rw [h12, h13, h14, h15, V4_lm hq, V4_one]
   refine ⟨⟨⟨⟨lm_wd _ _, lm_wd _ _, lm_wd _ _, lm_wd _ _⟩, by unfold Wd; omega, wd0, wd0, wd0⟩, by unfold qN at hq; omega, by omega⟩, ?_⟩
   rintro x20 h20 x21 h21 x22 h22 x23 h23 x24 h24
   rw [wrap64 (by omega) (by omega)] at h24
   have st := hg_step (ys := ys1) (s := 48 * i) (k := k) (by omega) hr h18 hb.1
   rw [st] at h20 h21 h22 h23
   refine ⟨⟨k + 1, beN ((ys1.drop (48 * i)).take (k + 1)) % qN⟩, ⟨by simp only; omega, rfl⟩, ?_⟩
   repeat' apply And.intro
   all_goals first | rfl | trivial | assumption | (simp only; omega)
  ·simp only [decide_eq_false_iff_not] at h
   have hk48 : k = 48 := by omega
   rintro x26 h26 x27 h27 x28 h28 x29 h29
   rw [h26, h27, h28, h29]
   refine ⟨⟨⟨hic, by omega⟩, Nat.le_refl _, by omega, by omega⟩, ?_⟩
   intro cap30 ys31 ha x32 h32
   rw [wrap64 (by omega) (by omega)] at h32
   have hrf : r = spN (expand [] dst (n * 48).toNat) i := by
    rw [hr, hk48, chN_row hrw (by omega)]
    rfl
   refine ⟨⟨i + 1, ys31, cap30⟩, ⟨by simp only; omega, ha.1, ha.2.1, w4_drop ho hrf ha⟩, ?_⟩
   repeat' apply And.intro
   all_goals first | rfl | trivial | assumption | (simp only; omega)
 ·simp only [decide_eq_false_iff_not] at h
  have hin : i = n.toNat := by omega
  subst hin
  exact hup.le (memL_sub [553, 593] rfl (by decide) (by
   intro x hx
   simp only [List.mem_cons, List.not_mem_nil, or_false] at hx ⊢
   simp [hx])) (hK o cap hic hol ho)
def hfK (msg dst : List Int) (n : Int) (K : SV → Mem → Prop) : Prop :=
 ∀ o cap, n.toNat ≤ cap → o.length = cap * 4 → o.take (4 * n.toNat) = hfW (spN (expand msg dst (n * 48).toNat)) n.toNat → K (.slice 593 (.lit 0) (.sym n.toNat) (.sym cap)) (memL [(593, ⟨false, .ints .u64 o⟩)])
theorem hfK_live {msg dst : List Int} {n : Int} {K : SV → Mem → Prop} (h : hfK msg dst n K) : ∃ v m, K v m := by
 have l := hfW_length (spN (expand msg dst (n * 48).toNat)) n.toNat
 exact ⟨_, _, h _ n.toNat (Nat.le_refl _) (by rw [l, Nat.mul_comm]) (List.take_of_length_le (by omega))⟩
def gHf : G0 := fun args l K =>
 match args, l with
 | [.slice 1 (.lit 0) (.sym n1) (.sym _), .slice 9 (.lit 0) (.sym n2) (.sym _), .int .i64 (.sym n)], [(1, ⟨true, .ints .u8 msg⟩), (9, ⟨true, .ints .u8 dst⟩)] =>
  (msg.length = n1 ∧ dst.length = n2 ∧ Bytes msg ∧ Bytes dst ∧ n1 ≤ 65536 ∧ n2 ≤ 65536 ∧ 0 ≤ n ∧ n ≤ 170) ∧ hfK msg dst n K
 | [.val (.slice none 0 0), .slice 1 (.lit 0) (.sym n2) (.sym _), .int .i64 (.sym n)], [(1, ⟨true, .ints .u8 dst⟩)] =>
  (dst.length = n2 ∧ Bytes dst ∧ n2 ≤ 65536 ∧ 0 ≤ n ∧ n ≤ 170) ∧ hfK [] dst n K
 | _, _ => False
theorem hf_good : Good gHf := by
 constructor
 ·intro args l K K' hk h
  unfold gHf at h ⊢
  split at h
  ·exact ⟨h.1, fun o cap a b e => hk _ _ (h.2 o cap a b e)⟩
  ·exact ⟨h.1, fun o cap a b e => hk _ _ (h.2 o cap a b e)⟩
  ·exact h.elim
 ·intro args l K h
  unfold gHf at h
  split at h
  ·exact hfK_live h.2
  ·exact hfK_live h.2
  ·exact h.elim
theorem hf_ok (args : List SV) (l : List (Nat × Reg)) (K : SV → Mem → Prop) (hup : KUp K) (h : gHf args l K) : ∃ U, execF cxHf U Tryz.f7 64 args (memL l) K := by
 unfold gHf at h
 split at h
 ·rename_i n1 c1 n2 c2 n msg dst
  obtain ⟨⟨h1, h2, h5, h6, h7, h8, h9, h10⟩, hc⟩ := h
  exact ⟨_, hf_walk msg dst n1 c1 n2 c2 n K h1 h2 h5 h6 h7 h8 h9 h10 hup hc⟩
 ·rename_i n2 c2 n dst
  obtain ⟨⟨h2, h6, h8, h9, h10⟩, hc⟩ := h
  exact ⟨_, hfn_walk dst n2 c2 n K h2 h6 h8 h9 h10 hup hc⟩
 ·exact h.elim
def cSHf : Ef Tryz.prog := mkNw mixed 7 Tryz.func7 (by decide) (by kernel_rfl) [] [.sl 1 true, .sl 1 true, .num] gHf hf_good hf_ok
end Go.Sx
namespace Go.Sx
open Go Go.Proofs Go.Num
set_option maxRecDepth 100000
def cxEn : Cx Tryz.prog := { rds := [cMc], efs := [cFH], eqs := [] }
theorem vc_en (msg dst : List Int) (l c l2 c2 : Nat) (P : SV → Prop) : (execF cxEn u9 Tryz.f10 64 [.slice 9 (.lit 0) (.sym l) (.sym c), .slice 17 (.lit 0) (.sym l2) (.sym c2)] (memL [(2, ⟨true, .ints .u32 kL⟩), (9, ⟨true, .ints .u8 msg⟩),
 (17, ⟨true, .ints .u8 dst⟩)]) fun v _ => P v) = ((0 + l * 1 ≤ msg.length ∧ 0 + l2 * 1 ≤ dst.length) ∧ (kL = kL ∧ List.length (List.take (l * 1) (List.drop 0 msg)) = l ∧ List.length (List.take (l2 * 1) (List.drop 0 dst)) = l2 ∧ l ≤ c ∧ l2 ≤
 c2 ∧ Bytes (List.take (l * 1) (List.drop 0 msg)) ∧ Bytes (List.take (l2 * 1) (List.drop 0 dst)) ∧ l ≤ 65536 ∧ l2 ≤ 65536 ∧ (1 : Int) ≤ 1 ∧ (1 : Int) ≤ 170) ∧ (List.length (List.take (l2 * 1) (List.drop 0 dst)) > 255 → ∀ w : ByteArray, P
 (.tup [.agg [.int .u64 (.lit 0), .int .u64 (.lit 0), .int .u64 (.lit 0), .int .u64 (.lit 0), .int .u64 (.lit 0), .int .u64 (.lit 0), .int .u64 (.lit 0), .int .u64 (.lit 0)], .iface 126 (.ptr 553 (.lit 0))])) ∧ (List.length (List.take (l2 *
 1) (List.drop 0 dst)) ≤ 255 → ∀ b : List Int, b = hfW (fun ( d : Nat ) => mont (chN (expand (List.take (l * 1) (List.drop 0 msg)) (List.take (l2 * 1) (List.drop 0 dst)) 48) d)) 1 → ∀ a : List Int, a = b → ((0 : Int) ≤ 0 ∧ (0 : Int) < 1) ∧
 ((4 ≤ a.length ∧ (Wd (List.getD a 0 0) ∧ Wd (List.getD a 1 0) ∧ Wd (List.getD a 2 0) ∧ Wd (List.getD a 3 0)) ∧ V4 (List.getD a 0 0) (List.getD a 1 0) (List.getD a 2 0) (List.getD a 3 0) < qI) ∧ B4 (mpX (List.getD a 0 0) (List.getD a 1 0)
 (List.getD a 2 0) (List.getD a 3 0) 0) (mpX (List.getD a 0 0) (List.getD a 1 0) (List.getD a 2 0) (List.getD a 3 0) 1) (mpX (List.getD a 0 0) (List.getD a 1 0) (List.getD a 2 0) (List.getD a 3 0) 2) (mpX (List.getD a 0 0) (List.getD a 1 0)
 (List.getD a 2 0) (List.getD a 3 0) 3) fun e f g h => B4 (mpY (List.getD a 0 0) (List.getD a 1 0) (List.getD a 2 0) (List.getD a 3 0) 0) (mpY (List.getD a 0 0) (List.getD a 1 0) (List.getD a 2 0) (List.getD a 3 0) 1) (mpY (List.getD a 0 0)
 (List.getD a 1 0) (List.getD a 2 0) (List.getD a 3 0) 2) (mpY (List.getD a 0 0) (List.getD a 1 0) (List.getD a 2 0) (List.getD a 3 0) 3) fun i j k m => B4 e f g h fun n o p q => B4 i j k m fun r s t u => P (.tup [.agg [U n, U o, U p, U q,
 U r, U s, U t, U u], .val .nilIface])))) := by kernel_rfl
theorem vc_enn (dst : List Int) (l2 c2 : Nat) (P : SV → Prop) : (execF cxEn u9 Tryz.f10 64 [.val (.slice none 0 0), .slice 9 (.lit 0) (.sym l2) (.sym c2)] (memL [(2, ⟨true, .ints .u32 kL⟩), (9, ⟨true, .ints .u8 dst⟩)]) fun v _ => P v) = (0
 + l2 * 1 ≤ dst.length ∧ (kL = kL ∧ List.length (List.take (l2 * 1) (List.drop 0 dst)) = l2 ∧ l2 ≤ c2 ∧ Bytes (List.take (l2 * 1) (List.drop 0 dst)) ∧ l2 ≤ 65536 ∧ (1 : Int) ≤ 1 ∧ (1 : Int) ≤ 170) ∧ (List.length (List.take (l2 * 1)
 (List.drop 0 dst)) > 255 → ∀ t : ByteArray, P (.tup [.agg [.int .u64 (.lit 0), .int .u64 (.lit 0), .int .u64 (.lit 0), .int .u64 (.lit 0), .int .u64 (.lit 0), .int .u64 (.lit 0), .int .u64 (.lit 0), .int .u64 (.lit 0)], .iface 126 (.ptr
 553 (.lit 0))])) ∧ (List.length (List.take (l2 * 1) (List.drop 0 dst)) ≤ 255 → ∀ b : List Int, b = hfW (fun ( c : Nat ) => mont (chN (expand [] (List.take (l2 * 1) (List.drop 0 dst)) 48) c)) 1 → ∀ a : List Int, a = b → ((0 : Int) ≤ 0 ∧ (0
 : Int) < 1) ∧ ((4 ≤ a.length ∧ (Wd (List.getD a 0 0) ∧ Wd (List.getD a 1 0) ∧ Wd (List.getD a 2 0) ∧ Wd (List.getD a 3 0)) ∧ V4 (List.getD a 0 0) (List.getD a 1 0) (List.getD a 2 0) (List.getD a 3 0) < qI) ∧ B4 (mpX (List.getD a 0 0)
 (List.getD a 1 0) (List.getD a 2 0) (List.getD a 3 0) 0) (mpX (List.getD a 0 0) (List.getD a 1 0) (List.getD a 2 0) (List.getD a 3 0) 1) (mpX (List.getD a 0 0) (List.getD a 1 0) (List.getD a 2 0) (List.getD a 3 0) 2) (mpX (List.getD a 0 0)
 (List.getD a 1 0) (List.getD a 2 0) (List.getD a 3 0) 3) fun d e f g => B4 (mpY (List.getD a 0 0) (List.getD a 1 0) (List.getD a 2 0) (List.getD a 3 0) 0) (mpY (List.getD a 0 0) (List.getD a 1 0) (List.getD a 2 0) (List.getD a 3 0) 1) (mpY
 (List.getD a 0 0) (List.getD a 1 0) (List.getD a 2 0) (List.getD a 3 0) 2) (mpY (List.getD a 0 0) (List.getD a 1 0) (List.getD a 2 0) (List.getD a 3 0) 3) fun h i j k => B4 d e f g fun l m n o => B4 h i j k fun p q r s => P (.tup [.agg [U
 l, U m, U n, U o, U p, U q, U r, U s], .val .nilIface])))) := by kernel_rfl
theorem mpX_eq {A : Nat} (h : A < qN) (i : Nat) : mpX (lm (mont A) 0) (lm (mont A) 1) (lm (mont A) 2) (lm (mont A) 3) i = lm (mont (mxN A)) i := by
 unfold mpX
 rw [Vx (ws_q (mont_lt A)), mont_back, Nat.mod_eq_of_lt h]
theorem mpY_eq {A : Nat} (h : A < qN) (i : Nat) : mpY (lm (mont A) 0) (lm (mont A) 1) (lm (mont A) 2) (lm (mont A) 3) i = lm (mont (myN A)) i := by
 unfold mpY
 rw [Vx (ws_q (mont_lt A)), mont_back, Nat.mod_eq_of_lt h]
theorem hfW_one (f : Nat → Nat) : hfW f 1 = [lm (f 0) 0, lm (f 0) 1, lm (f 0) 2, lm (f 0) 3] := rfl
theorem getD4_0 (a b c d : Int) : List.getD [a, b, c, d] 0 0 = a := rfl
theorem getD4_1 (a b c d : Int) : List.getD [a, b, c, d] 1 0 = b := rfl
theorem getD4_2 (a b c d : Int) : List.getD [a, b, c, d] 2 0 = c := rfl
theorem getD4_3 (a b c d : Int) : List.getD [a, b, c, d] 3 0 = d := rfl
theorem spN_lt (ys : List Int) (j : Nat) : spN ys j < qN := by
 unfold spN
 exact Nat.mod_lt _ (by decide)
theorem td_full {xs : List Int} {n : Nat} (h : xs.length = n) : List.take (n * 1) (List.drop 0 xs) = xs := by
 rw [List.drop_zero, Nat.mul_one]
 exact List.take_of_length_le (by omega)
theorem en_walk (msg dst : List Int) (l c l2 c2 : Nat) (P : SV → Prop) (h1 : msg.length = l) (h2 : dst.length = l2) (h3 : l ≤ c) (h4 : l2 ≤ c2) (hb : Bytes msg) (hd : Bytes dst) (h5 : l ≤ 65536) (h6 : l2 ≤ 255)
  (hP : P (.tup [.agg [U (lm (mont (mxN (spN (expand msg dst 48) 0))) 0), U (lm (mont (mxN (spN (expand msg dst 48) 0))) 1), U (lm (mont (mxN (spN (expand msg dst 48) 0))) 2), U (lm (mont (mxN (spN (expand msg dst 48) 0))) 3), U (lm (mont (myN (spN (expand msg dst 48) 0))) 0), U (lm (mont (myN (spN (expand msg dst 48) 0))) 1), U (lm (mont (myN (spN (expand msg dst 48) 0))) 2), U (lm (mont (myN (spN (expand msg dst 48) 0))) 3)], .val .nilIface])) :
  execF cxEn u9 Tryz.f10 64 [.slice 9 (.lit 0) (.sym l) (.sym c), .slice 17 (.lit 0) (.sym l2) (.sym c2)] (memL [(2, ⟨true, .ints .u32 kL⟩), (9, ⟨true, .ints .u8 msg⟩), (17, ⟨true, .ints .u8 dst⟩)]) fun v _ => P v := by
 rw [vc_en, td_full h1, td_full h2]
 refine ⟨⟨by omega, by omega⟩, ⟨rfl, h1, h2, h3, h4, hb, hd, h5, by omega, by decide, by decide⟩, fun h => absurd h (by omega), fun _ => ?_⟩
 intro ws hw0 ys hy
 subst ys
 have hw : ws = [lm (mont (spN (expand msg dst 48) 0)) 0, lm (mont (spN (expand msg dst 48) 0)) 1, lm (mont (spN (expand msg dst 48) 0)) 2, lm (mont (spN (expand msg dst 48) 0)) 3] := by
  have e : mont (chN (expand msg dst 48) 0) = mont (spN (expand msg dst 48) 0) := by
   unfold spN
   rw [mont_mod]
  rw [hw0, hfW_one, e]
 clear hw0
 have hX : spN (expand msg dst 48) 0 < qN := spN_lt _ _
 generalize spN (expand msg dst 48) 0 = A at *
 subst ws
 have g0 : List.getD [lm (mont A) 0, lm (mont A) 1, lm (mont A) 2, lm (mont A) 3] 0 0 = lm (mont A) 0 := getD4_0 _ _ _ _
 have g1 : List.getD [lm (mont A) 0, lm (mont A) 1, lm (mont A) 2, lm (mont A) 3] 1 0 = lm (mont A) 1 := getD4_1 _ _ _ _
 have g2 : List.getD [lm (mont A) 0, lm (mont A) 1, lm (mont A) 2, lm (mont A) 3] 2 0 = lm (mont A) 2 := getD4_2 _ _ _ _
 have g3 : List.getD [lm (mont A) 0, lm (mont A) 1, lm (mont A) 2, lm (mont A) 3] 3 0 = lm (mont A) 3 := getD4_3 _ _ _ _
 rw [g0, g1, g2, g3]
 clear g0 g1 g2 g3
 refine ⟨⟨by decide, by decide⟩, ⟨Nat.le_refl 4, lm4_wd _, of_eq_true (Vlt (mont_lt A))⟩, ?_⟩
 rw [B4_eq, mpX_eq hX, mpX_eq hX, mpX_eq hX, mpX_eq hX]
 rw [B4_eq, mpY_eq hX, mpY_eq hX, mpY_eq hX, mpY_eq hX, B4_eq, B4_eq]
 exact hP
theorem enn_walk (dst : List Int) (l2 c2 : Nat) (P : SV → Prop) (h2 : dst.length = l2) (h4 : l2 ≤ c2) (hd : Bytes dst) (h6 : l2 ≤ 255)
  (hP : P (.tup [.agg [U (lm (mont (mxN (spN (expand [] dst 48) 0))) 0), U (lm (mont (mxN (spN (expand [] dst 48) 0))) 1), U (lm (mont (mxN (spN (expand [] dst 48) 0))) 2), U (lm (mont (mxN (spN (expand [] dst 48) 0))) 3), U (lm (mont (myN (spN (expand [] dst 48) 0))) 0), U (lm (mont (myN (spN (expand [] dst 48) 0))) 1), U (lm (mont (myN (spN (expand [] dst 48) 0))) 2), U (lm (mont (myN (spN (expand [] dst 48) 0))) 3)], .val .nilIface])) :
  execF cxEn u9 Tryz.f10 64 [.val (.slice none 0 0), .slice 9 (.lit 0) (.sym l2) (.sym c2)] (memL [(2, ⟨true, .ints .u32 kL⟩), (9, ⟨true, .ints .u8 dst⟩)]) fun v _ => P v := by
 rw [vc_enn, td_full h2]
 refine ⟨by omega, ⟨rfl, h2, h4, hd, by omega, by decide, by decide⟩, fun h => absurd h (by omega), fun _ => ?_⟩
 intro ws hw0 ys hy
 subst ys
 have hw : ws = [lm (mont (spN (expand [] dst 48) 0)) 0, lm (mont (spN (expand [] dst 48) 0)) 1, lm (mont (spN (expand [] dst 48) 0)) 2, lm (mont (spN (expand [] dst 48) 0)) 3] := by
  have e : mont (chN (expand [] dst 48) 0) = mont (spN (expand [] dst 48) 0) := by
   unfold spN
   rw [mont_mod]
  rw [hw0, hfW_one, e]
 clear hw0
 have hX : spN (expand [] dst 48) 0 < qN := spN_lt _ _
 generalize spN (expand [] dst 48) 0 = A at *
 subst ws
 have g0 : List.getD [lm (mont A) 0, lm (mont A) 1, lm (mont A) 2, lm (mont A) 3] 0 0 = lm (mont A) 0 := getD4_0 _ _ _ _
 have g1 : List.getD [lm (mont A) 0, lm (mont A) 1, lm (mont A) 2, lm (mont A) 3] 1 0 = lm (mont A) 1 := getD4_1 _ _ _ _
 have g2 : List.getD [lm (mont A) 0, lm (mont A) 1, lm (mont A) 2, lm (mont A) 3] 2 0 = lm (mont A) 2 := getD4_2 _ _ _ _
 have g3 : List.getD [lm (mont A) 0, lm (mont A) 1, lm (mont A) 2, lm (mont A) 3] 3 0 = lm (mont A) 3 := getD4_3 _ _ _ _
 rw [g0, g1, g2, g3]
 clear g0 g1 g2 g3
 refine ⟨⟨by decide, by decide⟩, ⟨Nat.le_refl 4, lm4_wd _, of_eq_true (Vlt (mont_lt A))⟩, ?_⟩
 rw [B4_eq, mpX_eq hX, mpX_eq hX, mpX_eq hX, mpX_eq hX]
 rw [B4_eq, mpY_eq hX, mpY_eq hX, mpY_eq hX, mpY_eq hX, B4_eq, B4_eq]
 exact hP
def rEn : R0 := fun args l =>
 match args, l with
 | [.slice 9 (.lit 0) (.sym n1) (.sym c1), .slice 17 (.lit 0) (.sym n2) (.sym c2)], [(2, ⟨true, .ints .u32 ks⟩), (9, ⟨true, .ints .u8 msg⟩), (17, ⟨true, .ints .u8 dst⟩)] =>
  some (some (ks = kL ∧ msg.length = n1 ∧ dst.length = n2 ∧ n1 ≤ c1 ∧ n2 ≤ c2 ∧ Bytes msg ∧ Bytes dst ∧ n1 ≤ 65536 ∧ n2 ≤ 255), .tup [.agg [U (lm (mont (mxN (spN (expand msg dst 48) 0))) 0), U (lm (mont (mxN (spN (expand msg dst 48) 0))) 1), U (lm (mont (mxN (spN (expand msg dst 48) 0))) 2), U (lm (mont (mxN (spN (expand msg dst 48) 0))) 3), U (lm (mont (myN (spN (expand msg dst 48) 0))) 0), U (lm (mont (myN (spN (expand msg dst 48) 0))) 1), U (lm (mont (myN (spN (expand msg dst 48) 0))) 2), U (lm (mont (myN (spN (expand msg dst 48) 0))) 3)], .val .nilIface])
 | [.val (.slice none 0 0), .slice 9 (.lit 0) (.sym n2) (.sym c2)], [(2, ⟨true, .ints .u32 ks⟩), (9, ⟨true, .ints .u8 dst⟩)] =>
  some (some (ks = kL ∧ dst.length = n2 ∧ n2 ≤ c2 ∧ Bytes dst ∧ n2 ≤ 255), .tup [.agg [U (lm (mont (mxN (spN (expand [] dst 48) 0))) 0), U (lm (mont (mxN (spN (expand [] dst 48) 0))) 1), U (lm (mont (mxN (spN (expand [] dst 48) 0))) 2), U (lm (mont (mxN (spN (expand [] dst 48) 0))) 3), U (lm (mont (myN (spN (expand [] dst 48) 0))) 0), U (lm (mont (myN (spN (expand [] dst 48) 0))) 1), U (lm (mont (myN (spN (expand [] dst 48) 0))) 2), U (lm (mont (myN (spN (expand [] dst 48) 0))) 3)], .val .nilIface])
 | _, _ => none
theorem en_ok (args : List SV) (l : List (Nat × Reg)) (p : Ob) (v : SV) (h : rEn args l = some (p, v)) (hp : p.ok) : ∃ U, execF cxEn U Tryz.f10 64 args (memL l) fun v' _ => v' = v := by
 unfold rEn at h
 split at h
 ·rename_i n1 c1 n2 c2 ks msg dst
  simp only [Option.some.injEq, Prod.mk.injEq] at h
  obtain ⟨rfl, rfl⟩ := h
  obtain ⟨rfl, h1, h2, h3, h4, hb, hd, h5, h6⟩ := (show ks = kL ∧ msg.length = n1 ∧ dst.length = n2 ∧ n1 ≤ c1 ∧ n2 ≤ c2 ∧ Bytes msg ∧ Bytes dst ∧ n1 ≤ 65536 ∧ n2 ≤ 255 from hp)
  exact ⟨u9, en_walk msg dst n1 c1 n2 c2 _ h1 h2 h3 h4 hb hd h5 h6 rfl⟩
 ·rename_i n2 c2 ks dst
  simp only [Option.some.injEq, Prod.mk.injEq] at h
  obtain ⟨rfl, rfl⟩ := h
  obtain ⟨rfl, h2, h4, hd, h6⟩ := (show ks = kL ∧ dst.length = n2 ∧ n2 ≤ c2 ∧ Bytes dst ∧ n2 ≤ 255 from hp)
  exact ⟨u9, enn_walk dst n2 c2 _ h2 h4 hd h6 rfl⟩
 ·cases h
def cEn : Rd Tryz.prog := mkR mixed 10 Tryz.func10 (by decide) (by kernel_rfl) [1] [.sl 1 true, .sl 1 true] rEn en_ok
def cxIe1 : Cx Tryz.prog := { rds := [cEn, cTold], efs := [cClone], eqs := [] }
theorem vc_ie1 (msg dst : List Int) (l c l2 c2 : Nat) (P : SV → Prop) : (execF cxIe1 u9 Tryz.f5 64 [.slice 9 (.lit 0) (.sym l) (.sym c), .slice 17 (.lit 0) (.sym l2) (.sym c2)] (memL [(2, ⟨true, .ints .u32 kL⟩), (9, ⟨true, .ints .u8 msg⟩),
 (17, ⟨true, .ints .u8 dst⟩)]) fun v _ => P v) = (0 + l * 1 ≤ msg.length ∧ ((List.length (List.take (l * 1) (List.drop 0 msg)) = l ∧ l ≤ 549755813888) ∧ ∀ (d : List Int) (e : Nat), Rw d (List.take (l * 1) (List.drop 0 msg)) l e → ∀ a : List
 Int, a = d → 0 + l2 * 1 ≤ dst.length ∧ ((List.length (List.take (l2 * 1) (List.drop 0 dst)) = l2 ∧ l2 ≤ 549755813888) ∧ ∀ (f : List Int) (g : Nat), Rw f (List.take (l2 * 1) (List.drop 0 dst)) l2 g → ∀ b : List Int, b = f → (((0 + l * 1 ≤
 a.length ∧ 0 + l2 * 1 ≤ b.length) ∧ kL = kL ∧ List.length (List.take (l * 1) (List.drop 0 a)) = l ∧ List.length (List.take (l2 * 1) (List.drop 0 b)) = l2 ∧ l ≤ e ∧ l2 ≤ g ∧ Bytes (List.take (l * 1) (List.drop 0 a)) ∧ Bytes (List.take (l2 *
 1) (List.drop 0 b)) ∧ l ≤ 65536 ∧ l2 ≤ 255) ∧ L4 (mont (mxN (spN (expand (List.take (l * 1) (List.drop 0 a)) (List.take (l2 * 1) (List.drop 0 b)) 48) 0))) fun h i j k => L4 (mont (myN (spN (expand (List.take (l * 1) (List.drop 0 a))
 (List.take (l2 * 1) (List.drop 0 b)) 48) 0))) fun m n o p => (W4 h i j k ∧ W4 m n o p) ∧ L4 (mmul (N4 h i j k) 1) fun q r s t => L4 (mmul (N4 m n o p) 1) fun u w x y => P (.tup [.agg [U q, U r, U s, U t, U u, U w, U x, U y], .bool (.lit
 true)]))))) := by kernel_rfl
theorem vc_ie1n (dst : List Int) (l2 c2 : Nat) (P : SV → Prop) : (execF cxIe1 u9 Tryz.f5 64 [.val (.slice none 0 0), .slice 9 (.lit 0) (.sym l2) (.sym c2)] (memL [(2, ⟨true, .ints .u32 kL⟩), (9, ⟨true, .ints .u8 dst⟩)]) fun v _ => P v) = (0
 + l2 * 1 ≤ dst.length ∧ ((List.length (List.take (l2 * 1) (List.drop 0 dst)) = l2 ∧ l2 ≤ 549755813888) ∧ ∀ (b : List Int) (c : Nat), Rw b (List.take (l2 * 1) (List.drop 0 dst)) l2 c → ∀ a : List Int, a = b → ((0 + l2 * 1 ≤ a.length ∧ kL =
 kL ∧ List.length (List.take (l2 * 1) (List.drop 0 a)) = l2 ∧ l2 ≤ c ∧ Bytes (List.take (l2 * 1) (List.drop 0 a)) ∧ l2 ≤ 255) ∧ L4 (mont (mxN (spN (expand [] (List.take (l2 * 1) (List.drop 0 a)) 48) 0))) fun d e f g => L4 (mont (myN (spN
 (expand [] (List.take (l2 * 1) (List.drop 0 a)) 48) 0))) fun h i j k => (W4 d e f g ∧ W4 h i j k) ∧ L4 (mmul (N4 d e f g) 1) fun l m n o => L4 (mmul (N4 h i j k) 1) fun p q r s => P (.tup [.agg [U l, U m, U n, U o, U p, U q, U r, U s],
 .bool (.lit true)])))) := by kernel_rfl
theorem Rw.full {ys xs : List Int} {n cap : Nat} (h : Rw ys xs n cap) : List.take (n * 1) (List.drop 0 ys) = xs ∧ n ≤ cap ∧ n ≤ ys.length := ⟨h.take1, h.le, by rw [h.len]; exact h.le⟩
theorem ie1_walk (msg dst : List Int) (l c l2 c2 : Nat) (P : SV → Prop) (h1 : msg.length = l) (h2 : dst.length = l2) (hb : Bytes msg) (hd : Bytes dst) (h5 : l ≤ 65536) (h6 : l2 ≤ 255)
  (hP : P (.tup [.agg [U (lm (mxN (spN (expand msg dst 48) 0)) 0), U (lm (mxN (spN (expand msg dst 48) 0)) 1), U (lm (mxN (spN (expand msg dst 48) 0)) 2), U (lm (mxN (spN (expand msg dst 48) 0)) 3), U (lm (myN (spN (expand msg dst 48) 0)) 0), U (lm (myN (spN (expand msg dst 48) 0)) 1), U (lm (myN (spN (expand msg dst 48) 0)) 2), U (lm (myN (spN (expand msg dst 48) 0)) 3)], .bool (.lit true)])) :
  execF cxIe1 u9 Tryz.f5 64 [.slice 9 (.lit 0) (.sym l) (.sym c), .slice 17 (.lit 0) (.sym l2) (.sym c2)] (memL [(2, ⟨true, .ints .u32 kL⟩), (9, ⟨true, .ints .u8 msg⟩), (17, ⟨true, .ints .u8 dst⟩)]) fun v _ => P v := by
 rw [vc_ie1, td_full h1, td_full h2]
 refine ⟨by omega, ⟨h1, by omega⟩, ?_⟩
 intro ys cap r1 zs hz
 subst zs
 refine ⟨by omega, ⟨h2, by omega⟩, ?_⟩
 intro zs cap2 r2 ws hw
 subst ws
 obtain ⟨e1, e2, e3⟩ := r1.full
 obtain ⟨f1, f2, f3⟩ := r2.full
 rw [e1, f1]
 refine ⟨⟨⟨by omega, by omega⟩, rfl, h1, h2, e2, f2, hb, hd, h5, h6⟩, ?_⟩
 generalize spN (expand msg dst 48) 0 = A at *
 rw [L4_eq, L4_eq]
 refine ⟨⟨lm4_wd _, lm4_wd _⟩, ?_⟩
 rw [N4l (mont_lt _), N4l (mont_lt _), mont_back, mont_back, Nat.mod_eq_of_lt (mxN_lt A), Nat.mod_eq_of_lt (myN_lt A), L4_eq, L4_eq]
 exact hP
theorem ie1n_walk (dst : List Int) (l2 c2 : Nat) (P : SV → Prop) (h2 : dst.length = l2) (hd : Bytes dst) (h6 : l2 ≤ 255)
  (hP : P (.tup [.agg [U (lm (mxN (spN (expand [] dst 48) 0)) 0), U (lm (mxN (spN (expand [] dst 48) 0)) 1), U (lm (mxN (spN (expand [] dst 48) 0)) 2), U (lm (mxN (spN (expand [] dst 48) 0)) 3), U (lm (myN (spN (expand [] dst 48) 0)) 0), U (lm (myN (spN (expand [] dst 48) 0)) 1), U (lm (myN (spN (expand [] dst 48) 0)) 2), U (lm (myN (spN (expand [] dst 48) 0)) 3)], .bool (.lit true)])) :
  execF cxIe1 u9 Tryz.f5 64 [.val (.slice none 0 0), .slice 9 (.lit 0) (.sym l2) (.sym c2)] (memL [(2, ⟨true, .ints .u32 kL⟩), (9, ⟨true, .ints .u8 dst⟩)]) fun v _ => P v := by
 rw [vc_ie1n, td_full h2]
 refine ⟨by omega, ⟨h2, by omega⟩, ?_⟩
 intro zs cap2 r2 ws hw
 subst ws
 obtain ⟨f1, f2, f3⟩ := r2.full
 rw [f1]
 refine ⟨⟨by omega, rfl, h2, f2, hd, h6⟩, ?_⟩
 generalize spN (expand [] dst 48) 0 = A at *
 rw [L4_eq, L4_eq]
 refine ⟨⟨lm4_wd _, lm4_wd _⟩, ?_⟩
 rw [N4l (mont_lt _), N4l (mont_lt _), mont_back, mont_back, Nat.mod_eq_of_lt (mxN_lt A), Nat.mod_eq_of_lt (myN_lt A), L4_eq, L4_eq]
 exact hP
def rIe1 : R0 := fun args l =>
 match args, l with
 | [.slice 9 (.lit 0) (.sym n1) (.sym c1), .slice 17 (.lit 0) (.sym n2) (.sym c2)], [(2, ⟨true, .ints .u32 ks⟩), (9, ⟨true, .ints .u8 msg⟩), (17, ⟨true, .ints .u8 dst⟩)] =>
  some (some (ks = kL ∧ msg.length = n1 ∧ dst.length = n2 ∧ Bytes msg ∧ Bytes dst ∧ n1 ≤ 65536 ∧ n2 ≤ 255), .tup [.agg [U (lm (mxN (spN (expand msg dst 48) 0)) 0), U (lm (mxN (spN (expand msg dst 48) 0)) 1), U (lm (mxN (spN (expand msg dst 48) 0)) 2), U (lm (mxN (spN (expand msg dst 48) 0)) 3), U (lm (myN (spN (expand msg dst 48) 0)) 0), U (lm (myN (spN (expand msg dst 48) 0)) 1), U (lm (myN (spN (expand msg dst 48) 0)) 2), U (lm (myN (spN (expand msg dst 48) 0)) 3)], .bool (.lit true)])
 | [.val (.slice none 0 0), .slice 9 (.lit 0) (.sym n2) (.sym c2)], [(2, ⟨true, .ints .u32 ks⟩), (9, ⟨true, .ints .u8 dst⟩)] =>
  some (some (ks = kL ∧ dst.length = n2 ∧ Bytes dst ∧ n2 ≤ 255), .tup [.agg [U (lm (mxN (spN (expand [] dst 48) 0)) 0), U (lm (mxN (spN (expand [] dst 48) 0)) 1), U (lm (mxN (spN (expand [] dst 48) 0)) 2), U (lm (mxN (spN (expand [] dst 48) 0)) 3), U (lm (myN (spN (expand [] dst 48) 0)) 0), U (lm (myN (spN (expand [] dst 48) 0)) 1), U (lm (myN (spN (expand [] dst 48) 0)) 2), U (lm (myN (spN (expand [] dst 48) 0)) 3)], .bool (.lit true)])
 | _, _ => none
theorem ie1_ok (args : List SV) (l : List (Nat × Reg)) (p : Ob) (v : SV) (h : rIe1 args l = some (p, v)) (hp : p.ok) : ∃ U, execF cxIe1 U Tryz.f5 64 args (memL l) fun v' _ => v' = v := by
 unfold rIe1 at h
 split at h
 ·rename_i n1 c1 n2 c2 ks msg dst
  simp only [Option.some.injEq, Prod.mk.injEq] at h
  obtain ⟨rfl, rfl⟩ := h
  obtain ⟨rfl, h1, h2, hb, hd, h5, h6⟩ := (show ks = kL ∧ msg.length = n1 ∧ dst.length = n2 ∧ Bytes msg ∧ Bytes dst ∧ n1 ≤ 65536 ∧ n2 ≤ 255 from hp)
  exact ⟨u9, ie1_walk msg dst n1 c1 n2 c2 _ h1 h2 hb hd h5 h6 rfl⟩
 ·rename_i n2 c2 ks dst
  simp only [Option.some.injEq, Prod.mk.injEq] at h
  obtain ⟨rfl, rfl⟩ := h
  obtain ⟨rfl, h2, hd, h6⟩ := (show ks = kL ∧ dst.length = n2 ∧ Bytes dst ∧ n2 ≤ 255 from hp)
  exact ⟨u9, ie1n_walk dst n2 c2 _ h2 hd h6 rfl⟩
 ·cases h
def cIe1 : Rd Tryz.prog := mkR mixed 5 Tryz.func5 (by decide) (by kernel_rfl) [1] [.sl 1 true, .sl 1 true] rIe1 ie1_ok
def cxLw : Cx Tryz.prog := { rds := [cIe1, cMapa], efs := [cSHf], eqs := [eq27] }
theorem vc_lw (msg dst : List Int) (l c l2 c2 : Nat) (P : SV → Prop) : (execF cxLw u9 Tryz.f3 64 [.slice 9 (.lit 0) (.sym l) (.sym c), .slice 17 (.lit 0) (.sym l2) (.sym c2)] (memL [(2, ⟨true, .ints .u32 kL⟩), (9, ⟨true, .ints .u8 msg⟩),
 (17, ⟨true, .ints .u8 dst⟩)]) fun v _ => P v) = (B1 ((l : Nat) : Int) fun h => (decide (h > 2147483647) = true → P (.bool (.lit true))) ∧ (decide (h > 2147483647) = false → B1 ((l2 : Nat) : Int) fun i => (decide (i > 2147483647) = true → P
 (.bool (.lit true))) ∧ (decide (i > 2147483647) = false → B1 ((l : Nat) : Int) fun j => (decide (j > 4096) = true → P (.bool (.lit true))) ∧ (decide (j > 4096) = false → B1 ((l2 : Nat) : Int) fun k => ((k == 0) = true → P (.bool (.lit
 true))) ∧ ((k == 0) = false → B1 ((l2 : Nat) : Int) fun m => (decide (m > 255) = true → P (.bool (.lit true))) ∧ (decide (m > 255) = false → (((0 + l * 1 ≤ msg.length ∧ 0 + l2 * 1 ≤ dst.length) ∧ kL = kL ∧ List.length (List.take (l * 1)
 (List.drop 0 msg)) = l ∧ List.length (List.take (l2 * 1) (List.drop 0 dst)) = l2 ∧ Bytes (List.take (l * 1) (List.drop 0 msg)) ∧ Bytes (List.take (l2 * 1) (List.drop 0 dst)) ∧ l ≤ 65536 ∧ l2 ≤ 255) ∧ L4 (mxN (spN (expand (List.take (l * 1)
 (List.drop 0 msg)) (List.take (l2 * 1) (List.drop 0 dst)) 48) 0)) fun o p q r => L4 (myN (spN (expand (List.take (l * 1) (List.drop 0 msg)) (List.take (l2 * 1) (List.drop 0 dst)) 48) 0)) fun s t u w => (0 + l * 1 ≤ msg.length ∧ 0 + l2 * 1
 ≤ dst.length) ∧ ((List.length (List.take (l * 1) (List.drop 0 msg)) = l ∧ List.length (List.take (l2 * 1) (List.drop 0 dst)) = l2 ∧ Bytes (List.take (l * 1) (List.drop 0 msg)) ∧ Bytes (List.take (l2 * 1) (List.drop 0 dst)) ∧ l ≤ 65536 ∧ l2
 ≤ 65536 ∧ (0 : Int) ≤ 1 ∧ (1 : Int) ≤ 170) ∧ ∀ (g : List Int) (n : Nat), 1 ≤ n → g.length = n * 4 → (List.take 4 g = hfW (spN (expand (List.take (N.val (N.mul (N.sym l) 1)) (List.drop (N.val (N.lit 0)) msg)) (List.take (N.val (N.mul (N.sym
 l2) 1)) (List.drop (N.val (N.lit 0)) dst)) (Int.toNat (A.val (A.lit 1) * 48)))) 1 → ∀ a : List Int, a = g → ((0 : Int) ≤ 0 ∧ (0 : Int) < 1) ∧ (4 ≤ a.length ∧ B4 (List.getD a 0 0) (List.getD a 1 0) (List.getD a 2 0) (List.getD a 3 0) fun b
 d e f => (W4 b d e f ∧ V4 b d e f < qI) ∧ L4 (mxN (N4 b d e f)) fun x y z A => L4 (myN (N4 b d e f)) fun B C D E => P (.bool (.sym (decide ([o, p, q, r, s, t, u, w] = [x, y, z, A, B, C, D, E])))))))))))))) := by kernel_rfl
theorem vc_lwn (dst : List Int) (l2 c2 : Nat) (P : SV → Prop) : (execF cxLw u9 Tryz.f3 64 [.val (.slice none 0 0), .slice 17 (.lit 0) (.sym l2) (.sym c2)] (memL [(2, ⟨true, .ints .u32 kL⟩), (17, ⟨true, .ints .u8 dst⟩)]) fun v _ => P v) =
 (B1 ((l2 : Nat) : Int) fun g => (decide (g > 2147483647) = true → P (.bool (.lit true))) ∧ (decide (g > 2147483647) = false → B1 ((l2 : Nat) : Int) fun h => ((h == 0) = true → P (.bool (.lit true))) ∧ ((h == 0) = false → B1 ((l2 : Nat) :
 Int) fun i => (decide (i > 255) = true → P (.bool (.lit true))) ∧ (decide (i > 255) = false → ((0 + l2 * 1 ≤ dst.length ∧ kL = kL ∧ List.length (List.take (l2 * 1) (List.drop 0 dst)) = l2 ∧ Bytes (List.take (l2 * 1) (List.drop 0 dst)) ∧ l2
 ≤ 255) ∧ L4 (mxN (spN (expand [] (List.take (l2 * 1) (List.drop 0 dst)) 48) 0)) fun k l m n => L4 (myN (spN (expand [] (List.take (l2 * 1) (List.drop 0 dst)) 48) 0)) fun o p q r => 0 + l2 * 1 ≤ dst.length ∧ ((List.length (List.take (l2 *
 1) (List.drop 0 dst)) = l2 ∧ Bytes (List.take (l2 * 1) (List.drop 0 dst)) ∧ l2 ≤ 65536 ∧ (0 : Int) ≤ 1 ∧ (1 : Int) ≤ 170) ∧ ∀ (f : List Int) (j : Nat), 1 ≤ j → f.length = j * 4 → (List.take 4 f = hfW (spN (expand [] (List.take (N.val
 (N.mul (N.sym l2) 1)) (List.drop (N.val (N.lit 0)) dst)) (Int.toNat (A.val (A.lit 1) * 48)))) 1 → ∀ a : List Int, a = f → ((0 : Int) ≤ 0 ∧ (0 : Int) < 1) ∧ (4 ≤ a.length ∧ B4 (List.getD a 0 0) (List.getD a 1 0) (List.getD a 2 0) (List.getD
 a 3 0) fun b c d e => (W4 b c d e ∧ V4 b c d e < qI) ∧ L4 (mxN (N4 b c d e)) fun s t u w => L4 (myN (N4 b c d e)) fun x y z A => P (.bool (.sym (decide ([k, l, m, n, o, p, q, r] = [s, t, u, w, x, y, z, A])))))))))))) := by kernel_rfl
theorem vc_lwm (msg : List Int) (l c : Nat) (P : SV → Prop) : (execF cxLw u9 Tryz.f3 64 [.slice 9 (.lit 0) (.sym l) (.sym c), .val (.slice none 0 0)] (memL [(2, ⟨true, .ints .u32 kL⟩), (9, ⟨true, .ints .u8 msg⟩)]) fun v _ => P v) = (B1 ((l
 : Nat) : Int) fun a => (decide (a > 2147483647) = true → P (.bool (.lit true))) ∧ (decide (a > 2147483647) = false → B1 ((l : Nat) : Int) fun b => (decide (b > 4096) = true → P (.bool (.lit true))) ∧ (decide (b > 4096) = false → P (.bool
 (.lit true))))) := by kernel_rfl
theorem vc_lwz (P : SV → Prop) : (execF cxLw u9 Tryz.f3 64 [.val (.slice none 0 0), .val (.slice none 0 0)] (memL [(2, ⟨true, .ints .u32 kL⟩)]) fun v _ => P v) = P (.bool (.lit true)) := by kernel_rfl
theorem cut_bytes {xs : List Int} {l : Nat} (h : l ≤ xs.length) (hb : Bytes xs) : ∃ ys, List.take (l * 1) (List.drop 0 xs) = ys ∧ ys.length = l ∧ Bytes ys :=
 ⟨_, rfl, by simp; omega, (hb.drop 0).take _⟩
theorem take4 {o : List Int} {a b c d : Int} (h : o.take 4 = [a, b, c, d]) : o.getD 0 0 = a ∧ o.getD 1 0 = b ∧ o.getD 2 0 = c ∧ o.getD 3 0 = d ∧ 4 ≤ o.length := by
 match o, h with
 | [], h => simp at h
 | [_], h => simp at h
 | [_, _], h => simp at h
 | [_, _, _], h => simp at h
 | x :: y :: z :: w :: r, h =>
  simp only [List.take_succ_cons, List.take_zero, List.cons.injEq, and_true] at h
  obtain ⟨rfl, rfl, rfl, rfl⟩ := h
  exact ⟨rfl, rfl, rfl, rfl, by simp⟩
theorem lw_walk (msg dst : List Int) (l c l2 c2 : Nat) (P : SV → Prop) (hm : l ≤ msg.length) (hd : l2 ≤ dst.length) (hmb : Bytes msg) (hdb : Bytes dst) (hT : P (.bool (.lit true))) (hT' : P (.bool (.sym true))) :
  execF cxLw u9 Tryz.f3 64 [.slice 9 (.lit 0) (.sym l) (.sym c), .slice 17 (.lit 0) (.sym l2) (.sym c2)] (memL [(2, ⟨true, .ints .u32 kL⟩), (9, ⟨true, .ints .u8 msg⟩), (17, ⟨true, .ints .u8 dst⟩)]) fun v _ => P v := by
 rw [vc_lw]
 obtain ⟨m1, em, ml, mb⟩ := cut_bytes hm hmb
 obtain ⟨d1, ed, dl, db⟩ := cut_bytes hd hdb
 rw [em, ed, B1_eq]
 refine ⟨fun _ => hT, fun t0 => ?_⟩
 rw [B1_eq]
 refine ⟨fun _ => hT, fun t1 => ?_⟩
 rw [B1_eq]
 refine ⟨fun _ => hT, fun t2 => ?_⟩
 rw [B1_eq]
 refine ⟨fun _ => hT, fun t3 => ?_⟩
 rw [B1_eq]
 refine ⟨fun _ => hT, fun t4 => ?_⟩
 simp only [decide_eq_false_iff_not, beq_eq_false_iff_ne, ne_eq, gt_iff_lt, Int.not_lt] at t0 t1 t2 t3 t4
 refine ⟨⟨⟨by omega, by omega⟩, rfl, ml, dl, mb, db, by omega, by omega⟩, ?_⟩
 rw [L4_eq, L4_eq]
 refine ⟨⟨by omega, by omega⟩, ⟨ml, dl, mb, db, by omega, by omega, by decide, by decide⟩, ?_⟩
 intro o cap k1 k2 k3 ys hy
 subst ys
 have k3 : List.take 4 o = hfW (spN (expand (List.take (l * 1) (List.drop 0 msg)) (List.take (l2 * 1) (List.drop 0 dst)) 48)) 1 := k3
 rw [em, ed, hfW_one] at k3
 have hX : spN (expand m1 d1 48) 0 < qN := spN_lt _ _
 generalize spN (expand m1 d1 48) 0 = A at *
 obtain ⟨g0, g1, g2, g3, g4⟩ := take4 k3
 refine ⟨⟨by decide, by decide⟩, g4, ?_⟩
 rw [g0, g1, g2, g3, B4_eq]
 refine ⟨⟨lm4_wd _, of_eq_true (Vlt hX)⟩, ?_⟩
 rw [N4l hX, L4_eq, L4_eq, decide_eq_true (rfl : [lm (mxN A) 0, lm (mxN A) 1, lm (mxN A) 2, lm (mxN A) 3, lm (myN A) 0, lm (myN A) 1, lm (myN A) 2, lm (myN A) 3] = _)]
 exact hT'
theorem lwn_walk (dst : List Int) (l2 c2 : Nat) (P : SV → Prop) (hd : l2 ≤ dst.length) (hdb : Bytes dst) (hT : P (.bool (.lit true))) (hT' : P (.bool (.sym true))) :
  execF cxLw u9 Tryz.f3 64 [.val (.slice none 0 0), .slice 17 (.lit 0) (.sym l2) (.sym c2)] (memL [(2, ⟨true, .ints .u32 kL⟩), (17, ⟨true, .ints .u8 dst⟩)]) fun v _ => P v := by
 rw [vc_lwn]
 obtain ⟨d1, ed, dl, db⟩ := cut_bytes hd hdb
 rw [ed, B1_eq]
 refine ⟨fun _ => hT, fun t1 => ?_⟩
 rw [B1_eq]
 refine ⟨fun _ => hT, fun t3 => ?_⟩
 rw [B1_eq]
 refine ⟨fun _ => hT, fun t4 => ?_⟩
 simp only [decide_eq_false_iff_not, beq_eq_false_iff_ne, ne_eq, gt_iff_lt, Int.not_lt] at t1 t3 t4
 refine ⟨⟨by omega, rfl, dl, db, by omega⟩, ?_⟩
 rw [L4_eq, L4_eq]
 refine ⟨by omega, ⟨dl, db, by omega, by decide, by decide⟩, ?_⟩
 intro o cap k1 k2 k3 ys hy
 subst ys
 have k3 : List.take 4 o = hfW (spN (expand [] (List.take (l2 * 1) (List.drop 0 dst)) 48)) 1 := k3
 rw [ed, hfW_one] at k3
 have hX : spN (expand [] d1 48) 0 < qN := spN_lt _ _
 generalize spN (expand [] d1 48) 0 = A at *
 obtain ⟨g0, g1, g2, g3, g4⟩ := take4 k3
 refine ⟨⟨by decide, by decide⟩, g4, ?_⟩
 rw [g0, g1, g2, g3, B4_eq]
 refine ⟨⟨lm4_wd _, of_eq_true (Vlt hX)⟩, ?_⟩
 rw [N4l hX, L4_eq, L4_eq, decide_eq_true (rfl : [lm (mxN A) 0, lm (mxN A) 1, lm (mxN A) 2, lm (mxN A) 3, lm (myN A) 0, lm (myN A) 1, lm (myN A) 2, lm (myN A) 3] = _)]
 exact hT'
theorem lwm_walk (msg : List Int) (l c : Nat) (P : SV → Prop) (hT : P (.bool (.lit true))) :
  execF cxLw u9 Tryz.f3 64 [.slice 9 (.lit 0) (.sym l) (.sym c), .val (.slice none 0 0)] (memL [(2, ⟨true, .ints .u32 kL⟩), (9, ⟨true, .ints .u8 msg⟩)]) fun v _ => P v := by
 rw [vc_lwm]
 simp only [B1_eq]
 repeat' first | exact hT | refine ⟨fun _ => ?_, fun _ => ?_⟩
theorem lwz_walk (P : SV → Prop) (hT : P (.bool (.lit true))) : execF cxLw u9 Tryz.f3 64 [.val (.slice none 0 0), .val (.slice none 0 0)] (memL [(2, ⟨true, .ints .u32 kL⟩)]) fun v _ => P v := by
 rw [vc_lwz]
 exact hT
end Go.Sx
namespace Go.Sx
open Go Go.Proofs Go.RowKit
set_option maxRecDepth 100000
theorem Fr.same (T : Nat → Nat → Prop) (w : World) : Fr T w w := ⟨rfl, rfl, rfl, Nat.le_refl _, fun _ _ => ObjFr.refl _ _⟩
theorem Fr.below {w w' : World} (h : Fr noT w w') : Below w.heap.size w w' := by
 refine ⟨h.os, h.tape, h.output, h.size, fun k hk => ?_⟩
 have := h.blk k hk
 unfold ObjFr at this
 split at this
 ·rename_i c t f he
  obtain ⟨c', h1, h2, h3⟩ := this
  rw [h1, he]
  have : c' = c := Array.ext_getElem? fun i => h3 i (by unfold noT; simp)
  rw [this]
 ·exact this
def BSl (W : World) (v : Value) : Prop :=
 v = .slice none 0 0 ∨ ∃ (b o len cap : Nat) (zs : List Int) (arr : Array Value) (t : TypeId) (fz : Nat × Nat), v = .slice (some ⟨b, o, none⟩) len cap ∧ W.heap[b]? = some (.cells arr t fz) ∧ zs.length = cap ∧ len ≤ cap ∧ Bytes zs ∧
  ∀ i u, (zs.map (Value.int .u8))[i]? = some u → arr[o + i]? = some u
def KRow (W : World) : Prop := ∃ (arr : Array Value) (t : TypeId) (fz : Nat × Nat), W.heap[1]? = some (.cells arr t fz) ∧ ∀ i u, (kL.map (Value.int .u32))[i]? = some u → arr[0 + i]? = some u
def env2 (b1 o1 b2 o2 : Nat) : Env := fun r => if r % 2 = 0 then some (r / 2, 0) else if r = 9 then some (b1, o1) else if r = 17 then some (b2, o2) else none
theorem env2_gid (b1 o1 b2 o2 g : Nat) : env2 b1 o1 b2 o2 (gid g) = some (g, 0) := by
 unfold env2 gid
 rw [if_pos (by omega)]
 simp
theorem env2_fresh (b1 o1 b2 o2 : Nat) : ∀ n, 64 ≤ n → Fresh (env2 b1 o1 b2 o2) n := fun n hn j hj => by
 unfold env2 rid
 rw [if_neg (by omega), if_neg (by omega), if_neg (by omega)]
theorem holds_ro {β : Env} {W : World} {l : List (Nat × Reg)} (h : ∀ x ∈ l, x.2.ro = true ∧ RegOk β W.heap.size noT W x.1 x.2) : Holds β noT (memL l) W W := by
 have hm : ∀ r g, (memL l).get r = some g → (r, g) ∈ l := fun r g hg => by
  rcases get_fold_set l _ hg with hg | hg
  ·exact hg
  ·rw [Tr.get_leaf] at hg; cases hg
 refine ⟨Fr.same _ _, fun r g hg => (h _ (hm r g hg)).2, fun r s g k _ hg hk hro => ?_⟩
 rcases hro with hro | hro
 ·have := (h _ (hm r g hg)).1
  simp only at this
  rw [hro] at this; cases this
 ·have := (h _ (hm s k hk)).1
  simp only at this
  rw [hro] at this; cases this
theorem regOk_ints {β : Env} {B : Nat} {W : World} {r b o : Nat} {k : IntKind} {xs : List Int} {arr : Array Value} {t : TypeId} {fz : Nat × Nat} (hβ : β r = some (b, o)) (hb : W.heap[b]? = some (.cells arr t fz))
  (hc : ∀ i u, (xs.map (Value.int k))[i]? = some u → arr[o + i]? = some u) : RegOk β B noT W r ⟨true, .ints k xs⟩ :=
 ⟨⟨b, o, arr, t, fz, _, hβ, hb, rfl, hc, fun h => by cases h⟩⟩
def isTrue : SV → Mem → Prop := fun sv _ => ∃ b : B, sv = .bool b ∧ b.val = true
theorem isTrue_lit (m : Mem) : isTrue (.bool (.lit true)) m := ⟨_, rfl, rfl⟩
theorem isTrue_sym (b : Bool) (m : Mem) (h : b = true) : isTrue (.bool (.sym b)) m := ⟨_, rfl, h⟩
def isTrueP : SV → Prop := fun sv => ∃ b : B, sv = .bool b ∧ b.val = true
structure Walks (fn : Func) : Prop where
 both : ∀ (msg dst : List Int) (l c l2 c2 : Nat), l ≤ msg.length → l2 ≤ dst.length → Bytes msg → Bytes dst → ∃ U,
  execF cxLw U fn 64 [.slice 9 (.lit 0) (.sym l) (.sym c), .slice 17 (.lit 0) (.sym l2) (.sym c2)] (memL [(2, ⟨true, .ints .u32 kL⟩), (9, ⟨true, .ints .u8 msg⟩), (17, ⟨true, .ints .u8 dst⟩)]) isTrue
 dst : ∀ (dst : List Int) (l2 c2 : Nat), l2 ≤ dst.length → Bytes dst → ∃ U,
  execF cxLw U fn 64 [.val (.slice none 0 0), .slice 17 (.lit 0) (.sym l2) (.sym c2)] (memL [(2, ⟨true, .ints .u32 kL⟩), (17, ⟨true, .ints .u8 dst⟩)]) isTrue
 msg : ∀ (msg : List Int) (l c : Nat), ∃ U,
  execF cxLw U fn 64 [.slice 9 (.lit 0) (.sym l) (.sym c), .val (.slice none 0 0)] (memL [(2, ⟨true, .ints .u32 kL⟩), (9, ⟨true, .ints .u8 msg⟩)]) isTrue
 none : ∃ U, execF cxLw U fn 64 [.val (.slice none 0 0), .val (.slice none 0 0)] (memL [(2, ⟨true, .ints .u32 kL⟩)]) isTrue
theorem walks3 : Walks Tryz.f3 where
 both := fun msg dst l c l2 c2 h1 h2 h3 h4 => ⟨u9, lw_walk msg dst l c l2 c2 isTrueP h1 h2 h3 h4 ⟨_, rfl, rfl⟩ ⟨_, rfl, rfl⟩⟩
 dst := fun dst l2 c2 h2 h4 => ⟨u9, lwn_walk dst l2 c2 isTrueP h2 h4 ⟨_, rfl, rfl⟩ ⟨_, rfl, rfl⟩⟩
 msg := fun msg l c => ⟨u9, lwm_walk msg l c isTrueP ⟨_, rfl, rfl⟩⟩
 none := ⟨u9, lwz_walk isTrueP ⟨_, rfl, rfl⟩⟩
theorem done_true {β : Env} {W : World} {e : Ending} {w' : World} (h : Done β noT W isTrue e w') : e = .returned (.bool true) ∧ Below W.heap.size W w' := by
 obtain ⟨β', v, sv, m', _, rfl, hd, hH, b, rfl, hb⟩ := h
 refine ⟨?_, hH.fr.below⟩
 simp only [Den] at hd
 rw [hd, hb]
theorem run_law {f : FuncId} {fn : Func} (hfn : Tryz.prog.funcs[f]? = some fn) (hw : Walks fn) {W : World} {v0 v1 : Value} (hK : KRow W) (h0 : BSl W v0) (h1 : BSl W v1) :
  Calls Tryz.prog f #[v0, v1] W fun e W' => e = .returned (.bool true) ∧ Below W.heap.size W W' := by
 obtain ⟨karr, kt, kfz, hk1, hk2⟩ := hK
 have dn : ∀ β : Env, Den β (.val (.slice none 0 0)) (.slice none 0 0) := fun β => by simp [Den]
 have d2 : ∀ {β : Env} {a b : SV} {u v : Value}, Den β a u → Den β b v → DenL β [a, b] [u, v] := fun {β} {a b} {u v} h1 h2 =>
  ⟨u, [v], h1, ⟨v, [], h2, rfl, rfl⟩, rfl⟩
 rcases h0 with rfl | ⟨b1, o1, len1, cap1, zs1, arr1, t1, fz1, rfl, a1, a2, a3, a4, a5⟩ <;> rcases h1 with rfl | ⟨b2, o2, len2, cap2, zs2, arr2, t2, fz2, rfl, c1, c2, c3, c4, c5⟩
 ·have hH : Holds (env2 0 0 0 0) noT (memL [(2, ⟨true, .ints .u32 kL⟩)]) W W := holds_ro (by
   intro x hx
   simp only [List.mem_cons, List.not_mem_nil, or_false] at hx
   subst hx
   exact ⟨rfl, regOk_ints (env2_gid _ _ _ _ 1) hk1 hk2⟩)
  exact (execF_sound mixed hfn hH (d2 (dn _) (dn _)) (env2_gid _ _ _ _) (env2_fresh _ _ _ _) (Classical.choose_spec hw.none)).mono fun e w' h => done_true h
 ·have hH : Holds (env2 0 0 b2 o2) noT (memL [(2, ⟨true, .ints .u32 kL⟩), (17, ⟨true, .ints .u8 zs2⟩)]) W W := holds_ro (by
   intro x hx
   simp only [List.mem_cons, List.not_mem_nil, or_false] at hx
   rcases hx with rfl | rfl
   ·exact ⟨rfl, regOk_ints (env2_gid _ _ _ _ 1) hk1 hk2⟩
   ·exact ⟨rfl, regOk_ints (by simp [env2]) c1 c5⟩)
  exact (execF_sound mixed hfn hH (d2 (dn _) (by simp only [Den]; exact ⟨b2, o2, rfl, rfl⟩)) (env2_gid _ _ _ _) (env2_fresh _ _ _ _) (Classical.choose_spec (hw.dst zs2 len2 cap2 (by omega) c4))).mono fun e w' h => done_true h
 ·have hH : Holds (env2 b1 o1 0 0) noT (memL [(2, ⟨true, .ints .u32 kL⟩), (9, ⟨true, .ints .u8 zs1⟩)]) W W := holds_ro (by
   intro x hx
   simp only [List.mem_cons, List.not_mem_nil, or_false] at hx
   rcases hx with rfl | rfl
   ·exact ⟨rfl, regOk_ints (env2_gid _ _ _ _ 1) hk1 hk2⟩
   ·exact ⟨rfl, regOk_ints (by simp [env2]) a1 a5⟩)
  exact (execF_sound mixed hfn hH (d2 (by simp only [Den]; exact ⟨b1, o1, rfl, rfl⟩) (dn _)) (env2_gid _ _ _ _) (env2_fresh _ _ _ _) (Classical.choose_spec (hw.msg zs1 len1 cap1))).mono fun e w' h => done_true h
 ·have hH : Holds (env2 b1 o1 b2 o2) noT (memL [(2, ⟨true, .ints .u32 kL⟩), (9, ⟨true, .ints .u8 zs1⟩), (17, ⟨true, .ints .u8 zs2⟩)]) W W := holds_ro (by
   intro x hx
   simp only [List.mem_cons, List.not_mem_nil, or_false] at hx
   rcases hx with rfl | rfl | rfl
   ·exact ⟨rfl, regOk_ints (env2_gid _ _ _ _ 1) hk1 hk2⟩
   ·exact ⟨rfl, regOk_ints (by simp [env2]) a1 a5⟩
   ·exact ⟨rfl, regOk_ints (by simp [env2]) c1 c5⟩)
  exact (execF_sound mixed hfn hH (d2 (by simp only [Den]; exact ⟨b1, o1, rfl, rfl⟩) (by simp only [Den]; exact ⟨b2, o2, rfl, rfl⟩)) (env2_gid _ _ _ _) (env2_fresh _ _ _ _) (Classical.choose_spec (hw.both zs1 zs2 len1 cap1 len2 cap2 (by omega) (by omega) a4 c4))).mono fun e w' h => done_true h
end Go.Sx
namespace Go.Proofs.YtmjcckimldkjkaaGreatDoor
open Go Go.Sx Go.ChangeShapes Go.WideShapes Go.RowKit
set_option maxRecDepth 100000
set_option maxHeartbeats 4000000
theorem own : ownKnob Tryz.prog.godebug = none := by kernel_rfl
theorem laidOut : laidOutB Tryz.prog = true := by kernel_rfl
theorem cells5 : Tryz.prog.cellsOf 5 = 1 := by kernel_rfl
theorem cellsU : Tryz.prog.cellsOf 90 = 1 := by kernel_rfl
theorem cellsA : Tryz.prog.cellsOf 120 = 64 := by kernel_rfl
theorem gK : Tryz.prog.globalNamed "loop.example/pub-g03347/pub/sha256._K" = some 1 := by kernel_rfl
theorem tK : (Tryz.prog.globals[1]?).map (·.type) = some 120 := by kernel_rfl
theorem gE : Tryz.prog.globalNamed "loop.example/pub-g03347/pub/gnarkcrypto/ecc/bn254/fp.errInvalidEncoding" = some 0 := by kernel_rfl
theorem tE : (Tryz.prog.globals[0]?).map (·.type) = some 38 := by kernel_rfl
def laidK : List (String × DataW Unit) := [("loop.example/pub-g03347/pub/sha256._K", Rows.laid_loop_example_pub_g03347_pub_sha256_K), ("loop.example/pub-g03347/pub/gnarkcrypto/ecc/bn254/fp.errInvalidEncoding", Rows.laid_loop_example_pub_g03347_pub_gnarkcrypto_ecc_bn254_fp_errInvalidEncoding)]
theorem bsl_of {H : Type} {enc : TypeId × Value → H} {W : World} {base : Nat} {v : Value} {d : DataW H} {ps : List MemPlace} (hval : Value.okWide Tryz.prog W .any base 22 v)
  (h : DataW.Trod enc Tryz.prog W 0 (fun _ => true) true 22 v d ps) : BSl W v := by
 obtain ⟨a, len, cap, rfl⟩ := okWide_slice Tryz.underlying22 hval
 obtain ⟨fuel, hf⟩ := h
 rcases open_ints Tryz.underlying22 Tryz.underlying5 cells5 hf with ⟨hc, _⟩ | ⟨a', len', cap', zs, hc, _, hle, _, hzl, _, hcells, hwf⟩
 ·left
  simpa [Value.cells] using hc
 ·right
  simp only [Value.cells, List.cons.injEq, and_true, Value.slice.injEq] at hc
  obtain ⟨rfl, rfl, rfl⟩ := hc
  simp only [Value.okWide, Tryz.underlying22, Cell.okWide, Cell.ok] at hval
  obtain ⟨_, _, _, hspot, row, cells, hsh, _⟩ := hval
  obtain ⟨b, o, sp⟩ := a'
  simp only at hspot
  subst hspot
  simp only [if_true] at hzl
  have hb : ∃ arr t fz, W.heap[b]? = some (.cells arr t fz) := by
   unfold World.shape? at hsh
   split at hsh
   ·rename_i c t fz he
    exact ⟨c, t, fz, he⟩
   ·cases hsh
  obtain ⟨arr, t, fz, he⟩ := hb
  refine ⟨b, o, len, cap, zs, arr, t, fz, rfl, he, hzl, hle, fun x hx => ?_, fun i u hu => ?_⟩
  ·have := bounds_u8 (hwf x hx)
   omega
  ·rw [List.getElem?_map] at hu
   cases hz : zs[i]? with
   | none => rw [hz] at hu; cases hu
   | some z =>
    rw [hz] at hu
    have hi : i < zs.length := (List.getElem?_eq_some_iff.1 hz).1
    have := hcells i hi
    have hz2 : zs.getD i 0 = z := by simp [List.getD_eq_getElem?_getD, hz]
    rw [hz2] at this
    have hadd : (⟨b, o, none⟩ : Addr).add i = ⟨b, o + i, none⟩ := by
     unfold Addr.add
     split
     ·rename_i h0; subst h0; rfl
     ·rfl
    rw [hadd] at this
    unfold World.cell? at this
    simp only [he] at this
    rw [← hu]
    exact this
theorem krow_of {W : World} (h : laidMetH Tryz.prog laidK W) : KRow W := by
 rw [MakeChecks.laidMetH_plain _ _ _ (by kernel_rfl)] at h
 obtain ⟨ps, ⟨g0, t0, cs0, f0, p0, q0, hg0, ht0, hv0, hd0, _, _⟩, _, _⟩ := h
 obtain rfl := Option.some.inj (gK.symm.trans hg0)
 obtain rfl := Option.some.inj (tK.symm.trans ht0)
 have hb : ∃ t fz, W.heap[1]? = some (.cells cs0 t fz) := by
  unfold World.var? at hv0
  rw [gK] at hv0
  simp only [Option.bind_some] at hv0
  split at hv0
  ·rename_i c t fz he
   exact ⟨t, fz, by rw [he, Option.some.inj hv0]⟩
  ·cases hv0
 obtain ⟨t, fz, he⟩ := hb
 refine ⟨cs0, t, fz, he, fun i u hu => ?_⟩
 obtain ⟨xs, m, _, hx, hlen, hn, hel⟩ := DataW.trod_array Tryz.underlying120 hd0
 rw [cellsA] at hlen
 rw [List.getElem?_map] at hu
 cases hz : kL[i]? with
 | none => rw [hz] at hu; cases hu
 | some z =>
  rw [hz] at hu
  have hu : Value.int .u32 z = u := Option.some.inj hu
  have hi : i < 64 := (List.getElem?_eq_some_iff.1 hz).1
  have h1 := hel i hi
  rw [cellsU, Nat.mul_one] at h1
  obtain ⟨y, hy⟩ : ∃ y, xs[i]? = some y := ⟨xs[i], List.getElem?_eq_getElem (by omega)⟩
  rw [hy] at h1
  obtain ⟨k, e1, e2, _⟩ := DataW.trod_int Tryz.underlying90 h1
  have hc : cs0.toList[i]? = some (.int .u32 k) := by
   have : ((cs0.toList.drop i).take 1)[0]? = some (.int .u32 k) := by rw [e1]; rfl
   simpa using this
  have hd : Rows.laid_loop_example_pub_g03347_pub_sha256_K (H := Unit) = .agg (kL.map fun x => .lit (.int .u32 x)) := rfl
  simp only [Prod.mk.injEq] at hx
  rw [hd] at hx
  have hxx := DataW.agg.inj hx.1
  have h2 : (kL.map fun x => (DataW.lit (.int .u32 x) : DataW Unit))[i]? = (xs.map (·.1))[i]? := by rw [hxx]
  rw [List.getElem?_map, List.getElem?_map, hz, hy, e2] at h2
  have h3 : z = k := by simpa using h2
  rw [Nat.zero_add, ← hu, h3]
  simpa using hc
theorem door_met (os : Os) (args : Array Value) : laidMetH Tryz.prog laidK ((World.doorLaid Tryz.prog 2000 os).forCall (fun _ _ => 0) ⟨#[], args, []⟩).memory :=
 laidMetH_of_parts3 (fuel := 8) (laidMet_of_run' 8 (by kernel_rfl) (by kernel_rfl)) (by kernel_rfl) (by kernel_rfl)
theorem var_step {H : Type} {enc : TypeId × Value → H} {W W' : World} {n : String} {g : Nat} {t : TypeId} {ns : List String} {d : DataW H} {ds : List (DataW H)} {q : List MemPlace} (hg : Tryz.prog.globalNamed n = some g) (ht : (Tryz.prog.globals[g]?).map (·.type) = some t)
  (hr : Tryz.prog.readableRec t = true) (hs : t < Tryz.prog.types.size) (hb : Below W.heap.size W W') (hlt : ∀ x ∈ q, x.block < W.heap.size)
  (hn : ∀ q', (∀ x ∈ q', x.block < W.heap.size) → DataW.TrodVars enc Tryz.prog W (fun _ => true) ns ds q' → DataW.TrodVars enc Tryz.prog W' (fun b => decide (b < W.heap.size)) ns ds q')
  (h : DataW.TrodVars enc Tryz.prog W (fun _ => true) (n :: ns) (d :: ds) q) : DataW.TrodVars enc Tryz.prog W' (fun b => decide (b < W.heap.size)) (n :: ns) (d :: ds) q := by
 obtain ⟨g', t', cs, fuel, p, r, h1, h2, h3, h4, hs', e⟩ := h
 obtain rfl := Option.some.inj (hg.symm.trans h1)
 obtain rfl := Option.some.inj (ht.symm.trans h2)
 have hp : ∀ x ∈ p, x.block < W.heap.size := fun x hx => hlt x (by rw [e]; simp [hx])
 have hq : ∀ x ∈ r, x.block < W.heap.size := fun x hx => hlt x (by rw [e]; simp [hx])
 obtain ⟨fuel', h4'⟩ := Below.trod (v := .agg cs) laidOut hr hs ⟨fuel, h4⟩ hb hp
 have h3' : W'.var? Tryz.prog n = some cs := by
  unfold World.var? at h3 ⊢
  rw [hg] at h3 ⊢
  simp only [Option.bind_some] at h3 ⊢
  have h0 : g < W.heap.size := by
   cases hh : W.heap[g]? with
   | none => rw [hh] at h3; cases h3
   | some o => exact (Array.getElem?_eq_some_iff.1 hh).1
  rw [hb.block g h0]
  exact h3
 exact ⟨g, t, cs, fuel', p, r, hg, ht, h3', h4', hn r hq hs', e⟩
theorem vars_stay {H : Type} {enc : TypeId × Value → H} {W W' : World} {d e : DataW H} {q : List MemPlace} (hb : Below W.heap.size W W') (hlt : ∀ x ∈ q, x.block < W.heap.size)
  (h : DataW.TrodVars enc Tryz.prog W (fun _ => true) ["loop.example/pub-g03347/pub/sha256._K", "loop.example/pub-g03347/pub/gnarkcrypto/ecc/bn254/fp.errInvalidEncoding"] [d, e] q) : DataW.TrodVars enc Tryz.prog W' (fun b => decide (b < W.heap.size)) ["loop.example/pub-g03347/pub/sha256._K", "loop.example/pub-g03347/pub/gnarkcrypto/ecc/bn254/fp.errInvalidEncoding"] [d, e] q :=
 var_step gK tK (by kernel_rfl) (of_decide_eq_true (by kernel_rfl)) hb hlt (fun _ hq' h' => var_step gE tE (by kernel_rfl) (of_decide_eq_true (by kernel_rfl)) hb hq' (fun _ _ h'' => h'') h') h
theorem post_law {H : Type} {enc : TypeId × Value → H} {fn : Func} {s : ChangeSpec} {W W' : World} {args : Array Value} {ds gs : List (DataW H)} {before : List MemPlace}
  (hp : fn.params = #[22, 22]) (hr : fn.resultTypes = #[4]) (hv : s.vars = ["loop.example/pub-g03347/pub/sha256._K", "loop.example/pub-g03347/pub/gnarkcrypto/ecc/bn254/fp.errInvalidEncoding"])
  (hs : ∀ d1 d2 g1 g2 : DataW H, s.fn H [d1, d2, g1, g2] = { results := [.lit (.bool true)], args := [d1, d2], vars := [g1, g2] })
  (hW : DataW.Whole enc Tryz.prog fn.params.toList s.vars false W args.toList ds gs before) (hb : Below W.heap.size W W') :
  s.post enc Tryz.prog fn false true false false W args (.bool true) W' := by
 have hlt := hW.lt
 have hW' := hW
 obtain ⟨p, q, hA, hV, rfl, hfz, hnd⟩ := hW
 have hA' : DataW.TrodAll enc Tryz.prog W 0 (fun _ => true) true fn.params.toList args.toList ds p := hA
 have hV' : DataW.TrodVars enc Tryz.prog W (fun _ => true) s.vars gs q := hV
 rw [hp] at hA'
 obtain ⟨v0, v1, d0, d1, p0, p1, rfl, rfl, rfl, h0, h1⟩ := trodAll_two hA'
 obtain ⟨g, g', rfl⟩ : ∃ g g', gs = [g, g'] := by
  rw [hv] at hV'
  obtain ⟨_, _, _, _, d, _, _, _, _, _, d', _, rfl, _⟩ := trodVars_two hV'
  exact ⟨d, d', rfl⟩
 have e : s.fn H ([d0, d1] ++ [g, g']) = { results := [.lit (.bool true)], args := [d0, d1], vars := [g, g'] } := hs _ _ _ _
 have l0 : ∀ x ∈ p0, x.block < W.heap.size := fun x hx => by simpa using hlt x (by simp [hx])
 have l1 : ∀ x ∈ p1, x.block < W.heap.size := fun x hx => by simpa using hlt x (by simp [hx])
 refine ⟨_, _, _, [], p0 ++ p1, q, hW', ?_, ?_, ?_, Below.frame hb _, fun h => by cases h⟩
 ·rw [e, hr]
  exact trodAll_mk1 (shut_bool Tryz.underlying4 true)
 ·rw [e, hp]
  exact trodAll_mk2 (Below.trod laidOut (by kernel_rfl) (of_decide_eq_true (by kernel_rfl)) h0 hb l0) (Below.trod laidOut (by kernel_rfl) (of_decide_eq_true (by kernel_rfl)) h1 hb l1)
 ·rw [e]
  rw [hv] at hV' ⊢
  exact vars_stay hb (fun x hx => by simpa using hlt x (by simp [hx])) hV'
theorem lifted3 (os : Os) (started : os.Started) (H : Type) (enc : TypeId × Value → H) :
  ReturnsInHanded {} Tryz.checked os 3 .any (fun w args => (Rows.fnEncodeG1Spec.pre enc Tryz.prog Tryz.f3 [] false w args ∧ laidMetH Tryz.prog laidK w) ∧ sizedMet enc Tryz.prog Tryz.f3 (OpenSpec.ofChange Rows.fnEncodeG1Spec) false w args)
   (Rows.fnEncodeG1Spec.post enc Tryz.prog Tryz.f3 false true false false) := by
 refine returnsInHanded_of_change_and (C := Tryz.checked) (X := fun w _ => laidMetH Tryz.prog laidK w) (fun _ _ _ hh h => h.of_heap hh) own started (by kernel_rfl) Tryz.func3
  (ChangeSpec.witness_shaped (enc := enc) (C := Tryz.checked) (os := os) (X := fun w _ => laidMetH Tryz.prog laidK w) false (World.doorLaid Tryz.prog 2000 os) #[.slice none 0 0, .slice none 0 0] 8 rfl (World.shaped_of_RefB (by kernel_rfl) (by kernel_rfl)) (by kernel_rfl) (by kernel_rfl) (by kernel_rfl) (door_met os _)) ?_
 intro W base args ds gs before hval hW _ _ hL _
 have hW' := hW
 obtain ⟨p, q, hA0, _, _, _, _⟩ := hW
 have hA : DataW.TrodAll enc Tryz.prog W 0 (fun _ => true) true Tryz.f3.params.toList args.toList ds p := hA0
 rw [Tryz.params3] at hA hval
 obtain ⟨v0, v1, d0, d1, p0, p1, rfl, rfl, rfl, h0, h1⟩ := trodAll_two hA
 refine (run_law Tryz.func3 walks3 (krow_of hL) (bsl_of (hval 0 22 v0 rfl rfl) h0) (bsl_of (hval 1 22 v1 rfl rfl) h1)).mono fun e W' ⟨he, hb⟩ => ?_
 exact ⟨_, he, post_law Tryz.params3 rfl rfl (fun _ _ _ _ => rfl) hW' hb⟩
theorem fnEncodeG1_holds : Rows.FnEncodeG1Said :=
 OpenClaim.holds_of_wide 3 Tryz.f3 rfl rfl rfl rfl rfl rfl rfl ⟨rfl, rfl, rfl, rfl, rfl⟩ rfl rfl rfl rfl rfl (by kernel_rfl) Tryz.func3 (by kernel_rfl)
  (of_decide_eq_true (by kernel_rfl)) (by unfold Func.isWrapper; first | (rw [if_pos (by decide +kernel)]; kernel_rfl) | (rw [if_neg (by decide +kernel)]; exact ⟨rfl, rfl⟩))
  (fun os started H enc _ => lifted3 os started H enc)
theorem fnEncodeG1_card_holds : Rows.FnEncodeG1CardSaid :=
 Claim7.holds_tied_plain_at .later [] [.data, .sentinel] true (true, "3ab755af3ec8d11c1f3127e4ec919e927d005ad2136d2a596c9207e856116a11") false
  fnEncodeG1_holds (fun _ h => by cases h) (by kernel_rfl) (fun _ h => by cases h) fnEncodeG1_row_tie rfl ⟨rfl, rfl⟩ (by kernel_rfl) rfl
  (fun f fn hf hfn => by
   obtain rfl : f = 3 := Option.some.inj ((show Tryz.prog.funcNamed "loop.example/pub-g03347/laws.FnEncodeG1" = some 3 by kernel_rfl).symm.trans hf) |>.symm
   obtain rfl : fn = Tryz.f3 := (Option.some.inj (Tryz.func3.symm.trans hfn)).symm
   exact ⟨by kernel_rfl, fun j t ht => by
    rw [Tryz.params3] at ht
    have hm : t ∈ [22, 22] := by simpa using Array.mem_of_getElem? ht
    have hall : ([22, 22].all fun u => !Tryz.prog.wantsStandIn u) = true := by kernel_rfl
    exact (show Tryz.prog.wantsStandIn t = false by simpa using List.all_eq_true.1 hall t hm)⟩)
  (by kernel_rfl)
#print axioms fnEncodeG1_card_holds
end Go.Proofs.YtmjcckimldkjkaaGreatDoor
