/- Part 6 of the proof: for every number the law FnMapG1 returns true (a verified symbolic evaluator, contracts of each function reached, the law, its row and card). Conditions: those of the given statement, none besides. -/
import Derived.Test.YtepbpfkpmlmbbaaDoorRows
import Derived.Test.YtepbpfkpmlmbbaaDoorTie
import Derived.Test.YtepbpfkpmlmbbaaDoorCards
import Derived.ProofKit
import Derived.LaidMore
import Derived.LaidLaws
import Derived.LaidHandle
import Derived.MakeChecks
import Derived.OpenShut
import Derived.Carry
import Derived.Stop.Joined
import Derived.SevenTiedAt
import Derived.Laws.IdiomArrays
import Derived.Test.YtepbpfkpmlmbbaaDoorSx5
/- octets' contract; an Element of 32 bytes. -/
namespace Go.Sx
open Go Go.Proofs Go.Num
set_option maxRecDepth 100000
def gOc : G0 := fun args l K =>
  match args, l with
  | [.agg [.int .u64 (.sym a0), .int .u64 (.sym a1), .int .u64 (.sym a2), .int .u64 (.sym a3)]], [] => (Wd a0 ∧ Wd a1 ∧ Wd a2 ∧ Wd a3) ∧ ∀ ys : List Int, ys.length = 32 → beN ys = (V4 a0 a1 a2 a3).toNat → (∀ b ∈ ys, 0 ≤ b ∧ b < 256) → K (.slice 529 (.lit 0) (.lit 32) (.lit 32)) (memL [(529, ⟨false, .ints .u8 ys⟩)])
  | _, _ => False
theorem oc_good : Good gOc := by
  constructor
  · intro args l K K' hk h
    unfold gOc at h ⊢
    split at h
    · exact ⟨h.1, fun ys h1 h2 h3 => hk _ _ (h.2 ys h1 h2 h3)⟩
    · exact h.elim
  · intro args l K h
    unfold gOc at h
    split at h
    · rename_i a0 a1 a2 a3
      obtain ⟨⟨w0, w1, w2, w3⟩, h⟩ := h
      exact ⟨_, _, h (by8 a3 ++ (by8 a2 ++ (by8 a1 ++ by8 a0))) rfl (beN_32 (ws_of w0 w1 w2 w3) _ _ _ _ (by8_val w0) (by8_val w1) (by8_val w2) (by8_val w3)) (by
        intro b hb
        simp only [List.mem_append] at hb
        rcases hb with hb | hb | hb | hb <;> exact by8_byte _ b hb)⟩
    · exact h.elim
theorem oc_ok (args : List SV) (l : List (Nat × Reg)) (K : SV → Mem → Prop) (hup : KUp K) (h : gOc args l K) : ∃ U, execF cxOc U Tryd.f17 64 args (memL l) K := by
  unfold gOc at h
  split at h
  · rename_i a0 a1 a2 a3
    obtain ⟨⟨w0, w1, w2, w3⟩, h⟩ := h
    have := oct_walk (K := K) hup (ws_of w0 w1 w2 w3) h
    exact ⟨_, this⟩
  · exact h.elim
def kOc : Ef Tryd.prog := mkNw mixed 17 Tryd.func17 (by decide) (by kernel_rfl) [] [.num] gOc oc_good oc_ok

def cxEl : Cx Tryd.prog := { rds := [cB8, cStm], efs := [kTm], eqs := [] }
theorem vc_el (c0 c1 c2 c3 c4 c5 c6 c7 c8 c9 c10 c11 c12 c13 c14 c15 c16 c17 c18 c19 c20 c21 c22 c23 c24 c25 c26 c27 c28 c29 c30 c31 : Int) (ys : List Int) (hys : ys = [c0, c1, c2, c3, c4, c5, c6, c7, c8, c9, c10, c11, c12, c13, c14, c15, c16, c17, c18, c19, c20, c21, c22, c23, c24, c25, c26, c27, c28, c29, c30, c31]) (K : SV → Mem 
 → Prop) : (execF cxEl u9 Tryd.f44 64 [.agg [], .ptr 1 (.lit 0)] (memL [(1, ⟨true, .cells [.int .u8 (.sym c0), .int .u8 (.sym c1), .int .u8 (.sym c2), .int .u8 
 (.sym c3), .int .u8 (.sym c4), .int .u8 (.sym c5), .int .u8 (.sym c6), .int .u8 (.sym c7), .int .u8 (.sym c8), .int .u8 (.sym c9), .int .u8 (.sym c10), .int .u8 
 (.sym c11), .int .u8 (.sym c12), .int .u8 (.sym c13), .int .u8 (.sym c14), .int .u8 (.sym c15), .int .u8 (.sym c16), .int .u8 (.sym c17), .int .u8 (.sym c18), .int .u8 
 (.sym c19), .int .u8 (.sym c20), .int .u8 (.sym c21), .int .u8 (.sym c22), .int .u8 (.sym c23), .int .u8 (.sym c24), .int .u8 (.sym c25), .int .u8 (.sym c26), .int .u8 
 (.sym c27), .int .u8 (.sym c28), .int .u8 (.sym c29), .int .u8 (.sym c30), .int .u8 (.sym c31)]⟩)]) K) = (((32 ≤ (List.length ys)) 
 ∧ ((((List.length (List.take 8 (List.drop 24 ys))) = 8) 
 ∧ (8 = 8)) ∧ (∀ (b0 : Int), ((List.Mem b0 (List.take 8 (List.drop 24 ys))) 
 → ((0 ≤ b0) ∧ (b0 < 256)))))) ∧ (B1 (((beN (List.take 8 (List.drop 24 ys))) : Nat) : Int) fun x1 => 
 (((24 ≤ (List.length ys)) 
 ∧ ((((List.length (List.take 8 (List.drop 16 ys))) = 8) 
 ∧ (8 = 8)) ∧ (∀ (b2 : Int), ((List.Mem b2 (List.take 8 (List.drop 16 ys))) 
 → ((0 ≤ b2) ∧ (b2 < 256)))))) ∧ (B1 (((beN (List.take 8 (List.drop 16 ys))) : Nat) : Int) fun x3 => 
 (((16 ≤ (List.length ys)) 
 ∧ ((((List.length (List.take 8 (List.drop 8 ys))) = 8) 
 ∧ (8 = 8)) ∧ (∀ (b4 : Int), ((List.Mem b4 (List.take 8 (List.drop 8 ys))) 
 → ((0 ≤ b4) ∧ (b4 < 256)))))) ∧ (B1 (((beN (List.take 8 (List.drop 8 ys))) : Nat) : Int) fun x5 => 
 (((8 ≤ (List.length ys)) 
 ∧ ((((List.length (List.take 8 (List.drop 0 ys))) = 8) 
 ∧ (8 = 8)) ∧ (∀ (b6 : Int), ((List.Mem b6 (List.take 8 (List.drop 0 ys))) 
 → ((0 ≤ b6) ∧ (b6 < 256)))))) ∧ (B1 (((beN (List.take 8 (List.drop 0 ys))) : Nat) : Int) fun x7 => 
 ((W4 x1 x3 x5 x7) ∧ ((((Bool.not (decide ((V4 x1 x3 x5 x7) < qI))) = Bool.true) → False) ∧ (((Bool.not (decide ((V4 x1 x3 x5 x7) < qI))) = Bool.false) 
 → (∃ (X8 : Nat), ((Ws x1 x3 x5 x7 X8) ∧ (∀ (r9 : Nat), ((r9 = (mont X8)) → (∀ (y010 : Int), (∀ (y111 : Int), (∀ (y212 : Int), (∀ (y313 : Int), ((El y010 y111 y212 y313 r9) 
 → (B4 y010 y111 y212 y313 fun x14 x15 x16 x17 => (K (SV.tup [(SV.agg [(U x14), (U x15), (U x16), (U x17)]), (SV.val Go.Value.nilIface)]) (memL [(1, (Reg.mk Bool.true 
 (Ct.cells [(SV.int IntKind.u8 (A.sym c0)), (SV.int IntKind.u8 (A.sym c1)), (SV.int IntKind.u8 (A.sym c2)), (SV.int IntKind.u8 (A.sym c3)), (SV.int IntKind.u8 
 (A.sym c4)), (SV.int IntKind.u8 (A.sym c5)), (SV.int IntKind.u8 (A.sym c6)), (SV.int IntKind.u8 (A.sym c7)), (SV.int IntKind.u8 (A.sym c8)), (SV.int IntKind.u8 
 (A.sym c9)), (SV.int IntKind.u8 (A.sym c10)), (SV.int IntKind.u8 (A.sym c11)), (SV.int IntKind.u8 (A.sym c12)), (SV.int IntKind.u8 (A.sym c13)), (SV.int IntKind.u8 
 (A.sym c14)), (SV.int IntKind.u8 (A.sym c15)), (SV.int IntKind.u8 (A.sym c16)), (SV.int IntKind.u8 (A.sym c17)), (SV.int IntKind.u8 (A.sym c18)), (SV.int IntKind.u8 
 (A.sym c19)), (SV.int IntKind.u8 (A.sym c20)), (SV.int IntKind.u8 (A.sym c21)), (SV.int IntKind.u8 (A.sym c22)), (SV.int IntKind.u8 (A.sym c23)), (SV.int IntKind.u8 
 (A.sym c24)), (SV.int IntKind.u8 (A.sym c25)), (SV.int IntKind.u8 (A.sym c26)), (SV.int IntKind.u8 (A.sym c27)), (SV.int IntKind.u8 (A.sym c28)), (SV.int IntKind.u8 
 (A.sym c29)), (SV.int IntKind.u8 (A.sym c30)), (SV.int IntKind.u8 (A.sym c31))]))), (513, (Reg.mk Bool.false (Ct.cells []))), (521, (Reg.mk Bool.false 
 (Ct.cells [(U x14), (U x15), (U x16), (U x17)]))), (537, (Reg.mk Bool.false (Ct.cells [(SV.int IntKind.u64 (A.sym y010)), (SV.int IntKind.u64 (A.sym y111)), 
 (SV.int IntKind.u64 (A.sym y212)), (SV.int IntKind.u64 (A.sym y313))])))]))))))))))))))))))))))) := by subst hys; kernel_rfl 
theorem mem_td {ys : List Int} {b : Int} {i : Nat} (h : b ∈ (ys.drop i).take 8) : b ∈ ys := List.mem_of_mem_drop (List.mem_of_mem_take h)
theorem parts32 {ys : List Int} (h : ys.length = 32) : ys = (ys.drop 0).take 8 ++ ((ys.drop 8).take 8 ++ ((ys.drop 16).take 8 ++ (ys.drop 24).take 8)) := by
  have e (i : Nat) : ys.drop i = (ys.drop i).take 8 ++ ys.drop (i + 8) := by
    have := (List.take_append_drop 8 (ys.drop i)).symm
    rw [List.drop_drop] at this
    exact this
  have h3 : (ys.drop 24).take 8 = ys.drop 24 := List.take_of_length_le (by rw [List.length_drop]; omega)
  rw [h3, ← e 16, ← e 8, ← e 0]
  rfl
theorem beN_lt8 {l : List Int} (h : l.length = 8) (hb : ∀ b ∈ l, 0 ≤ b ∧ b < 256) : beN l < 18446744073709551616 := by
  rw [b8_val h hb]
  have g0 := (getD_byte hb (i := 0) (by omega)).2
  have g1 := (getD_byte hb (i := 1) (by omega)).2
  have g2 := (getD_byte hb (i := 2) (by omega)).2
  have g3 := (getD_byte hb (i := 3) (by omega)).2
  have g4 := (getD_byte hb (i := 4) (by omega)).2
  have g5 := (getD_byte hb (i := 5) (by omega)).2
  have g6 := (getD_byte hb (i := 6) (by omega)).2
  have g7 := (getD_byte hb (i := 7) (by omega)).2
  have f (x : Int) (h : x < 256) : x.toNat ≤ 255 := by omega
  have f0 := f _ g0
  have f1 := f _ g1
  have f2 := f _ g2
  have f3 := f _ g3
  have f4 := f _ g4
  have f5 := f _ g5
  have f6 := f _ g6
  have f7 := f _ g7
  clear f g0 g1 g2 g3 g4 g5 g6 g7 hb h
  generalize (l.getD 0 0).toNat = n0 at *
  generalize (l.getD 1 0).toNat = n1 at *
  generalize (l.getD 2 0).toNat = n2 at *
  generalize (l.getD 3 0).toNat = n3 at *
  generalize (l.getD 4 0).toNat = n4 at *
  generalize (l.getD 5 0).toNat = n5 at *
  generalize (l.getD 6 0).toNat = n6 at *
  generalize (l.getD 7 0).toNat = n7 at *
  omega
/-- The four words that 32 bytes make. -/
theorem ws_bytes {ys : List Int} (h : ys.length = 32) (hb : ∀ b ∈ ys, 0 ≤ b ∧ b < 256) : Ws ((beN ((ys.drop 24).take 8) : Nat) : Int) ((beN ((ys.drop 16).take 8) : Nat) : Int) ((beN ((ys.drop 8).take 8) : Nat) : Int) ((beN ((ys.drop 0).take 8) : Nat) : Int) (beN ys) := by
  have l0 : ((ys.drop 0).take 8).length = 8 := by rw [List.length_take, List.length_drop]; omega
  have l1 : ((ys.drop 8).take 8).length = 8 := by rw [List.length_take, List.length_drop]; omega
  have l2 : ((ys.drop 16).take 8).length = 8 := by rw [List.length_take, List.length_drop]; omega
  have l3 : ((ys.drop 24).take 8).length = 8 := by rw [List.length_take, List.length_drop]; omega
  have e : beN ys = beN ((ys.drop 0).take 8) * 6277101735386680763835789423207666416102355444464034512896 + (beN ((ys.drop 8).take 8) * 340282366920938463463374607431768211456 + (beN ((ys.drop 16).take 8) * 18446744073709551616 + beN ((ys.drop 24).take 8))) := by
    conv => lhs; rw [parts32 h]
    rw [beN_app, beN_app, beN_app]
    simp only [List.length_append, l1, l2, l3, Nat.reduceAdd, Nat.reducePow]
  have b0 := beN_lt8 l0 fun b h => hb b (mem_td h)
  have b1 := beN_lt8 l1 fun b h => hb b (mem_td h)
  have b2 := beN_lt8 l2 fun b h => hb b (mem_td h)
  have b3 := beN_lt8 l3 fun b h => hb b (mem_td h)
  generalize beN ys = A at *
  generalize beN ((ys.drop 0).take 8) = q3 at *
  generalize beN ((ys.drop 8).take 8) = q2 at *
  generalize beN ((ys.drop 16).take 8) = q1 at *
  generalize beN ((ys.drop 24).take 8) = q0 at *
  clear l0 l1 l2 l3 h hb
  have w (q : Nat) (h : q < 18446744073709551616) : Wd (q : Int) := by unfold Wd; omega
  have := ws_of (w q0 b3) (w q1 b2) (w q2 b1) (w q3 b0)
  have f : (V4 q0 q1 q2 q3).toNat = A := by unfold V4; omega
  rw [f] at this
  exact this
theorem el_walk {c0 c1 c2 c3 c4 c5 c6 c7 c8 c9 c10 c11 c12 c13 c14 c15 c16 c17 c18 c19 c20 c21 c22 c23 c24 c25 c26 c27 c28 c29 c30 c31 : Int} {ys : List Int} {K : SV → Mem → Prop} (hys : ys = [c0, c1, c2, c3, c4, c5, c6, c7, c8, c9, c10, c11, c12, c13, c14, c15, c16, c17, c18, c19, c20, c21, c22, c23, c24, c25, c26, c27, c28, c29, c30, c31]) (h : ys.length = 32) (hb : ∀ b ∈ ys, 0 ≤ b ∧ b < 256) (hq : beN ys < qN) (hK : ∀ m, K (.tup [ag4 (lm (mont (beN ys)) 0) (lm (mont (beN ys)) 1) (lm (mont (beN ys)) 2) (lm (mont (beN ys)) 3), .val .nilIface]) m) :
    execF cxEl u9 Tryd.f44 64 [.agg [], .ptr 1 (.lit 0)] (memL [(1, ⟨true, .cells [.int .u8 (.sym c0), .int .u8 (.sym c1), .int .u8 (.sym c2), .int .u8 (.sym c3), .int .u8 (.sym c4), .int .u8 (.sym c5), .int .u8 (.sym c6), .int .u8 (.sym c7), .int .u8 (.sym c8), .int .u8 (.sym c9), .int .u8 (.sym c10), .int .u8 (.sym c11), .int .u8 (.sym c12), .int .u8 (.sym c13), .int .u8 (.sym c14), .int .u8 (.sym c15), .int .u8 (.sym c16), .int .u8 (.sym c17), .int .u8 (.sym c18), .int .u8 (.sym c19), .int .u8 (.sym c20), .int .u8 (.sym c21), .int .u8 (.sym c22), .int .u8 (.sym c23), .int .u8 (.sym c24), .int .u8 (.sym c25), .int .u8 (.sym c26), .int .u8 (.sym c27), .int .u8 (.sym c28), .int .u8 (.sym c29), .int .u8 (.sym c30), .int .u8 (.sym c31)]⟩)]) K := by
  rw [vc_el (hys := hys)]
  simp only [B1_eq, B4_eq]
  have W := ws_bytes h hb
  have lt : decide (V4 ((beN ((ys.drop 24).take 8) : Nat) : Int) ((beN ((ys.drop 16).take 8) : Nat) : Int) ((beN ((ys.drop 8).take 8) : Nat) : Int) ((beN ((ys.drop 0).take 8) : Nat) : Int) < qI) = true := decide_eq_true (by rw [W.val, qI_eq]; omega)
  have ob (i : Nat) (hi : i + 8 ≤ 32) : ((((ys.drop i).take 8).length = 8) ∧ True) ∧ (∀ b : Int, List.Mem b ((ys.drop i).take 8) → 0 ≤ b ∧ b < 256) :=
    ⟨⟨by rw [List.length_take, List.length_drop]; omega, trivial⟩, fun b h => hb b (mem_td h)⟩
  refine ⟨⟨by omega, ob 24 (by omega)⟩, ⟨by omega, ob 16 (by omega)⟩, ⟨by omega, ob 8 (by omega)⟩, ⟨by omega, ob 0 (by omega)⟩, W.wd, fun hc => ?_, fun _ => ?_⟩
  · rw [lt] at hc
    exact absurd hc (by decide)
  refine ⟨_, W, ?_⟩
  rintro _ rfl y0 y1 y2 y3 hy
  obtain ⟨rfl, rfl, rfl, rfl, _⟩ := hy
  exact hK _
def rEl : R0 := fun args l =>
  match args, l with
  | [.agg [], .ptr 1 (.lit 0)], [(1, ⟨true, .cells [.int .u8 (.sym c0), .int .u8 (.sym c1), .int .u8 (.sym c2), .int .u8 (.sym c3), .int .u8 (.sym c4), .int .u8 (.sym c5), .int .u8 (.sym c6), .int .u8 (.sym c7), .int .u8 (.sym c8), .int .u8 (.sym c9), .int .u8 (.sym c10), .int .u8 (.sym c11), .int .u8 (.sym c12), .int .u8 (.sym c13), .int .u8 (.sym c14), .int .u8 (.sym c15), .int .u8 (.sym c16), .int .u8 (.sym c17), .int .u8 (.sym c18), .int .u8 (.sym c19), .int .u8 (.sym c20), .int .u8 (.sym c21), .int .u8 (.sym c22), .int .u8 (.sym c23), .int .u8 (.sym c24), .int .u8 (.sym c25), .int .u8 (.sym c26), .int .u8 (.sym c27), .int .u8 (.sym c28), .int .u8 (.sym c29), .int .u8 (.sym c30), .int .u8 (.sym c31)]⟩)] => some (some ((∀ b ∈ [c0, c1, c2, c3, c4, c5, c6, c7, c8, c9, c10, c11, c12, c13, c14, c15, c16, c17, c18, c19, c20, c21, c22, c23, c24, c25, c26, c27, c28, c29, c30, c31], 0 ≤ b ∧ b < 256) ∧ beN [c0, c1, c2, c3, c4, c5, c6, c7, c8, c9, c10, c11, c12, c13, c14, c15, c16, c17, c18, c19, c20, c21, c22, c23, c24, c25, c26, c27, c28, c29, c30, c31] < qN), .tup [ag4 (lm (mont (beN [c0, c1, c2, c3, c4, c5, c6, c7, c8, c9, c10, c11, c12, c13, c14, c15, c16, c17, c18, c19, c20, c21, c22, c23, c24, c25, c26, c27, c28, c29, c30, c31])) 0) (lm (mont (beN [c0, c1, c2, c3, c4, c5, c6, c7, c8, c9, c10, c11, c12, c13, c14, c15, c16, c17, c18, c19, c20, c21, c22, c23, c24, c25, c26, c27, c28, c29, c30, c31])) 1) (lm (mont (beN [c0, c1, c2, c3, c4, c5, c6, c7, c8, c9, c10, c11, c12, c13, c14, c15, c16, c17, c18, c19, c20, c21, c22, c23, c24, c25, c26, c27, c28, c29, c30, c31])) 2) (lm (mont (beN [c0, c1, c2, c3, c4, c5, c6, c7, c8, c9, c10, c11, c12, c13, c14, c15, c16, c17, c18, c19, c20, c21, c22, c23, c24, c25, c26, c27, c28, c29, c30, c31])) 3), .val .nilIface])
  | _, _ => none
theorem El_ok (args : List SV) (l : List (Nat × Reg)) (p : Ob) (v : SV) (h : rEl args l = some (p, v)) (hp : p.ok) : ∃ U, execF cxEl U Tryd.f44 64 args (memL l) fun v' _ => v' = v := by
  unfold rEl at h
  split at h
  · rename_i c0 c1 c2 c3 c4 c5 c6 c7 c8 c9 c10 c11 c12 c13 c14 c15 c16 c17 c18 c19 c20 c21 c22 c23 c24 c25 c26 c27 c28 c29 c30 c31
    simp only [Option.some.injEq, Prod.mk.injEq] at h
    obtain ⟨rfl, rfl⟩ := h
    have hp : (∀ b ∈ [c0, c1, c2, c3, c4, c5, c6, c7, c8, c9, c10, c11, c12, c13, c14, c15, c16, c17, c18, c19, c20, c21, c22, c23, c24, c25, c26, c27, c28, c29, c30, c31], 0 ≤ b ∧ b < 256) ∧ beN [c0, c1, c2, c3, c4, c5, c6, c7, c8, c9, c10, c11, c12, c13, c14, c15, c16, c17, c18, c19, c20, c21, c22, c23, c24, c25, c26, c27, c28, c29, c30, c31] < qN := hp
    exact ⟨_, el_walk rfl rfl hp.1 hp.2 fun _ => rfl⟩
  · cases h
def cEl : Rd Tryd.prog := mkR mixed 44 Tryd.func44 (by decide) (by kernel_rfl) [] [.val, .ptr 32 true] rEl El_ok
theorem list32 {ys : List Int} (h : ys.length = 32) : [ys.getD 0 0, ys.getD 1 0, ys.getD 2 0, ys.getD 3 0, ys.getD 4 0, ys.getD 5 0, ys.getD 6 0, ys.getD 7 0, ys.getD 8 0, ys.getD 9 0, ys.getD 10 0, ys.getD 11 0, ys.getD 12 0, ys.getD 13 0, ys.getD 14 0, ys.getD 15 0, ys.getD 16 0, ys.getD 17 0, ys.getD 18 0, ys.getD 19 0, ys.getD 20 0, ys.getD 21 0, ys.getD 22 0, ys.getD 23 0, ys.getD 24 0, ys.getD 25 0, ys.getD 26 0, ys.getD 27 0, ys.getD 28 0, ys.getD 29 0, ys.getD 30 0, ys.getD 31 0] = ys := by
  have e : ys = (List.range 32).map fun i => ys.getD i 0 := by
    apply List.ext_getElem
    · rw [List.length_map, List.length_range, h]
    · intro i h1 h2
      rw [List.getElem_map, List.getElem_range, List.getD_eq_getElem?_getD, List.getElem?_eq_getElem h1, Option.getD_some]
  conv => rhs; rw [e]
  rfl
end Go.Sx

/- SetBytesCanonical. -/
namespace Go.Sx
open Go Go.Proofs Go.Num
set_option maxRecDepth 100000
def cxSC : Cx Tryd.prog := { rds := [cEl], efs := [], eqs := [] }
def g32 (ys : List Int) : List Int := [ys.getD 0 0, ys.getD 1 0, ys.getD 2 0, ys.getD 3 0, ys.getD 4 0, ys.getD 5 0, ys.getD 6 0, ys.getD 7 0, ys.getD 8 0, ys.getD 9 0, ys.getD 10 0, ys.getD 11 0, ys.getD 12 0, ys.getD 13 0, ys.getD 14 0, ys.getD 15 0, ys.getD 16 0, ys.getD 17 0, ys.getD 18 0, ys.getD 19 0, ys.getD 20 0, ys.getD 21 0, ys.getD 22 0, ys.getD 23 0, ys.getD 24 0, ys.getD 25 0, ys.getD 26 0, ys.getD 27 0, ys.getD 28 0, ys.getD 29 0, ys.getD 30 0, ys.getD 31 0]
theorem vc_sc (z0 z1 z2 z3 : Int) (n c : Nat) (ys : List Int) (K : SV → Mem → Prop) : (execF cxSC u9 Tryd.f16 64 [.ptr 1 (.lit 0), .slice 9 (.lit 0) (.sym n) (.sym c)] (memL [(1, ⟨false, w4 z0 z1 z2 z3⟩), (9, ⟨true, .ints .u8 ys⟩)]) K) = (B1 ((n : Nat) : Int) fun x0 => ((((x0 != 32) = Bool.true) → False) ∧ (((x0 != 32) = Bool.false) → ((32 ≤ n) ∧ (((32 ≤ (List.length ys)) ∧ ((∀ (b1 : Int), ((List.Mem b1 (g32 ys)) → ((0 ≤ b1) ∧ (b1 < 256)))) ∧ ((beN (g32 ys)) < qN))) ∧ (L4 (mont (beN (g32 ys))) fun x2 x3 x4 x5 => (K (SV.val Go.Value.nilIface) (memL [(1, (Reg.mk Bool.false (Ct.cells [(U x2), (U x3), (U x4), (U x5)]))), (9, (Reg.mk Bool.true (Ct.ints IntKind.u8 ys))), (601, (Reg.mk Bool.false (Ct.cells [(SV.int IntKind.u64 (A.sym (lm (mont (beN (g32 ys))) 0))), (SV.int IntKind.u64 (A.sym (lm (mont (beN (g32 ys))) 1))), (SV.int IntKind.u64 (A.sym (lm (mont (beN (g32 ys))) 2))), (SV.int IntKind.u64 (A.sym (lm (mont (beN (g32 ys))) 3)))])))])))))))) := by kernel_rfl
theorem g32_eq {ys : List Int} (h : ys.length = 32) : g32 ys = ys := list32 h
def gSc : G0 := fun args l K =>
  match args, l with
  | [.ptr 1 (.lit 0), .slice 9 (.lit 0) (.sym n) (.sym c)], [(1, ⟨false, z⟩), (9, ⟨true, .ints .u8 ys⟩)] => c4 z fun _ _ _ _ => ((ys.length = 32 ∧ n = 32) ∧ (∀ b ∈ ys, 0 ≤ b ∧ b < 256) ∧ beN ys < qN) ∧ ∀ r, r = mont (beN ys) → ∀ y0 y1 y2 y3, El y0 y1 y2 y3 r → K (.val .nilIface) (memL [(1, ⟨false, w4 y0 y1 y2 y3⟩), (9, ⟨true, .ints .u8 ys⟩)])
  | _, _ => False
theorem sc_good : Good gSc := by
  constructor
  · intro args l K K' hk h
    unfold gSc at h ⊢
    split at h
    · exact c4_mono (fun _ _ _ _ h => ⟨h.1, fun r hr y0 y1 y2 y3 hy => hk _ _ (h.2 r hr y0 y1 y2 y3 hy)⟩) h
    · exact h.elim
  · intro args l K h
    unfold gSc at h
    split at h
    · obtain ⟨_, _, _, _, _, h⟩ := c4_ex h
      exact ⟨_, _, h.2 _ rfl _ _ _ _ (El.of (mont_lt _))⟩
    · exact h.elim
theorem sc_ok (args : List SV) (l : List (Nat × Reg)) (K : SV → Mem → Prop) (hup : KUp K) (h : gSc args l K) : ∃ U, execF cxSC U Tryd.f16 64 args (memL l) K := by
  unfold gSc at h
  split at h
  · rename_i n c zz ys
    obtain ⟨z0, z1, z2, z3, rfl, q0⟩ := c4_ex h
    obtain ⟨⟨⟨hl, rfl⟩, hb, hq⟩, hK⟩ := q0
    refine ⟨u9, ?_⟩
    rw [vc_sc z0 z1 z2 z3, B1_eq, g32_eq hl, L4_eq]
    refine ⟨fun h => absurd h (by decide), fun _ => ⟨by omega, ⟨by omega, hb, hq⟩, ?_⟩⟩
    exact hup.le (memL_sub [1, 9, 601] rfl (by decide) (by
        intro x hx
        simp only [List.mem_cons, List.not_mem_nil, or_false] at hx ⊢
        rcases hx with hx | hx <;> simp [hx, w4, U])) (hK _ rfl _ _ _ _ (El.of (mont_lt _)))
  · exact h.elim
def kSc : Ef Tryd.prog := mkE mixed 16 Tryd.func16 (by decide) (by kernel_rfl) [] [.ptr 4 false, .sl 1 true] gSc sc_good sc_ok
end Go.Sx

/- MapToCurve1: the condition. -/
namespace Go.Sx
open Go Go.Proofs Go.Num
set_option maxRecDepth 100000
def cxMc : Cx Tryd.prog := { rds := [cLgd, cSg], efs := [kSo, kSqr, kMulA, kAddA, kSubA, kIv, kBc, kSel, kSqt, kNeg], eqs := [] }
def bcC (K : Int → Int → Int → Int → Prop) : Prop := ∀ y0 y1 y2 y3, BcR y0 y1 y2 y3 → K y0 y1 y2 y3
def ivC (a0 a1 a2 a3 : Int) (K : Int → Int → Int → Int → Prop) : Prop := ∃ X, El a0 a1 a2 a3 (mont X) ∧ ∀ y0 y1 y2 y3, IvR X y0 y1 y2 y3 → K y0 y1 y2 y3
def sqC (a0 a1 a2 a3 : Int) (K : Int → Int → Int → Int → Prop) : Prop := ∃ X, (El a0 a1 a2 a3 (mont X) ∧ sqN (X % qN) = true) ∧ ∀ y0 y1 y2 y3, EsR X y0 y1 y2 y3 → K y0 y1 y2 y3
def ngC (a0 a1 a2 a3 : Int) (K : Int → Int → Int → Int → Prop) : Prop := ∃ x, El a0 a1 a2 a3 x ∧ ∀ r, r = negN x → ∀ y0 y1 y2 y3, El y0 y1 y2 y3 r → K y0 y1 y2 y3
def McC (a0 a1 a2 a3 : Int) (P : SV → Prop) : Prop :=
 mulC a0 a1 a2 a3 a0 a1 a2 a3 fun p0a p0b p0c p0d =>
 mulC p0a p0b p0c p0d 1248766071674976557 10548065924188627562 16242874202584236114 560012691975822483 fun p1a p1b p1c p1d =>
 addC 15230403791020821917 754611498739239741 7381016538464732716 1011752739694698287 p1a p1b p1c p1d fun p2a p2b p2c p2d =>
 subC 15230403791020821917 754611498739239741 7381016538464732716 1011752739694698287 p1a p1b p1c p1d fun p3a p3b p3c p3d =>
 mulC p3a p3b p3c p3d p2a p2b p2c p2d fun p4a p4b p4c p4d =>
 ivC p4a p4b p4c p4d fun p5a p5b p5c p5d =>
 mulC a0 a1 a2 a3 p3a p3b p3c p3d fun p6a p6b p6c p6d =>
 mulC p6a p6b p6c p6d p5a p5b p5c p5d fun p7a p7b p7c p7d =>
 mulC p7a p7b p7c p7d 8972444824031832946 5898165201680709844 10690697896010808308 824354360198587078 fun p8a p8b p8c p8d =>
 subC 12997850613838968789 14304628359724097447 2950087706404981016 1237622763554136189 p8a p8b p8c p8d fun p9a p9b p9c p9d =>
 mulC p9a p9b p9c p9d p9a p9b p9c p9d fun p10a p10b p10c p10d =>
 mulC p10a p10b p10c p10d p9a p9b p9c p9d fun p11a p11b p11c p11d =>
 bcC fun p12a p12b p12c p12d =>
 addC p11a p11b p11c p11d p12a p12b p12c p12d fun p13a p13b p13c p13d =>
 ((W4 p13a p13b p13c p13d ∧ V4 p13a p13b p13c p13d < qI) ∧ B1 (lgV (N4 p13a p13b p13c p13d)) fun l1 => B1 (shrv .i64 l1 1) fun s1 =>
 addC 12997850613838968789 14304628359724097447 2950087706404981016 1237622763554136189 p8a p8b p8c p8d fun p14a p14b p14c p14d =>
 mulC p14a p14b p14c p14d p14a p14b p14c p14d fun p15a p15b p15c p15d =>
 mulC p15a p15b p15c p15d p14a p14b p14c p14d fun p16a p16b p16c p16d =>
 bcC fun p17a p17b p17c p17d =>
 addC p16a p16b p16c p16d p17a p17b p17c p17d fun p18a p18b p18c p18d =>
 ((W4 p18a p18b p18c p18d ∧ V4 p18a p18b p18c p18d < qI) ∧ B1 (lgV (N4 p18a p18b p18c p18d)) fun l2 => B1 (shrv .i64 l2 1) fun s2 => B1 (bxor .i64 (-1) s1) fun s3 => B1 (bor .i64 s2 s3) fun s4 =>
 mulC p2a p2b p2c p2d p2a p2b p2c p2d fun p19a p19b p19c p19d =>
 mulC p19a p19b p19c p19d p5a p5b p5c p5d fun p20a p20b p20c p20d =>
 mulC p20a p20b p20c p20d p20a p20b p20c p20d fun p21a p21b p21c p21d =>
 mulC p21a p21b p21c p21d 12077013577332951089 1872782865047492001 13514471836495169457 415649166299893576 fun p22a p22b p22c p22d =>
 addC p22a p22b p22c p22d 15230403791020821917 754611498739239741 7381016538464732716 1011752739694698287 fun p23a p23b p23c p23d =>
 selC s1 p9a p9b p9c p9d p23a p23b p23c p23d fun p24a p24b p24c p24d =>
 selC s4 p14a p14b p14c p14d p24a p24b p24c p24d fun p25a p25b p25c p25d =>
 mulC p25a p25b p25c p25d p25a p25b p25c p25d fun p26a p26b p26c p26d =>
 mulC p26a p26b p26c p26d p25a p25b p25c p25d fun p27a p27b p27c p27d =>
 bcC fun p28a p28b p28c p28d =>
 addC p27a p27b p27c p27d p28a p28b p28c p28d fun p29a p29b p29c p29d =>
 sqC p29a p29b p29c p29d fun p30a p30b p30c p30d =>
 (W4 a0 a1 a2 a3 ∧ B1 ((mmul (N4 a0 a1 a2 a3) 1 % 2 : Nat) : Int) fun g1 => (W4 p30a p30b p30c p30d ∧ B1 ((mmul (N4 p30a p30b p30c p30d) 1 % 2 : Nat) : Int) fun g2 => B1 (bxor .u64 g1 g2) fun g3 =>
 ngC p30a p30b p30c p30d fun p31a p31b p31c p31d =>
 B1 (IntKind.i64.wrap g3) fun g4 => selC g4 p30a p30b p30c p30d p31a p31b p31c p31d fun p32a p32b p32c p32d =>
 B4 p25a p25b p25c p25d fun x0 x1 x2 x3 => B4 p32a p32b p32c p32d fun y0 y1 y2 y3 => P (.agg [U x0, U x1, U x2, U x3, U y0, U y1, U y2, U y3])))))
theorem vc_mc (a0 a1 a2 a3 : Int) (P : SV → Prop) : execF cxMc u9 Tryd.f11 64 [.ptr 1 (.lit 0)] (memL [(1, ⟨true, w4 a0 a1 a2 a3⟩)]) (fun v _ => P v) = McC a0 a1 a2 a3 P := by kernel_rfl
end Go.Sx

/- MapToCurve1: steps in Montgomery's form; the symbol of Montgomery's form. -/
namespace Go.Sx
open Go Go.Proofs Go.Num
set_option maxRecDepth 100000
theorem mulC_m {X Y : Nat} {a0 a1 a2 a3 b0 b1 b2 b3 : Int} {K : Int → Int → Int → Int → Prop} (ha : El a0 a1 a2 a3 (mont X)) (hb : El b0 b1 b2 b3 (mont Y)) (h : ∀ y0 y1 y2 y3, El y0 y1 y2 y3 (mont (X * Y % qN)) → K y0 y1 y2 y3) : mulC a0 a1 a2 a3 b0 b1 b2 b3 K :=
  ⟨_, _, ⟨ha.ws, hb⟩, fun r hr y0 y1 y2 y3 hy => h y0 y1 y2 y3 (by rw [mont_mul, ← mont_mod] at hr; rw [hr] at hy; exact hy)⟩
theorem addC_m {X Y : Nat} {a0 a1 a2 a3 b0 b1 b2 b3 : Int} {K : Int → Int → Int → Int → Prop} (ha : El a0 a1 a2 a3 (mont X)) (hb : El b0 b1 b2 b3 (mont Y)) (h : ∀ y0 y1 y2 y3, El y0 y1 y2 y3 (mont ((X + Y) % qN)) → K y0 y1 y2 y3) : addC a0 a1 a2 a3 b0 b1 b2 b3 K :=
  ⟨_, _, ⟨ha, hb⟩, fun r hr y0 y1 y2 y3 hy => h y0 y1 y2 y3 (by rw [mont_add, ← mont_mod] at hr; rw [hr] at hy; exact hy)⟩
theorem mont_fz (x : Nat) : fz (mont x) = fz x * fz (2 ^ 256) := by
  unfold mont mmul
  rw [fz_mod, fz_mul, fz_mul]
  have e : fz r2N * fz rInv = fz (2 ^ 256) := by
    rw [← fz_mul, fz_eq]
    decide +kernel
  rw [← e]
  grobner
theorem nat_fz {a b : Nat} (ha : a < qN) (hb : b < qN) (h : fz a = fz b) : a = b := by
  have := fz_eq.1 h
  rwa [Nat.mod_eq_of_lt ha, Nat.mod_eq_of_lt hb] at this
theorem subN_fz {x y : Nat} (h : y ≤ qN) : fz (subN x y) = fz x - fz y := by
  unfold subN
  rw [fz_mod, fz_sub h]
theorem mont_sub {X Y : Nat} (hY : Y < qN) : subN (mont X) (mont Y) = mont ((X + (qN - Y)) % qN) := by
  refine nat_fz (show subN (mont X) (mont Y) < qN from Nat.mod_lt _ (by decide)) (mont_lt _) ?_
  rw [subN_fz (Nat.le_of_lt (mont_lt Y)), mont_fz, mont_fz, mont_fz, fz_mod, fz_sub (Nat.le_of_lt hY)]
  generalize fz (2 ^ 256) = R
  grobner
theorem mont_neg {Y : Nat} (hY : Y < qN) : negN (mont Y) = mont ((0 + (qN - Y)) % qN) := by
  rw [← mont_sub hY, mont_zero]
  unfold negN subN
  rw [Nat.zero_add]
theorem subC_m {X Y : Nat} {a0 a1 a2 a3 b0 b1 b2 b3 : Int} {K : Int → Int → Int → Int → Prop} (ha : El a0 a1 a2 a3 (mont X)) (hb : El b0 b1 b2 b3 (mont Y)) (hY : Y < qN) (h : ∀ y0 y1 y2 y3, El y0 y1 y2 y3 (mont ((X + (qN - Y)) % qN)) → K y0 y1 y2 y3) : subC a0 a1 a2 a3 b0 b1 b2 b3 K :=
  ⟨_, _, ⟨ha, hb⟩, fun r hr y0 y1 y2 y3 hy => h y0 y1 y2 y3 (by rw [mont_sub hY] at hr; rw [hr] at hy; exact hy)⟩
theorem IvR.inv {X : Nat} {y0 y1 y2 y3 : Int} (h : IvR X y0 y1 y2 y3) (hX : X < qN) : El y0 y1 y2 y3 (mont (inv0 X)) := by
  obtain ⟨Y, hy, hl, h0, h1⟩ := h
  have e : Y = inv0 X := by
    by_cases hx : X % qN = 0
    · rw [h0 hx]
      rw [Nat.mod_eq_of_lt hX] at hx
      rw [hx, inv0_zero]
    · exact inv0_unique hl (by rw [Nat.mul_comm]; exact h1 hx)
  rw [← e]
  exact hy
theorem ivC_m {X : Nat} {a0 a1 a2 a3 : Int} {K : Int → Int → Int → Int → Prop} (ha : El a0 a1 a2 a3 (mont X)) (hX : X < qN) (h : ∀ y0 y1 y2 y3, El y0 y1 y2 y3 (mont (inv0 X)) → K y0 y1 y2 y3) : ivC a0 a1 a2 a3 K :=
  ⟨X, ha, fun y0 y1 y2 y3 hy => h y0 y1 y2 y3 (hy.inv hX)⟩
theorem bcC_m {K : Int → Int → Int → Int → Prop} (h : ∀ y0 y1 y2 y3, El y0 y1 y2 y3 (mont 3) → K y0 y1 y2 y3) : bcC K := h
theorem sqC_m {X : Nat} {a0 a1 a2 a3 : Int} {K : Int → Int → Int → Int → Prop} (ha : El a0 a1 a2 a3 (mont X)) (hX : X < qN) (hs : sqN X = true) (h : ∀ y0 y1 y2 y3, El y0 y1 y2 y3 (mont (rtN X)) → K y0 y1 y2 y3) : sqC a0 a1 a2 a3 K :=
  ⟨X, ⟨ha, by rw [Nat.mod_eq_of_lt hX]; exact hs⟩, fun y0 y1 y2 y3 hy => h y0 y1 y2 y3 (by have := hy.rt; rw [Nat.mod_eq_of_lt hX] at this; exact this)⟩
theorem ngC_m {X : Nat} {a0 a1 a2 a3 : Int} {K : Int → Int → Int → Int → Prop} (ha : El a0 a1 a2 a3 (mont X)) (hX : X < qN) (h : ∀ y0 y1 y2 y3, El y0 y1 y2 y3 (mont ((0 + (qN - X)) % qN)) → K y0 y1 y2 y3) : ngC a0 a1 a2 a3 K :=
  ⟨_, ha, fun r hr y0 y1 y2 y3 hy => h y0 y1 y2 y3 (by rw [mont_neg hX] at hr; rw [hr] at hy; exact hy)⟩
/-- 2^256 is a square: Montgomery's form has the same symbol. -/
theorem mont_J (x : Nat) (h : x % qN ≠ 0) : J (mont x) qN = J x qN := by
  have e : mont x % qN = x * (2 ^ 128 * 2 ^ 128) % qN := by
    rw [← fz_eq, mont_fz, fz_mul, ← Nat.pow_add]
  have n2 : 2 ^ 128 % qN ≠ 0 := by decide
  rw [← J_mod, e, J_mod, J_mulN h (mul_ne n2 n2), J_mulN n2 n2, J_self n2, Int.mul_one]
theorem lgV_mont {x : Nat} (h : x < qN) : lgV (mont x) = lgN x := by
  unfold lgV lgN
  by_cases h0 : x = 0
  · rw [h0, mont_zero]
  · have hm : mont x ≠ 0 := by
      intro e
      have := mont_back x
      rw [e, mmul_zero, Nat.mod_eq_of_lt h] at this
      exact h0 this.symm
    rw [if_neg hm, if_neg h0]
    exact mont_J x (by rw [Nat.mod_eq_of_lt h]; exact h0)
/-- The symbol, moved to the right by one: 0 for a square, -1 else. -/
theorem lg_sh {x : Nat} (h : x < qN) : shrv .i64 (lgN x) 1 = if sqN x = true then 0 else -1 := by
  by_cases hs : sqN x = true
  · rw [if_pos hs]
    have hn := (sqN_iff h).1 hs
    rcases lgN_cases h with e | e | e
    · rw [e]; rfl
    · rw [e]; rfl
    · exact absurd e hn
  · rw [if_neg hs]
    have e : lgN x = -1 := by
      rcases lgN_cases h with e | e | e
      · exact absurd ((sqN_iff h).2 (by rw [e]; decide)) hs
      · exact absurd ((sqN_iff h).2 (by rw [e]; decide)) hs
      · exact e
    rw [e]; rfl
theorem gN_comm (x : Nat) : (x * x % qN * x % qN + 3) % qN = gN x := by
  unfold gN
  rw [Nat.mul_comm (x * x % qN)]
/-- The right side is as both sides compute it. -/
theorem selC_m {s : Int} {X Y : Nat} {a0 a1 a2 a3 b0 b1 b2 b3 : Int} {K : Int → Int → Int → Int → Prop} (hs : s = 0 ∨ s = 1 ∨ s = -1) (ha : El a0 a1 a2 a3 (mont X)) (hb : El b0 b1 b2 b3 (mont Y)) (h : ∀ y0 y1 y2 y3, El y0 y1 y2 y3 (mont (if s = 0 then X else Y)) → K y0 y1 y2 y3) : selC s a0 a1 a2 a3 b0 b1 b2 b3 K := by
  refine ⟨⟨hs, ha.wd, hb.wd⟩, fun e => h _ _ _ _ ?_, fun e => h _ _ _ _ ?_⟩
  · rw [if_pos e]; exact ha
  · rw [if_neg e]; exact hb
end Go.Sx

/- MapToCurve1: its contract. -/
namespace Go.Sx
open Go Go.Proofs Go.Num
set_option maxRecDepth 100000
theorem Vlt' {a b c d : Int} {x : Nat} (h : El a b c d x) : V4 a b c d < qI := by
  have := h.lt
  rw [h.val, qI_eq]
  omega
theorem sel1 (p : Bool) : (if p = true then (0 : Int) else -1) = 0 ∨ (if p = true then (0 : Int) else -1) = 1 ∨ (if p = true then (0 : Int) else -1) = -1 := by
  cases p <;> simp
theorem or_val (p r : Bool) : bor .i64 (if r = true then (0 : Int) else -1) (bxor .i64 (-1) (if p = true then (0 : Int) else -1)) = if p = false ∧ r = true then 0 else -1 := by
  cases p <;> cases r <;> decide +kernel
theorem sel2 (p r : Bool) : bor .i64 (if r = true then (0 : Int) else -1) (bxor .i64 (-1) (if p = true then (0 : Int) else -1)) = 0 ∨ bor .i64 (if r = true then (0 : Int) else -1) (bxor .i64 (-1) (if p = true then (0 : Int) else -1)) = 1 ∨ bor .i64 (if r = true then (0 : Int) else -1) (bxor .i64 (-1) (if p = true then (0 : Int) else -1)) = -1 := by
  rw [or_val]
  split
  · exact .inl rfl
  · exact .inr (.inr rfl)
theorem sel_x {X : Nat} : (if bor .i64 (if sqN (gN (x2N X)) = true then (0 : Int) else -1) (bxor .i64 (-1) (if sqN (gN (x1N X)) = true then (0 : Int) else -1)) = 0 then x2N X else if (if sqN (gN (x1N X)) = true then (0 : Int) else -1) = 0 then x1N X else x3N X) = mxN X := by
  rw [or_val]
  unfold mxN
  cases sqN (gN (x1N X)) <;> cases sqN (gN (x2N X)) <;> simp
theorem sq_mx (X : Nat) : sqN (gN (mxN X)) = true := by
  have sv := svdw X
  unfold mxN
  split
  · assumption
  · rename_i h1
    split
    · assumption
    · rename_i h2
      rcases sv with h | h | h
      · exact absurd h h1
      · exact absurd h h2
      · exact h
theorem sg_x {a b : Nat} (ha : a < 2) (hb : b < 2) : IntKind.i64.wrap (bxor .u64 (a : Int) (b : Int)) = if a = b then 0 else 1 := by
  have : a = 0 ∨ a = 1 := by omega
  have : b = 0 ∨ b = 1 := by omega
  rcases ‹a = 0 ∨ a = 1› with rfl | rfl <;> rcases ‹b = 0 ∨ b = 1› with rfl | rfl <;> decide +kernel
theorem sel3 (a b : Nat) : IntKind.i64.wrap (bxor .u64 ((a % 2 : Nat) : Int) ((b % 2 : Nat) : Int)) = 0 ∨ IntKind.i64.wrap (bxor .u64 ((a % 2 : Nat) : Int) ((b % 2 : Nat) : Int)) = 1 ∨ IntKind.i64.wrap (bxor .u64 ((a % 2 : Nat) : Int) ((b % 2 : Nat) : Int)) = -1 := by
  rw [sg_x (Nat.mod_lt _ (by omega)) (Nat.mod_lt _ (by omega))]
  split
  · exact .inl rfl
  · exact .inr (.inl rfl)
theorem sel_y {X : Nat} : (if IntKind.i64.wrap (bxor .u64 ((X % 2 : Nat) : Int) ((rtN (gN (mxN X)) % 2 : Nat) : Int)) = 0 then rtN (gN (mxN X)) else (0 + (qN - rtN (gN (mxN X)))) % qN) = myN X := by
  rw [sg_x (Nat.mod_lt _ (by omega)) (Nat.mod_lt _ (by omega))]
  unfold myN
  by_cases h : X % 2 = rtN (gN (mxN X)) % 2
  · rw [if_pos h, if_pos rfl, if_pos h.symm]
  · rw [if_neg h, if_neg (by decide), if_neg fun e => h e.symm]
theorem mc_walk {X : Nat} {a0 a1 a2 a3 : Int} {P : SV → Prop} (hu : El a0 a1 a2 a3 (mont X)) (hX : X < qN) (hP : P (.agg [U (lm (mont (mxN X)) 0), U (lm (mont (mxN X)) 1), U (lm (mont (mxN X)) 2), U (lm (mont (mxN X)) 3), U (lm (mont (myN X)) 0), U (lm (mont (myN X)) 1), U (lm (mont (myN X)) 2), U (lm (mont (myN X)) 3)])) : McC a0 a1 a2 a3 P := by
  unfold McC
  have k1 : El 15230403791020821917 754611498739239741 7381016538464732716 1011752739694698287 (mont 1) := ⟨by decide +kernel, by decide +kernel, by decide +kernel, by decide +kernel, mont_lt _⟩
  have k4 : El 1248766071674976557 10548065924188627562 16242874202584236114 560012691975822483 (mont 4) := ⟨by decide +kernel, by decide +kernel, by decide +kernel, by decide +kernel, mont_lt _⟩
  have kc2 : El 12997850613838968789 14304628359724097447 2950087706404981016 1237622763554136189 (mont c2N) := ⟨by decide +kernel, by decide +kernel, by decide +kernel, by decide +kernel, mont_lt _⟩
  have kc3 : El 8972444824031832946 5898165201680709844 10690697896010808308 824354360198587078 (mont c3N) := ⟨by decide +kernel, by decide +kernel, by decide +kernel, by decide +kernel, mont_lt _⟩
  have kc4 : El 12077013577332951089 1872782865047492001 13514471836495169457 415649166299893576 (mont c4N) := ⟨by decide +kernel, by decide +kernel, by decide +kernel, by decide +kernel, mont_lt _⟩
  refine mulC_m hu hu ?_
  intro p0a p0b p0c p0d h0
  refine mulC_m h0 k4 ?_
  intro p1a p1b p1c p1d h1
  rw [show X * X % qN * 4 % qN = tN X from rfl] at h1
  refine addC_m k1 h1 ?_
  intro p2a p2b p2c p2d h2
  rw [show (1 + tN X) % qN = moN X from rfl] at h2
  refine subC_m k1 h1 (tN_lt X) ?_
  intro p3a p3b p3c p3d h3
  rw [show (1 + (qN - tN X)) % qN = leN X from rfl] at h3
  refine mulC_m h3 h2 ?_
  intro p4a p4b p4c p4d h4
  refine ivC_m h4 (Nat.mod_lt _ (by decide)) ?_
  intro p5a p5b p5c p5d h5
  rw [show inv0 (leN X * moN X % qN) = ivN X from rfl] at h5
  refine mulC_m hu h3 ?_
  intro p6a p6b p6c p6d h6
  refine mulC_m h6 h5 ?_
  intro p7a p7b p7c p7d h7
  refine mulC_m h7 kc3 ?_
  intro p8a p8b p8c p8d h8
  rw [show X * leN X % qN * ivN X % qN * c3N % qN = stN X from rfl] at h8
  refine subC_m kc2 h8 (stN_lt X) ?_
  intro p9a p9b p9c p9d h9
  rw [show (c2N + (qN - stN X)) % qN = x1N X from rfl] at h9
  refine mulC_m h9 h9 ?_
  intro p10a p10b p10c p10d h10
  refine mulC_m h10 h9 ?_
  intro p11a p11b p11c p11d h11
  refine bcC_m ?_
  intro p12a p12b p12c p12d h12
  refine addC_m h11 h12 ?_
  intro p13a p13b p13c p13d h13
  rw [gN_comm] at h13
  refine ⟨⟨h13.wd, Vlt' h13⟩, ?_⟩
  rw [B1_eq, B1_eq, show N4 _ _ _ _ = _ from Vx h13.ws, lgV_mont (gN_lt _), lg_sh (gN_lt _)]
  refine addC_m kc2 h8 ?_
  intro p14a p14b p14c p14d h14
  rw [show (c2N + stN X) % qN = x2N X from rfl] at h14
  refine mulC_m h14 h14 ?_
  intro p15a p15b p15c p15d h15
  refine mulC_m h15 h14 ?_
  intro p16a p16b p16c p16d h16
  refine bcC_m ?_
  intro p17a p17b p17c p17d h17
  refine addC_m h16 h17 ?_
  intro p18a p18b p18c p18d h18
  rw [gN_comm] at h18
  refine ⟨⟨h18.wd, Vlt' h18⟩, ?_⟩
  rw [B1_eq, B1_eq, show N4 _ _ _ _ = _ from Vx h18.ws, lgV_mont (gN_lt _), lg_sh (gN_lt _)]
  rw [B1_eq, B1_eq]
  refine mulC_m h2 h2 ?_
  intro p19a p19b p19c p19d h19
  refine mulC_m h19 h5 ?_
  intro p20a p20b p20c p20d h20
  rw [show moN X * moN X % qN * ivN X % qN = vvN X from rfl] at h20
  refine mulC_m h20 h20 ?_
  intro p21a p21b p21c p21d h21
  refine mulC_m h21 kc4 ?_
  intro p22a p22b p22c p22d h22
  refine addC_m h22 k1 ?_
  intro p23a p23b p23c p23d h23
  rw [show (vvN X * vvN X % qN * c4N % qN + 1) % qN = x3N X from rfl] at h23
  refine selC_m (sel1 _) h9 h23 ?_
  intro p24a p24b p24c p24d h24
  refine selC_m (sel2 _ _) h14 h24 ?_
  intro p25a p25b p25c p25d h25
  rw [sel_x] at h25
  refine mulC_m h25 h25 ?_
  intro p26a p26b p26c p26d h26
  refine mulC_m h26 h25 ?_
  intro p27a p27b p27c p27d h27
  refine bcC_m ?_
  intro p28a p28b p28c p28d h28
  refine addC_m h27 h28 ?_
  intro p29a p29b p29c p29d h29
  rw [gN_comm] at h29
  refine sqC_m h29 (gN_lt _) (sq_mx X) ?_
  intro p30a p30b p30c p30d h30
  refine ⟨hu.wd, ?_⟩
  rw [B1_eq]
  refine ⟨h30.wd, ?_⟩
  rw [B1_eq, B1_eq, show N4 a0 a1 a2 a3 = _ from Vx hu.ws, show N4 _ _ _ _ = _ from Vx h30.ws, mont_back, mont_back, Nat.mod_eq_of_lt hX, Nat.mod_eq_of_lt (rtN_lt _)]
  refine ngC_m h30 (rtN_lt _) ?_
  intro p31a p31b p31c p31d h31
  rw [B1_eq]
  refine selC_m (sel3 _ _) h30 h31 ?_
  intro p32a p32b p32c p32d h32
  rw [sel_y] at h32
  rw [B4_eq, B4_eq]
  obtain ⟨rfl, rfl, rfl, rfl, _⟩ := h25
  obtain ⟨rfl, rfl, rfl, rfl, _⟩ := h32
  exact hP
/-- The words of the point's numbers, of the words of an Element. -/
def mpX (a b c d : Int) (i : Nat) : Int := lm (mont (mxN (mmul (V4 a b c d).toNat 1))) i
def mpY (a b c d : Int) (i : Nat) : Int := lm (mont (myN (mmul (V4 a b c d).toNat 1))) i
def rMc : R0 := fun args l =>
  match args, l with
  | [.ptr 1 (.lit 0)], [(1, ⟨true, x⟩)] => r4 x fun a b c d => some (some ((Wd a ∧ Wd b ∧ Wd c ∧ Wd d) ∧ V4 a b c d < 21888242871839275222246405745257275088696311157297823662689037894645226208583), .agg [U (mpX a b c d 0), U (mpX a b c d 1), U (mpX a b c d 2), U (mpX a b c d 3), U (mpY a b c d 0), U (mpY a b c d 1), U (mpY a b c d 2), U (mpY a b c d 3)])
  | _, _ => none
theorem mc_ok (args : List SV) (l : List (Nat × Reg)) (p : Ob) (v : SV) (h : rMc args l = some (p, v)) (hp : p.ok) : ∃ U, execF cxMc U Tryd.f11 64 args (memL l) fun v' _ => v' = v := by
  unfold rMc at h
  split at h
  · rename_i x
    obtain ⟨a, b, c, d, rfl, q⟩ := r4_ex h
    simp only [Option.some.injEq, Prod.mk.injEq] at q
    obtain ⟨rfl, rfl⟩ := q
    obtain ⟨hw, hl⟩ := (show (Wd a ∧ Wd b ∧ Wd c ∧ Wd d) ∧ V4 a b c d < 21888242871839275222246405745257275088696311157297823662689037894645226208583 from hp)
    refine ⟨u9, ?_⟩
    have W := ws_of hw.1 hw.2.1 hw.2.2.1 hw.2.2.2
    have ev := W.val
    have hA : (V4 a b c d).toNat < qN := by unfold qN; omega
    have E : El a b c d (mont (mmul (V4 a b c d).toNat 1)) := by
      rw [mont_of hA]
      exact ⟨W.a, W.b, W.c, W.d, hA⟩
    rw [vc_mc]
    exact mc_walk E (mmul_lt _ _) rfl
  · cases h
def cMc : Rd Tryd.prog := mkR mixed 11 Tryd.func11 (by decide) (by kernel_rfl) [] [.ptr 4 true] rMc mc_ok
end Go.Sx

/- impl.made. -/
namespace Go.Sx
open Go Go.Proofs Go.Num
set_option maxRecDepth 100000
def cxMd : Cx Tryd.prog := { rds := [], efs := [kOc, kSc], eqs := [] }
theorem vc_md (a0 a1 a2 a3 : Int) (K : SV → Mem → Prop) : (execF cxMd u9 Tryd.f9 64 [ag4 a0 a1 a2 a3] (memL []) K) = (B4 a0 a1 a2 a3 fun x0 x1 x2 x3 => 
 ((W4 x0 x1 x2 x3) ∧ (∀ (ys4 : (List Int)), (((List.length ys4) = 32) → (((beN ys4) = (N4 x0 x1 x2 x3)) → ((∀ (b5 : Int), ((List.Mem b5 ys4) → ((0 ≤ b5) 
 ∧ (b5 < 256)))) → (∀ (ys6 : (List Int)), ((ys6 = ys4) → ((32 ≤ (List.length ys6)) ∧ (((((List.length (List.take 32 (List.drop 0 ys6))) = 32) ∧ (32 = 32)) 
 ∧ ((∀ (b7 : Int), ((List.Mem b7 (List.take 32 (List.drop 0 ys6))) → ((0 ≤ b7) ∧ (b7 < 256)))) ∧ ((beN (List.take 32 (List.drop 0 ys6))) < qN))) ∧ (∀ (r8 : Nat), 
 ((r8 = (mont (beN (List.take 32 (List.drop 0 ys6))))) → (∀ (y09 : Int), (∀ (y110 : Int), (∀ (y211 : Int), (∀ (y312 : Int), ((El y09 y110 y211 y312 r8) 
 → (B4 y09 y110 y211 y312 fun x13 x14 x15 x16 => (K (SV.tup [(SV.agg [(U x13), (U x14), (U x15), (U x16)]), (SV.bool (B.lit Bool.true))]) (memL [(513, 
 (Reg.mk Bool.false (Ct.cells [(U a0), (U a1), (U a2), (U a3)]))), (521, (Reg.mk Bool.false (Ct.cells [(U x13), (U x14), (U x15), (U x16)]))), (537, (Reg.mk Bool.false 
 (Ct.cells [(SV.int IntKind.u64 (A.sym y09)), (SV.int IntKind.u64 (A.sym y110)), (SV.int IntKind.u64 (A.sym y211)), (SV.int IntKind.u64 (A.sym y312))]))), 
 (553, (Reg.mk Bool.false (Ct.ints IntKind.u8 ys6)))])))))))))))))))))))) := by kernel_rfl 
theorem td32 {ys : List Int} (h : ys.length = 32) : List.take 32 (List.drop 0 ys) = ys := by
  rw [List.drop_zero]
  exact List.take_of_length_le (by omega)
theorem md_walk {A : Nat} {a0 a1 a2 a3 : Int} {K : SV → Mem → Prop} (ha : Ws a0 a1 a2 a3 A) (la : A < qN) (hK : ∀ m, K (.tup [ag4 (lm (mont A) 0) (lm (mont A) 1) (lm (mont A) 2) (lm (mont A) 3), .bool (.lit true)]) m) :
    execF cxMd u9 Tryd.f9 64 [ag4 a0 a1 a2 a3] (memL []) K := by
  rw [vc_md, B4_eq]
  refine ⟨ha.wd, ?_⟩
  rw [show N4 a0 a1 a2 a3 = A from Vx ha]
  intro ys hl hn hb zs hz
  subst zs
  rw [td32 hl]
  refine ⟨by omega, ⟨⟨hl, rfl⟩, hb, by rw [hn]; exact la⟩, ?_⟩
  rw [hn]
  rintro _ rfl y0 y1 y2 y3 hy
  obtain ⟨rfl, rfl, rfl, rfl, _⟩ := hy
  rw [B4_eq]
  exact hK _
def rMd : R0 := fun args l =>
  match args, l with
  | [.agg [.int .u64 (.sym a0), .int .u64 (.sym a1), .int .u64 (.sym a2), .int .u64 (.sym a3)]], [] => some (some ((Wd a0 ∧ Wd a1 ∧ Wd a2 ∧ Wd a3) ∧ V4 a0 a1 a2 a3 < 21888242871839275222246405745257275088696311157297823662689037894645226208583), .tup [ag4 (lm (mont (V4 a0 a1 a2 a3).toNat) 0) (lm (mont (V4 a0 a1 a2 a3).toNat) 1) (lm (mont (V4 a0 a1 a2 a3).toNat) 2) (lm (mont (V4 a0 a1 a2 a3).toNat) 3), .bool (.lit true)])
  | _, _ => none
theorem Md_ok (args : List SV) (l : List (Nat × Reg)) (p : Ob) (v : SV) (h : rMd args l = some (p, v)) (hp : p.ok) : ∃ U, execF cxMd U Tryd.f9 64 args (memL l) fun v' _ => v' = v := by
  unfold rMd at h
  split at h
  · rename_i a0 a1 a2 a3
    simp only [Option.some.injEq, Prod.mk.injEq] at h
    obtain ⟨rfl, rfl⟩ := h
    have hp : (Wd a0 ∧ Wd a1 ∧ Wd a2 ∧ Wd a3) ∧ V4 a0 a1 a2 a3 < 21888242871839275222246405745257275088696311157297823662689037894645226208583 := hp
    have A := ws_of hp.1.1 hp.1.2.1 hp.1.2.2.1 hp.1.2.2.2
    have ea := Ws.val A
    have la := hp.2
    exact ⟨_, md_walk A (by unfold qN; omega) fun _ => rfl⟩
  · cases h
def cMd : Rd Tryd.prog := mkR mixed 9 Tryd.func9 (by decide) (by kernel_rfl) [] [.num] rMd Md_ok
end Go.Sx

/- impl.MapG1. -/
namespace Go.Sx
open Go Go.Proofs Go.Num
set_option maxRecDepth 100000
def cxMg : Cx Tryd.prog := { rds := [cMd, cMc, cTold], efs := [], eqs := [] }
theorem vc_mg (a0 a1 a2 a3 : Int) (K : SV → Mem → Prop) : (execF cxMg u9 Tryd.f6 64 [ag4 a0 a1 a2 a3] (memL []) K) = (B4 a0 a1 a2 a3 fun x0 x1 x2 x3 => 
 (((W4 x0 x1 x2 x3) ∧ ((V4 x0 x1 x2 x3) < qI)) ∧ ((((Wd (lm (mont (N4 x0 x1 x2 x3)) 0)) ∧ ((Wd (lm (mont (N4 x0 x1 x2 x3)) 1)) ∧ ((Wd (lm (mont (N4 x0 x1 x2 x3)) 2)) 
 ∧ (Wd (lm (mont (N4 x0 x1 x2 x3)) 3))))) ∧ ((V4 (lm (mont (N4 x0 x1 x2 x3)) 0) (lm (mont (N4 x0 x1 x2 x3)) 1) (lm (mont (N4 x0 x1 x2 x3)) 2) (lm (mont 
 (N4 x0 x1 x2 x3)) 3)) < qI)) ∧ (B4 (mpX (lm (mont (N4 x0 x1 x2 x3)) 0) (lm (mont (N4 x0 x1 x2 x3)) 1) (lm (mont (N4 x0 x1 x2 x3)) 2) (lm (mont (N4 x0 x1 x2 x3)) 3) 0) 
 (mpX (lm (mont (N4 x0 x1 x2 x3)) 0) (lm (mont (N4 x0 x1 x2 x3)) 1) (lm (mont (N4 x0 x1 x2 x3)) 2) (lm (mont (N4 x0 x1 x2 x3)) 3) 1) (mpX (lm (mont (N4 x0 x1 x2 x3)) 0) 
 (lm (mont (N4 x0 x1 x2 x3)) 1) (lm (mont (N4 x0 x1 x2 x3)) 2) (lm (mont (N4 x0 x1 x2 x3)) 3) 2) (mpX (lm (mont (N4 x0 x1 x2 x3)) 0) (lm (mont (N4 x0 x1 x2 x3)) 1) 
 (lm (mont (N4 x0 x1 x2 x3)) 2) (lm (mont (N4 x0 x1 x2 x3)) 3) 3) fun x4 x5 x6 x7 => B4 (mpY (lm (mont (N4 x0 x1 x2 x3)) 0) (lm (mont (N4 x0 x1 x2 x3)) 1) 
 (lm (mont (N4 x0 x1 x2 x3)) 2) (lm (mont (N4 x0 x1 x2 x3)) 3) 0) (mpY (lm (mont (N4 x0 x1 x2 x3)) 0) (lm (mont (N4 x0 x1 x2 x3)) 1) (lm (mont (N4 x0 x1 x2 x3)) 2) 
 (lm (mont (N4 x0 x1 x2 x3)) 3) 1) (mpY (lm (mont (N4 x0 x1 x2 x3)) 0) (lm (mont (N4 x0 x1 x2 x3)) 1) (lm (mont (N4 x0 x1 x2 x3)) 2) (lm (mont (N4 x0 x1 x2 x3)) 3) 2) 
 (mpY (lm (mont (N4 x0 x1 x2 x3)) 0) (lm (mont (N4 x0 x1 x2 x3)) 1) (lm (mont (N4 x0 x1 x2 x3)) 2) (lm (mont (N4 x0 x1 x2 x3)) 3) 3) fun x8 x9 x10 x11 => 
 (((W4 x4 x5 x6 x7) ∧ (W4 x8 x9 x10 x11)) ∧ (L4 (mmul (N4 x4 x5 x6 x7) 1) fun x12 x13 x14 x15 => L4 (mmul (N4 x8 x9 x10 x11) 1) fun x16 x17 x18 x19 => 
 (K (SV.tup [(SV.agg [(U x12), (U x13), (U x14), (U x15), (U x16), (U x17), (U x18), (U x19)]), (SV.bool (B.lit Bool.true))]) (memL [(513, (Reg.mk Bool.false 
 (Ct.cells [(U a0), (U a1), (U a2), (U a3)]))), (521, (Reg.mk Bool.false (Ct.cells [(U x12), (U x13), (U x14), (U x15), (U x16), (U x17), (U x18), (U x19)]))), 
 (577, (Reg.mk Bool.false (Ct.cells [(SV.int IntKind.u64 (A.sym (lm (mont (N4 x0 x1 x2 x3)) 0))), (SV.int IntKind.u64 (A.sym (lm (mont (N4 x0 x1 x2 x3)) 1))), 
 (SV.int IntKind.u64 (A.sym (lm (mont (N4 x0 x1 x2 x3)) 2))), (SV.int IntKind.u64 (A.sym (lm (mont (N4 x0 x1 x2 x3)) 3)))])))])))))))) := by kernel_rfl 
theorem mpX_eq {A : Nat} (h : A < qN) (i : Nat) : mpX (lm (mont A) 0) (lm (mont A) 1) (lm (mont A) 2) (lm (mont A) 3) i = lm (mont (mxN A)) i := by
  unfold mpX
  rw [Vx (ws_q (mont_lt A)), mont_back, Nat.mod_eq_of_lt h]
theorem mpY_eq {A : Nat} (h : A < qN) (i : Nat) : mpY (lm (mont A) 0) (lm (mont A) 1) (lm (mont A) 2) (lm (mont A) 3) i = lm (mont (myN A)) i := by
  unfold mpY
  rw [Vx (ws_q (mont_lt A)), mont_back, Nat.mod_eq_of_lt h]
theorem mg_walk {A : Nat} {a0 a1 a2 a3 : Int} {K : SV → Mem → Prop} (ha : Ws a0 a1 a2 a3 A) (la : A < qN) (hK : ∀ m, K (.tup [.agg [U (lm (mxN A) 0), U (lm (mxN A) 1), U (lm (mxN A) 2), U (lm (mxN A) 3), U (lm (myN A) 0), U (lm (myN A) 1), U (lm (myN A) 2), U (lm (myN A) 3)], .bool (.lit true)]) m) :
    execF cxMg u9 Tryd.f6 64 [ag4 a0 a1 a2 a3] (memL []) K := by
  rw [vc_mg, B4_eq]
  refine ⟨⟨ha.wd, by rw [ha.val, qI_eq]; omega⟩, ?_⟩
  rw [show N4 a0 a1 a2 a3 = A from Vx ha]
  refine ⟨⟨lm4_wd _, of_eq_true (Vlt (mont_lt A))⟩, ?_⟩
  rw [B4_eq, B4_eq, mpX_eq la, mpX_eq la, mpX_eq la, mpX_eq la, mpY_eq la, mpY_eq la, mpY_eq la, mpY_eq la]
  refine ⟨⟨lm4_wd _, lm4_wd _⟩, ?_⟩
  rw [N4l (mont_lt _), N4l (mont_lt _), mont_back, mont_back, Nat.mod_eq_of_lt (mxN_lt A), Nat.mod_eq_of_lt (myN_lt A), L4_eq, L4_eq]
  exact hK _
def rMg : R0 := fun args l =>
  match args, l with
  | [.agg [.int .u64 (.sym a0), .int .u64 (.sym a1), .int .u64 (.sym a2), .int .u64 (.sym a3)]], [] => some (some ((Wd a0 ∧ Wd a1 ∧ Wd a2 ∧ Wd a3) ∧ V4 a0 a1 a2 a3 < 21888242871839275222246405745257275088696311157297823662689037894645226208583), .tup [.agg [U (lm (mxN (V4 a0 a1 a2 a3).toNat) 0), U (lm (mxN (V4 a0 a1 a2 a3).toNat) 1), U (lm (mxN (V4 a0 a1 a2 a3).toNat) 2), U (lm (mxN (V4 a0 a1 a2 a3).toNat) 3), U (lm (myN (V4 a0 a1 a2 a3).toNat) 0), U (lm (myN (V4 a0 a1 a2 a3).toNat) 1), U (lm (myN (V4 a0 a1 a2 a3).toNat) 2), U (lm (myN (V4 a0 a1 a2 a3).toNat) 3)], .bool (.lit true)])
  | _, _ => none
theorem Mg_ok (args : List SV) (l : List (Nat × Reg)) (p : Ob) (v : SV) (h : rMg args l = some (p, v)) (hp : p.ok) : ∃ U, execF cxMg U Tryd.f6 64 args (memL l) fun v' _ => v' = v := by
  unfold rMg at h
  split at h
  · rename_i a0 a1 a2 a3
    simp only [Option.some.injEq, Prod.mk.injEq] at h
    obtain ⟨rfl, rfl⟩ := h
    have hp : (Wd a0 ∧ Wd a1 ∧ Wd a2 ∧ Wd a3) ∧ V4 a0 a1 a2 a3 < 21888242871839275222246405745257275088696311157297823662689037894645226208583 := hp
    have A := ws_of hp.1.1 hp.1.2.1 hp.1.2.2.1 hp.1.2.2.2
    have ea := Ws.val A
    have la := hp.2
    exact ⟨_, mg_walk A (by unfold qN; omega) fun _ => rfl⟩
  · cases h
def cMg : Rd Tryd.prog := mkR mixed 6 Tryd.func6 (by decide) (by kernel_rfl) [] [.num] rMg Mg_ok
end Go.Sx

/- The law of MapG1 walks to true. -/
namespace Go.Sx
open Go Go.Proofs Go.Num
set_option maxRecDepth 100000
def cxLw : Cx Tryd.prog := { rds := [cPP, cLs, cMg, cO1, cMapa], efs := [], eqs := [eq27] }
theorem vc_lw (a0 a1 a2 a3 : Int) (K : SV → Mem → Prop) : (execF cxLw u9 Tryd.f3 64 [ag4 a0 a1 a2 a3] (memL []) K) = (B4 a0 a1 a2 a3 fun x0 x1 x2 x3 => 
 (((W4 x0 x1 x2 x3) ∧ (W4 4332616871279656263 10917124144477883021 13281191951274694749 3486998266802970665)) ∧ ((((Bool.not (decide ((V4 x0 x1 x2 x3) < qI))) = Bool.true) 
 → (K (SV.bool (B.lit Bool.true)) (memL [(513, (Reg.mk Bool.false (Ct.cells [(U a0), (U a1), (U a2), (U a3)])))]))) ∧ (((Bool.not (decide ((V4 x0 x1 x2 x3) < qI))) = Bool.false) 
 → (B4 a0 a1 a2 a3 fun x4 x5 x6 x7 => (((W4 x4 x5 x6 x7) ∧ ((V4 x4 x5 x6 x7) < qI)) ∧ (L4 (mxN (N4 x4 x5 x6 x7)) fun x8 x9 x10 x11 => L4 (myN (N4 x4 x5 x6 x7)) fun x12 x13 x14 x15 => 
 ((((W4 x8 x9 x10 x11) ∧ (W4 x12 x13 x14 x15)) ∧ ((((N4 x12 x13 x14 x15) * (N4 x12 x13 x14 x15)) % qN) = (gN (N4 x8 x9 x10 x11)))) ∧ (L4 (mxN (N4 x4 x5 x6 x7)) fun x16 x17 x18 x19 => L4 
 (myN (N4 x4 x5 x6 x7)) fun x20 x21 x22 x23 => B4 a0 a1 a2 a3 fun x24 x25 x26 x27 => (((W4 x24 x25 x26 x27) ∧ ((V4 x24 x25 x26 x27) < qI)) ∧ (L4 (mxN (N4 x24 x25 x26 x27)) fun x28 x29 x30 x31 => L4 
 (myN (N4 x24 x25 x26 x27)) fun x32 x33 x34 x35 => (K (SV.bool (B.sym (decide ([x16, x17, x18, x19, x20, x21, x22, x23] = [x28, x29, x30, x31, x32, x33, x34, x35])))) 
 (memL [(513, (Reg.mk Bool.false (Ct.cells [(U a0), (U a1), (U a2), (U a3)]))), (601, (Reg.mk Bool.false (Ct.cells [(SV.int IntKind.u64 (A.sym (lm (mxN 
 (N4 x4 x5 x6 x7)) 0))), (SV.int IntKind.u64 (A.sym (lm (mxN (N4 x4 x5 x6 x7)) 1))), (SV.int IntKind.u64 (A.sym (lm (mxN (N4 x4 x5 x6 x7)) 2))), (SV.int IntKind.u64 
 (A.sym (lm (mxN (N4 x4 x5 x6 x7)) 3))), (SV.int IntKind.u64 (A.sym (lm (myN (N4 x4 x5 x6 x7)) 0))), (SV.int IntKind.u64 (A.sym (lm (myN (N4 x4 x5 x6 x7)) 1))), 
 (SV.int IntKind.u64 (A.sym (lm (myN (N4 x4 x5 x6 x7)) 2))), (SV.int IntKind.u64 (A.sym (lm (myN (N4 x4 x5 x6 x7)) 3)))])))]))))))))))))) := by kernel_rfl 
theorem my_sq (A : Nat) : myN A * myN A % qN = gN (mxN A) := by
  have h := sq_mx A
  unfold sqN at h
  have h := of_decide_eq_true h
  unfold myN
  split
  · exact h
  · rw [← h, ← fz_eq, fz_mul, fz_mod, fz_sub (Nat.le_of_lt (rtN_lt _)), fz_mul, show fz 0 = 0 from rfl]
    grobner
theorem lw_walk {a0 a1 a2 a3 : Int} {K : SV → Mem → Prop} (hw : Wd a0 ∧ Wd a1 ∧ Wd a2 ∧ Wd a3) (hK : ∀ m b, b.val = true → K (.bool b) m) :
    execF cxLw u9 Tryd.f3 64 [ag4 a0 a1 a2 a3] (memL []) K := by
  have ha := ws_of hw.1 hw.2.1 hw.2.2.1 hw.2.2.2
  generalize (V4 a0 a1 a2 a3).toNat = A at ha
  rw [vc_lw, B4_eq]
  refine ⟨⟨hw, q_ws.wd⟩, fun _ => hK _ _ rfl, fun hl => ?_⟩
  have la : V4 a0 a1 a2 a3 < qI := by simpa using hl
  have lA : A < qN := by
    rw [ha.val, qI_eq] at la
    omega
  rw [B4_eq]
  refine ⟨⟨hw, la⟩, ?_⟩
  rw [show N4 a0 a1 a2 a3 = A from Vx ha, L4_eq, L4_eq]
  refine ⟨⟨⟨lm4_wd _, lm4_wd _⟩, ?_⟩, ?_⟩
  · rw [N4l (mxN_lt A), N4l (myN_lt A)]
    exact my_sq A
  rw [L4_eq, L4_eq, B4_eq]
  refine ⟨⟨hw, la⟩, ?_⟩
  rw [show N4 a0 a1 a2 a3 = A from Vx ha, L4_eq, L4_eq]
  rw [decide_eq_true (rfl : [lm (mxN A) 0, lm (mxN A) 1, lm (mxN A) 2, lm (mxN A) 3, lm (myN A) 0, lm (myN A) 1, lm (myN A) 2, lm (myN A) 3] = _)]
  exact hK _ _ rfl
end Go.Sx

/- From the world of a call to the walk of the law of MapG1. -/
namespace Go.Sx
open Go Go.Proofs Go.RowKit
set_option maxRecDepth 100000

theorem Fr.same (T : Nat → Nat → Prop) (w : World) : Fr T w w := ⟨rfl, rfl, rfl, Nat.le_refl _, fun _ _ => ObjFr.refl _ _⟩
theorem Fr.below {w w' : World} (h : Fr noT w w') : Below w.heap.size w w' := by
  refine ⟨h.os, h.tape, h.output, h.size, fun k hk => ?_⟩
  have := h.blk k hk
  unfold ObjFr at this
  split at this
  · rename_i c t f he
    obtain ⟨c', h1, h2, h3⟩ := this
    rw [h1, he]
    have : c' = c := Array.ext_getElem? fun i => h3 i (by unfold noT; simp)
    rw [this]
  · exact this

def env0 : Env := fun r => if r % 2 = 0 then some (r / 2, 0) else none
theorem env0_gid (g : Nat) : env0 (gid g) = some (g, 0) := by
  unfold env0 gid
  rw [if_pos (by omega)]
  simp
theorem env0_fresh : ∀ n, 64 ≤ n → Fresh env0 n := fun n hn j hj => by
  unfold env0 rid
  rw [if_neg (by omega)]

/-- A memory of read-only regions holds where each of them lies in the world. -/
theorem holds_ro {β : Env} {W : World} {l : List (Nat × Reg)} (h : ∀ x ∈ l, x.2.ro = true ∧ RegOk β W.heap.size noT W x.1 x.2) : Holds β noT (memL l) W W := by
  have hm : ∀ r g, (memL l).get r = some g → (r, g) ∈ l := fun r g hg => by
    rcases get_fold_set l _ hg with hg | hg
    · exact hg
    · rw [Tr.get_leaf] at hg; cases hg
  refine ⟨Fr.same _ _, fun r g hg => (h _ (hm r g hg)).2, fun r s g k _ hg hk hro => ?_⟩
  rcases hro with hro | hro
  · have := (h _ (hm r g hg)).1
    simp only at this
    rw [hro] at this; cases this
  · have := (h _ (hm s k hk)).1
    simp only at this
    rw [hro] at this; cases this
theorem regOk_ints {β : Env} {B : Nat} {W : World} {r b o : Nat} {k : IntKind} {xs : List Int} {arr : Array Value} {t : TypeId} {fz : Nat × Nat} (hβ : β r = some (b, o)) (hb : W.heap[b]? = some (.cells arr t fz))
    (hc : ∀ i u, (xs.map (Value.int k))[i]? = some u → arr[o + i]? = some u) : RegOk β B noT W r ⟨true, .ints k xs⟩ :=
  ⟨⟨b, o, arr, t, fz, _, hβ, hb, rfl, hc, fun h => by cases h⟩⟩

def isTrue : SV → Mem → Prop := fun sv _ => ∃ b : B, sv = .bool b ∧ b.val = true
theorem isTrue_lit (m : Mem) : isTrue (.bool (.lit true)) m := ⟨_, rfl, rfl⟩
theorem isTrue_sym (b : Bool) (m : Mem) (h : b = true) : isTrue (.bool (.sym b)) m := ⟨_, rfl, h⟩

theorem done_true {β : Env} {W : World} {e : Ending} {w' : World} (h : Done β noT W isTrue e w') : e = .returned (.bool true) ∧ Below W.heap.size W w' := by
  obtain ⟨β', v, sv, m', _, rfl, hd, hH, b, rfl, hb⟩ := h
  refine ⟨?_, hH.fr.below⟩
  simp only [Den] at hd
  rw [hd, hb]
theorem run_law {W : World} {n0 n1 n2 n3 : Int} (hw : Wd n0 ∧ Wd n1 ∧ Wd n2 ∧ Wd n3) :
    Calls Tryd.prog 3 #[.agg #[.int .u64 n0, .int .u64 n1, .int .u64 n2, .int .u64 n3]] W fun e W' => e = .returned (.bool true) ∧ Below W.heap.size W W' := by
  have di : ∀ n : Int, Den env0 (.int .u64 (.sym n)) (.int .u64 n) := fun n => by simp [Den, A.val]
  have da : DenL env0 [ag4 n0 n1 n2 n3] [.agg #[.int .u64 n0, .int .u64 n1, .int .u64 n2, .int .u64 n3]] := by
    refine ⟨_, [], ?_, rfl, rfl⟩
    unfold ag4
    simp only [Den]
    exact ⟨_, ⟨_, _, di n0, ⟨_, _, di n1, ⟨_, _, di n2, ⟨_, _, di n3, rfl, rfl⟩, rfl⟩, rfl⟩, rfl⟩, rfl⟩
  have hH : Holds env0 noT (memL []) W W := holds_ro (by intro x hx; cases hx)
  exact (execF_sound mixed Tryd.func3 hH da env0_gid env0_fresh (lw_walk hw (K := isTrue) fun m b hb => ⟨b, rfl, hb⟩)).mono fun e w' h => done_true h
end Go.Sx

/- The row of the law of MapG1. -/
namespace Go.Proofs.YtepbpfkpmlmbbaaDoor
open Go Go.Sx Go.ChangeShapes Go.WideShapes Go.RowKit
set_option maxRecDepth 100000
set_option maxHeartbeats 4000000

theorem own : ownKnob Tryd.prog.godebug = none := by kernel_rfl
theorem laidOut : laidOutB Tryd.prog = true := by kernel_rfl
theorem cells22 : Tryd.prog.cellsOf 22 = 1 := by kernel_rfl
theorem cells23 : Tryd.prog.cellsOf 23 = 4 := by kernel_rfl
theorem gE : Tryd.prog.globalNamed "loop.example/pub-g03347/pub/gnarkcrypto/ecc/bn254/fp.errInvalidEncoding" = some 0 := by kernel_rfl
theorem tE : (Tryd.prog.globals[0]?).map (·.type) = some 49 := by kernel_rfl
def laidK : List (String × DataW Unit) := [("loop.example/pub-g03347/pub/gnarkcrypto/ecc/bn254/fp.errInvalidEncoding", Rows.laid_loop_example_pub_g03347_pub_gnarkcrypto_ecc_bn254_fp_errInvalidEncoding)]

/-- Four words, as an argument. -/
theorem open4 {H : Type} {enc : TypeId × Value → H} {W : World} {base : Nat} {v : Value} {d : DataW H} {ps : List MemPlace} (hval : Value.okWide Tryd.prog W .any base 23 v)
    (h : DataW.Trod enc Tryd.prog W 0 (fun _ => true) true 23 v d ps) : ∃ n0 n1 n2 n3 : Int, v = .agg #[.int .u64 n0, .int .u64 n1, .int .u64 n2, .int .u64 n3] ∧ (Wd n0 ∧ Wd n1 ∧ Wd n2 ∧ Wd n3) := by
  simp only [Value.okWide, Tryd.underlying23] at hval
  obtain ⟨cs, rfl, hs, _⟩ := hval
  rw [cells23] at hs
  obtain ⟨fuel, hf⟩ := h
  obtain ⟨l⟩ := cs
  have hl : l.length = 4 := by simpa using hs
  match l, hl with
  | [c0, c1, c2, c3], _ =>
    simp only [Value.cells] at hf
    obtain ⟨y0, y1, y2, y3, n, _, t0, t1, t2, t3⟩ := trod_array4 Tryd.underlying23 cells22 hf
    obtain ⟨n0, e0, _, w0⟩ := DataW.trod_int Tryd.underlying22 t0
    obtain ⟨n1, e1, _, w1⟩ := DataW.trod_int Tryd.underlying22 t1
    obtain ⟨n2, e2, _, w2⟩ := DataW.trod_int Tryd.underlying22 t2
    obtain ⟨n3, e3, _, w3⟩ := DataW.trod_int Tryd.underlying22 t3
    simp only [List.cons.injEq, and_true] at e0 e1 e2 e3
    subst e0 e1 e2 e3
    have b0 := bounds_u64 w0
    have b1 := bounds_u64 w1
    have b2 := bounds_u64 w2
    have b3 := bounds_u64 w3
    exact ⟨n0, n1, n2, n3, rfl, ⟨by omega, by omega⟩, ⟨by omega, by omega⟩, ⟨by omega, by omega⟩, ⟨by omega, by omega⟩⟩

theorem door_met (os : Os) (args : Array Value) : laidMetH Tryd.prog laidK ((World.doorLaid Tryd.prog 2000 os).forCall (fun _ _ => 0) ⟨#[], args, []⟩).memory :=
  laidMetH_of_parts3 (fuel := 8) (laidMet_of_run' 8 (by kernel_rfl) (by kernel_rfl)) (by kernel_rfl) (by kernel_rfl)

/-- A named variable reads behind the call as it did. -/
theorem var_step {H : Type} {enc : TypeId × Value → H} {W W' : World} {n : String} {g : Nat} {t : TypeId} {ns : List String} {d : DataW H} {ds : List (DataW H)} {q : List MemPlace} (hg : Tryd.prog.globalNamed n = some g) (ht : (Tryd.prog.globals[g]?).map (·.type) = some t)
    (hr : Tryd.prog.readableRec t = true) (hs : t < Tryd.prog.types.size) (hb : Below W.heap.size W W') (hlt : ∀ x ∈ q, x.block < W.heap.size)
    (hn : ∀ q', (∀ x ∈ q', x.block < W.heap.size) → DataW.TrodVars enc Tryd.prog W (fun _ => true) ns ds q' → DataW.TrodVars enc Tryd.prog W' (fun b => decide (b < W.heap.size)) ns ds q')
    (h : DataW.TrodVars enc Tryd.prog W (fun _ => true) (n :: ns) (d :: ds) q) : DataW.TrodVars enc Tryd.prog W' (fun b => decide (b < W.heap.size)) (n :: ns) (d :: ds) q := by
  obtain ⟨g', t', cs, fuel, p, r, h1, h2, h3, h4, hs', e⟩ := h
  obtain rfl := Option.some.inj (hg.symm.trans h1)
  obtain rfl := Option.some.inj (ht.symm.trans h2)
  have hp : ∀ x ∈ p, x.block < W.heap.size := fun x hx => hlt x (by rw [e]; simp [hx])
  have hq : ∀ x ∈ r, x.block < W.heap.size := fun x hx => hlt x (by rw [e]; simp [hx])
  obtain ⟨fuel', h4'⟩ := Below.trod (v := .agg cs) laidOut hr hs ⟨fuel, h4⟩ hb hp
  have h3' : W'.var? Tryd.prog n = some cs := by
    unfold World.var? at h3 ⊢
    rw [hg] at h3 ⊢
    simp only [Option.bind_some] at h3 ⊢
    have h0 : g < W.heap.size := by
      cases hh : W.heap[g]? with
      | none => rw [hh] at h3; cases h3
      | some o => exact (Array.getElem?_eq_some_iff.1 hh).1
    rw [hb.block g h0]
    exact h3
  exact ⟨g, t, cs, fuel', p, r, hg, ht, h3', h4', hn r hq hs', e⟩
theorem vars_stay {H : Type} {enc : TypeId × Value → H} {W W' : World} {e : DataW H} {q : List MemPlace} (hb : Below W.heap.size W W') (hlt : ∀ x ∈ q, x.block < W.heap.size)
    (h : DataW.TrodVars enc Tryd.prog W (fun _ => true) ["loop.example/pub-g03347/pub/gnarkcrypto/ecc/bn254/fp.errInvalidEncoding"] [e] q) : DataW.TrodVars enc Tryd.prog W' (fun b => decide (b < W.heap.size)) ["loop.example/pub-g03347/pub/gnarkcrypto/ecc/bn254/fp.errInvalidEncoding"] [e] q :=
  var_step gE tE (by kernel_rfl) (of_decide_eq_true (by kernel_rfl)) hb hlt (fun _ _ h'' => h'') h

theorem post_law {H : Type} {enc : TypeId × Value → H} {fn : Func} {s : ChangeSpec} {W W' : World} {args : Array Value} {ds gs : List (DataW H)} {before : List MemPlace}
    (hp : fn.params = #[23]) (hr : fn.resultTypes = #[4]) (hv : s.vars = ["loop.example/pub-g03347/pub/gnarkcrypto/ecc/bn254/fp.errInvalidEncoding"])
    (hs : ∀ d1 g1 : DataW H, s.fn H [d1, g1] = { results := [.lit (.bool true)], args := [d1], vars := [g1] })
    (hW : DataW.Whole enc Tryd.prog fn.params.toList s.vars false W args.toList ds gs before) (hb : Below W.heap.size W W') :
    s.post enc Tryd.prog fn false true false false W args (.bool true) W' := by
  have hlt := hW.lt
  have hW' := hW
  obtain ⟨p, q, hA, hV, rfl, hfz, hnd⟩ := hW
  have hA' : DataW.TrodAll enc Tryd.prog W 0 (fun _ => true) true fn.params.toList args.toList ds p := hA
  have hV' : DataW.TrodVars enc Tryd.prog W (fun _ => true) s.vars gs q := hV
  rw [hp] at hA'
  obtain ⟨v0, d0, rfl, rfl, h0⟩ := trodAll_one hA'
  obtain ⟨g, rfl⟩ : ∃ g, gs = [g] := by
    rw [hv] at hV'
    obtain ⟨_, _, _, _, d, _, rfl, _⟩ := trodVars_one hV'
    exact ⟨d, rfl⟩
  have e : s.fn H ([d0] ++ [g]) = { results := [.lit (.bool true)], args := [d0], vars := [g] } := hs _ _
  have l0 : ∀ x ∈ p, x.block < W.heap.size := fun x hx => by simpa using hlt x (by simp [hx])
  refine ⟨_, _, _, [], p, q, hW', ?_, ?_, ?_, Below.frame hb _, fun h => by cases h⟩
  · rw [e, hr]
    exact trodAll_mk1 (shut_bool Tryd.underlying4 true)
  · rw [e, hp]
    exact trodAll_mk1 (Below.trod laidOut (by kernel_rfl) (of_decide_eq_true (by kernel_rfl)) h0 hb l0)
  · rw [e]
    rw [hv] at hV' ⊢
    exact vars_stay hb (fun x hx => by simpa using hlt x (by simp [hx])) hV'

theorem lifted3 (os : Os) (started : os.Started) (H : Type) (enc : TypeId × Value → H) :
    ReturnsInHanded {} Tryd.checked os 3 .any (fun w args => (Rows.fnMapG1Spec.pre enc Tryd.prog Tryd.f3 [] false w args ∧ laidMetH Tryd.prog laidK w) ∧ sizedMet enc Tryd.prog Tryd.f3 (OpenSpec.ofChange Rows.fnMapG1Spec) false w args)
      (Rows.fnMapG1Spec.post enc Tryd.prog Tryd.f3 false true false false) := by
  refine returnsInHanded_of_change_and (C := Tryd.checked) (X := fun w _ => laidMetH Tryd.prog laidK w) (fun _ _ _ hh h => h.of_heap hh) own started (by kernel_rfl) Tryd.func3
    (ChangeSpec.witness_shaped (enc := enc) (C := Tryd.checked) (os := os) (X := fun w _ => laidMetH Tryd.prog laidK w) false (World.doorLaid Tryd.prog 2000 os) #[.agg #[.int .u64 0, .int .u64 0, .int .u64 0, .int .u64 0]] 8 rfl (World.shaped_of_RefB (by kernel_rfl) (by kernel_rfl)) (by kernel_rfl) (by kernel_rfl) (by kernel_rfl) (door_met os _)) ?_
  intro W base args ds gs before hval hW _ _ _ _
  have hW' := hW
  obtain ⟨p, q, hA0, _, _, _, _⟩ := hW
  have hA : DataW.TrodAll enc Tryd.prog W 0 (fun _ => true) true Tryd.f3.params.toList args.toList ds p := hA0
  rw [Tryd.params3] at hA hval
  obtain ⟨v0, d0, rfl, rfl, h0⟩ := trodAll_one hA
  obtain ⟨n0, n1, n2, n3, rfl, hw⟩ := open4 (hval 0 23 v0 rfl rfl) h0
  refine (run_law hw).mono fun e W' ⟨he, hb⟩ => ?_
  exact ⟨_, he, post_law Tryd.params3 rfl rfl (fun _ _ => rfl) hW' hb⟩
theorem fnMapG1_holds : Rows.FnMapG1Said :=
  OpenClaim.holds_of_wide 3 Tryd.f3 rfl rfl rfl rfl rfl rfl rfl ⟨rfl, rfl, rfl, rfl, rfl⟩ rfl rfl rfl rfl rfl (by kernel_rfl) Tryd.func3 (by kernel_rfl)
    (of_decide_eq_true (by kernel_rfl)) (by unfold Func.isWrapper; first | (rw [if_pos (by decide +kernel)]; kernel_rfl) | (rw [if_neg (by decide +kernel)]; exact ⟨rfl, rfl⟩))
    (fun os started H enc _ => lifted3 os started H enc)
theorem fnMapG1_card_holds : Rows.FnMapG1CardSaid :=
  Claim7.holds_tied_plain_at .later [] [.sentinel] true (true, "434492a8d7a7ea63f932020cb238f595f89956eeaa765abac3c34e34fcdcd441") false
    fnMapG1_holds (fun _ h => by cases h) (by kernel_rfl) (fun _ h => by cases h) fnMapG1_row_tie rfl ⟨rfl, rfl⟩ (by kernel_rfl) rfl
    (fun f fn hf hfn => by
      obtain rfl : f = 3 := Option.some.inj ((show Tryd.prog.funcNamed "loop.example/pub-g03347/laws.FnMapG1" = some 3 by kernel_rfl).symm.trans hf) |>.symm
      obtain rfl : fn = Tryd.f3 := (Option.some.inj (Tryd.func3.symm.trans hfn)).symm
      exact ⟨by kernel_rfl, fun j t ht => by
        rw [Tryd.params3] at ht
        have hm : t ∈ [23] := by simpa using Array.mem_of_getElem? ht
        have hall : ([23].all fun u => !Tryd.prog.wantsStandIn u) = true := by kernel_rfl
        exact (show Tryd.prog.wantsStandIn t = false by simpa using List.all_eq_true.1 hall t hm)⟩)
    (by kernel_rfl)
#print axioms fnMapG1_card_holds

end Go.Proofs.YtepbpfkpmlmbbaaDoor
