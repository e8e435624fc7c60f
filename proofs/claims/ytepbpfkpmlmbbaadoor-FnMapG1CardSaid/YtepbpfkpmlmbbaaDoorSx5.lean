/- Part 5 of the proof: for every number the law FnMapG1 returns true (a verified symbolic evaluator, contracts of each function reached, the law, its row and card). Conditions: those of the given statement, none besides. -/
import Derived.Test.YtepbpfkpmlmbbaaDoorSx4
/- Numbers of E2 without second part: product, sum, difference, inverse. -/
namespace Go.Sx
open Go Go.Proofs Go.Num
set_option maxRecDepth 100000
/-- A number of E2 without second part. -/
def agF (a b c d : Int) : SV := .agg [.int .u64 (.sym a), .int .u64 (.sym b), .int .u64 (.sym c), .int .u64 (.sym d), .int .u64 (.sym 0), .int .u64 (.sym 0), .int .u64 (.sym 0), .int .u64 (.sym 0)]
theorem V0 : V4 0 0 0 0 = ((0 : Nat) : Int) := rfl
theorem Viv (a : Nat) : V4 (lm (inv0 a) 0) (lm (inv0 a) 1) (lm (inv0 a) 2) (lm (inv0 a) 3) = ((inv0 a : Nat) : Int) := lm_val (Nat.lt_trans (inv0_lt a) (by decide))
theorem Vrt (a : Nat) : V4 (lm (rtN a) 0) (lm (rtN a) 1) (lm (rtN a) 2) (lm (rtN a) 3) = ((rtN a : Nat) : Int) := lm_val (Nat.lt_trans (rtN_lt a) (by decide))
theorem adN (x y : Nat) : (((x : Int) + (y : Int)) % 21888242871839275222246405745257275088696311157297823662689037894645226208583).toNat = (x + y) % qN := by
  unfold qN
  omega
theorem lq {x : Nat} (h : x < qN) : (x : Int) < 21888242871839275222246405745257275088696311157297823662689037894645226208583 := by
  unfold qN at h
  omega
theorem mlt (x : Nat) : ((x % qN : Nat) : Int) < 21888242871839275222246405745257275088696311157297823662689037894645226208583 := lq (Nat.mod_lt _ (by decide))
theorem ilt (x : Nat) : ((inv0 x : Nat) : Int) < 21888242871839275222246405745257275088696311157297823662689037894645226208583 := lq (inv0_lt x)
theorem rlt (x : Nat) : ((rtN x : Nat) : Int) < 21888242871839275222246405745257275088696311157297823662689037894645226208583 := lq (rtN_lt x)
theorem zlt : ((0 : Nat) : Int) < 21888242871839275222246405745257275088696311157297823662689037894645226208583 := by decide
theorem lm0 (i : Nat) : lm 0 i = 0 := by unfold lm; simp
theorem mul_z (x : Nat) : (x * 0) % qN = 0 := by rw [Nat.mul_zero, Nat.zero_mod]
theorem z_mul (x : Nat) : (0 * x) % qN = 0 := by rw [Nat.zero_mul, Nat.zero_mod]
theorem sub_z (x : Nat) : (x + (qN - 0)) % qN = x % qN := by rw [Nat.sub_zero, Nat.add_mod_right]
theorem z_sub : (0 + (qN - 0)) % qN = 0 := by decide
theorem z_add : (0 + 0) % qN = 0 := rfl
theorem inv_e {a : Nat} (h : a < qN) : a * inv0 (a * a % qN) % qN = inv0 a := by
  by_cases h0 : a = 0
  · rw [h0, z_mul, inv0_zero]
  · have hm : a % qN ≠ 0 := by rw [Nat.mod_eq_of_lt h]; exact h0
    refine inv0_unique (Nat.mod_lt _ (by decide)) ?_
    rw [Nat.mod_mul_mod, show a * inv0 (a * a % qN) * a = inv0 (a * a % qN) * (a * a) by rw [Nat.mul_comm a, Nat.mul_assoc], Nat.mul_mod, ← Nat.mod_mod (a * a), ← Nat.mul_mod, Nat.mod_mod,
      inv0_mul (by rw [Nat.mod_mod]; exact mul_ne hm hm)]
def cxE : Cx Tryd.prog := { rds := [cPP, cMl, cSb, cAd, cIm], efs := [], eqs := [] }
theorem vc_mule (a0 a1 a2 a3 b0 b1 b2 b3 : Int) (K : SV → Mem → Prop) : (execF cxE u9 Tryd.f35 64 [agF a0 a1 a2 a3, agF b0 b1 b2 b3] (memL []) K) =
  ((∀ (x0 : Int), ((x0 = a0) → (∀ (x1 : Int), ((x1 = a1) → (∀ (x2 : Int), ((x2 = a2) → (∀ (x3 : Int), ((x3 = a3) → (∀ (x4 : Int), ((x4 = b0) → (∀ (x5 : Int), ((x5 = b1) → (∀ (x6 : Int), ((x6 = b2) → (∀ (x7 : Int), ((x7 = b3) → ((((Wd x0) ∧
 ((Wd x1) ∧
 ((Wd x2) ∧
 (Wd x3)))) ∧
 ((Wd x4) ∧
 ((Wd x5) ∧
 ((Wd x6) ∧
 (Wd x7))))) ∧
 (∀ (x8 : Int), ((x8 = (lm (((Int.toNat (V4 x0 x1 x2 x3)) * (Int.toNat (V4 x4 x5 x6 x7))) % (21888242871839275222246405745257275088696311157297823662689037894645226208583 : Nat)) (0 : Nat))) → (∀ (x9 : Int), ((x9 = (lm (((Int.toNat (V4 x0 x1 x2 x3)) * (Int.toNat (V4 x4 x5 x6 x7))) % (21888242871839275222246405745257275088696311157297823662689037894645226208583 : Nat)) (1 : Nat))) → (∀ (x10 : Int), ((x10 = (lm (((Int.toNat (V4 x0 x1 x2 x3)) * (Int.toNat (V4 x4 x5 x6 x7))) % (21888242871839275222246405745257275088696311157297823662689037894645226208583 : Nat)) (2 : Nat))) → (∀ (x11 : Int), ((x11 = (lm (((Int.toNat (V4 x0 x1 x2 x3)) * (Int.toNat (V4 x4 x5 x6 x7))) % (21888242871839275222246405745257275088696311157297823662689037894645226208583 : Nat)) (3 : Nat))) → (∀ (x12 : Int), ((x12 = (0 : Int)) → (∀ (x13 : Int), ((x13 = (0 : Int)) → (∀ (x14 : Int), ((x14 = (0 : Int)) → (∀ (x15 : Int), ((x15 = (0 : Int)) → (∀ (x16 : Int), ((x16 = (0 : Int)) → (∀ (x17 : Int), ((x17 = (0 : Int)) → (∀ (x18 : Int), ((x18 = (0 : Int)) → (∀ (x19 : Int), ((x19 = (0 : Int)) → ((((Wd x12) ∧
 ((Wd x13) ∧
 ((Wd x14) ∧
 (Wd x15)))) ∧
 ((Wd x16) ∧
 ((Wd x17) ∧
 ((Wd x18) ∧
 (Wd x19))))) ∧
 (∀ (x20 : Int), ((x20 = (lm (((Int.toNat (V4 x12 x13 x14 x15)) * (Int.toNat (V4 x16 x17 x18 x19))) % (21888242871839275222246405745257275088696311157297823662689037894645226208583 : Nat)) (0 : Nat))) → (∀ (x21 : Int), ((x21 = (lm (((Int.toNat (V4 x12 x13 x14 x15)) * (Int.toNat (V4 x16 x17 x18 x19))) % (21888242871839275222246405745257275088696311157297823662689037894645226208583 : Nat)) (1 : Nat))) → (∀ (x22 : Int), ((x22 = (lm (((Int.toNat (V4 x12 x13 x14 x15)) * (Int.toNat (V4 x16 x17 x18 x19))) % (21888242871839275222246405745257275088696311157297823662689037894645226208583 : Nat)) (2 : Nat))) → (∀ (x23 : Int), ((x23 = (lm (((Int.toNat (V4 x12 x13 x14 x15)) * (Int.toNat (V4 x16 x17 x18 x19))) % (21888242871839275222246405745257275088696311157297823662689037894645226208583 : Nat)) (3 : Nat))) → (((((Wd x8) ∧
 ((Wd x9) ∧
 ((Wd x10) ∧
 (Wd x11)))) ∧
 ((Wd x20) ∧
 ((Wd x21) ∧
 ((Wd x22) ∧
 (Wd x23))))) ∧
 (((V4 x8 x9 x10 x11) < (21888242871839275222246405745257275088696311157297823662689037894645226208583 : Int)) ∧
 ((V4 x20 x21 x22 x23) < (21888242871839275222246405745257275088696311157297823662689037894645226208583 : Int)))) ∧
 (∀ (x24 : Int), ((x24 = (lm (((Int.toNat (V4 x8 x9 x10 x11)) + ((21888242871839275222246405745257275088696311157297823662689037894645226208583 : Nat) - (Int.toNat (V4 x20 x21 x22 x23)))) % (21888242871839275222246405745257275088696311157297823662689037894645226208583 : Nat)) (0 : Nat))) → (∀ (x25 : Int), ((x25 = (lm (((Int.toNat (V4 x8 x9 x10 x11)) + ((21888242871839275222246405745257275088696311157297823662689037894645226208583 : Nat) - (Int.toNat (V4 x20 x21 x22 x23)))) % (21888242871839275222246405745257275088696311157297823662689037894645226208583 : Nat)) (1 : Nat))) → (∀ (x26 : Int), ((x26 = (lm (((Int.toNat (V4 x8 x9 x10 x11)) + ((21888242871839275222246405745257275088696311157297823662689037894645226208583 : Nat) - (Int.toNat (V4 x20 x21 x22 x23)))) % (21888242871839275222246405745257275088696311157297823662689037894645226208583 : Nat)) (2 : Nat))) → (∀ (x27 : Int), ((x27 = (lm (((Int.toNat (V4 x8 x9 x10 x11)) + ((21888242871839275222246405745257275088696311157297823662689037894645226208583 : Nat) - (Int.toNat (V4 x20 x21 x22 x23)))) % (21888242871839275222246405745257275088696311157297823662689037894645226208583 : Nat)) (3 : Nat))) → (∀ (x28 : Int), ((x28 = a0) → (∀ (x29 : Int), ((x29 = a1) → (∀ (x30 : Int), ((x30 = a2) → (∀ (x31 : Int), ((x31 = a3) → (∀ (x32 : Int), ((x32 = (0 : Int)) → (∀ (x33 : Int), ((x33 = (0 : Int)) → (∀ (x34 : Int), ((x34 = (0 : Int)) → (∀ (x35 : Int), ((x35 = (0 : Int)) → ((((Wd x28) ∧
 ((Wd x29) ∧
 ((Wd x30) ∧
 (Wd x31)))) ∧
 ((Wd x32) ∧
 ((Wd x33) ∧
 ((Wd x34) ∧
 (Wd x35))))) ∧
 (∀ (x36 : Int), ((x36 = (lm (((Int.toNat (V4 x28 x29 x30 x31)) * (Int.toNat (V4 x32 x33 x34 x35))) % (21888242871839275222246405745257275088696311157297823662689037894645226208583 : Nat)) (0 : Nat))) → (∀ (x37 : Int), ((x37 = (lm (((Int.toNat (V4 x28 x29 x30 x31)) * (Int.toNat (V4 x32 x33 x34 x35))) % (21888242871839275222246405745257275088696311157297823662689037894645226208583 : Nat)) (1 : Nat))) → (∀ (x38 : Int), ((x38 = (lm (((Int.toNat (V4 x28 x29 x30 x31)) * (Int.toNat (V4 x32 x33 x34 x35))) % (21888242871839275222246405745257275088696311157297823662689037894645226208583 : Nat)) (2 : Nat))) → (∀ (x39 : Int), ((x39 = (lm (((Int.toNat (V4 x28 x29 x30 x31)) * (Int.toNat (V4 x32 x33 x34 x35))) % (21888242871839275222246405745257275088696311157297823662689037894645226208583 : Nat)) (3 : Nat))) → (∀ (x40 : Int), ((x40 = (0 : Int)) → (∀ (x41 : Int), ((x41 = (0 : Int)) → (∀ (x42 : Int), ((x42 = (0 : Int)) → (∀ (x43 : Int), ((x43 = (0 : Int)) → (∀ (x44 : Int), ((x44 = b0) → (∀ (x45 : Int), ((x45 = b1) → (∀ (x46 : Int), ((x46 = b2) → (∀ (x47 : Int), ((x47 = b3) → ((((Wd x40) ∧
 ((Wd x41) ∧
 ((Wd x42) ∧
 (Wd x43)))) ∧
 ((Wd x44) ∧
 ((Wd x45) ∧
 ((Wd x46) ∧
 (Wd x47))))) ∧
 (∀ (x48 : Int), ((x48 = (lm (((Int.toNat (V4 x40 x41 x42 x43)) * (Int.toNat (V4 x44 x45 x46 x47))) % (21888242871839275222246405745257275088696311157297823662689037894645226208583 : Nat)) (0 : Nat))) → (∀ (x49 : Int), ((x49 = (lm (((Int.toNat (V4 x40 x41 x42 x43)) * (Int.toNat (V4 x44 x45 x46 x47))) % (21888242871839275222246405745257275088696311157297823662689037894645226208583 : Nat)) (1 : Nat))) → (∀ (x50 : Int), ((x50 = (lm (((Int.toNat (V4 x40 x41 x42 x43)) * (Int.toNat (V4 x44 x45 x46 x47))) % (21888242871839275222246405745257275088696311157297823662689037894645226208583 : Nat)) (2 : Nat))) → (∀ (x51 : Int), ((x51 = (lm (((Int.toNat (V4 x40 x41 x42 x43)) * (Int.toNat (V4 x44 x45 x46 x47))) % (21888242871839275222246405745257275088696311157297823662689037894645226208583 : Nat)) (3 : Nat))) → (((((Wd x36) ∧
 ((Wd x37) ∧
 ((Wd x38) ∧
 (Wd x39)))) ∧
 ((Wd x48) ∧
 ((Wd x49) ∧
 ((Wd x50) ∧
 (Wd x51))))) ∧
 (((V4 x36 x37 x38 x39) < (21888242871839275222246405745257275088696311157297823662689037894645226208583 : Int)) ∧
 ((V4 x48 x49 x50 x51) < (21888242871839275222246405745257275088696311157297823662689037894645226208583 : Int)))) ∧
 (∀ (x52 : Int), ((x52 = (lm (Int.toNat (((V4 x36 x37 x38 x39) + (V4 x48 x49 x50 x51)) % (21888242871839275222246405745257275088696311157297823662689037894645226208583 : Int))) (0 : Nat))) → (∀ (x53 : Int), ((x53 = (lm (Int.toNat (((V4 x36 x37 x38 x39) + (V4 x48 x49 x50 x51)) % (21888242871839275222246405745257275088696311157297823662689037894645226208583 : Int))) (1 : Nat))) → (∀ (x54 : Int), ((x54 = (lm (Int.toNat (((V4 x36 x37 x38 x39) + (V4 x48 x49 x50 x51)) % (21888242871839275222246405745257275088696311157297823662689037894645226208583 : Int))) (2 : Nat))) → (∀ (x55 : Int), ((x55 = (lm (Int.toNat (((V4 x36 x37 x38 x39) + (V4 x48 x49 x50 x51)) % (21888242871839275222246405745257275088696311157297823662689037894645226208583 : Int))) (3 : Nat))) → (K (SV.agg [(SV.int IntKind.u64 (A.sym x24)), (SV.int IntKind.u64 (A.sym x25)), (SV.int IntKind.u64 (A.sym x26)), (SV.int IntKind.u64 (A.sym x27)), (SV.int IntKind.u64 (A.sym x52)), (SV.int IntKind.u64 (A.sym x53)), (SV.int IntKind.u64 (A.sym x54)), (SV.int IntKind.u64 (A.sym x55))]) (memL [((513 : Nat), (Reg.mk Bool.false (Ct.cells [(SV.int IntKind.u64 (A.sym a0)), (SV.int IntKind.u64 (A.sym a1)), (SV.int IntKind.u64 (A.sym a2)), (SV.int IntKind.u64 (A.sym a3)), (SV.int IntKind.u64 (A.sym (0 : Int))), (SV.int IntKind.u64 (A.sym (0 : Int))), (SV.int IntKind.u64 (A.sym (0 : Int))), (SV.int IntKind.u64 (A.sym (0 : Int)))]))), ((521 : Nat), (Reg.mk Bool.false (Ct.cells [(SV.int IntKind.u64 (A.sym b0)), (SV.int IntKind.u64 (A.sym b1)), (SV.int IntKind.u64 (A.sym b2)), (SV.int IntKind.u64 (A.sym b3)), (SV.int IntKind.u64 (A.sym (0 : Int))), (SV.int IntKind.u64 (A.sym (0 : Int))), (SV.int IntKind.u64 (A.sym (0 : Int))), (SV.int IntKind.u64 (A.sym (0 : Int)))]))), ((529 : Nat), (Reg.mk Bool.false (Ct.cells [(SV.int IntKind.u64 (A.sym x24)), (SV.int IntKind.u64 (A.sym x25)), (SV.int IntKind.u64 (A.sym x26)), (SV.int IntKind.u64 (A.sym x27)), (SV.int IntKind.u64 (A.sym x52)), (SV.int IntKind.u64 (A.sym x53)), (SV.int IntKind.u64 (A.sym x54)), (SV.int IntKind.u64 (A.sym x55))])))]))))))))))))))))))))))))))))))))))))))))))))))))))))))))))))))))))))))))))))))))))))))))))))))))))))))))))))))))))))))))) := by kernel_rfl
theorem vc_adde (a0 a1 a2 a3 b0 b1 b2 b3 : Int) (K : SV → Mem → Prop) : (execF cxE u9 Tryd.f40 64 [agF a0 a1 a2 a3, agF b0 b1 b2 b3] (memL []) K) =
  ((∀ (x0 : Int), ((x0 = a0) → (∀ (x1 : Int), ((x1 = a1) → (∀ (x2 : Int), ((x2 = a2) → (∀ (x3 : Int), ((x3 = a3) → (∀ (x4 : Int), ((x4 = b0) → (∀ (x5 : Int), ((x5 = b1) → (∀ (x6 : Int), ((x6 = b2) → (∀ (x7 : Int), ((x7 = b3) → (((((Wd x0) ∧
 ((Wd x1) ∧
 ((Wd x2) ∧
 (Wd x3)))) ∧
 ((Wd x4) ∧
 ((Wd x5) ∧
 ((Wd x6) ∧
 (Wd x7))))) ∧
 (((V4 x0 x1 x2 x3) < (21888242871839275222246405745257275088696311157297823662689037894645226208583 : Int)) ∧
 ((V4 x4 x5 x6 x7) < (21888242871839275222246405745257275088696311157297823662689037894645226208583 : Int)))) ∧
 (∀ (x8 : Int), ((x8 = (lm (Int.toNat (((V4 x0 x1 x2 x3) + (V4 x4 x5 x6 x7)) % (21888242871839275222246405745257275088696311157297823662689037894645226208583 : Int))) (0 : Nat))) → (∀ (x9 : Int), ((x9 = (lm (Int.toNat (((V4 x0 x1 x2 x3) + (V4 x4 x5 x6 x7)) % (21888242871839275222246405745257275088696311157297823662689037894645226208583 : Int))) (1 : Nat))) → (∀ (x10 : Int), ((x10 = (lm (Int.toNat (((V4 x0 x1 x2 x3) + (V4 x4 x5 x6 x7)) % (21888242871839275222246405745257275088696311157297823662689037894645226208583 : Int))) (2 : Nat))) → (∀ (x11 : Int), ((x11 = (lm (Int.toNat (((V4 x0 x1 x2 x3) + (V4 x4 x5 x6 x7)) % (21888242871839275222246405745257275088696311157297823662689037894645226208583 : Int))) (3 : Nat))) → (∀ (x12 : Int), ((x12 = (0 : Int)) → (∀ (x13 : Int), ((x13 = (0 : Int)) → (∀ (x14 : Int), ((x14 = (0 : Int)) → (∀ (x15 : Int), ((x15 = (0 : Int)) → (∀ (x16 : Int), ((x16 = (0 : Int)) → (∀ (x17 : Int), ((x17 = (0 : Int)) → (∀ (x18 : Int), ((x18 = (0 : Int)) → (∀ (x19 : Int), ((x19 = (0 : Int)) → (((((Wd x12) ∧
 ((Wd x13) ∧
 ((Wd x14) ∧
 (Wd x15)))) ∧
 ((Wd x16) ∧
 ((Wd x17) ∧
 ((Wd x18) ∧
 (Wd x19))))) ∧
 (((V4 x12 x13 x14 x15) < (21888242871839275222246405745257275088696311157297823662689037894645226208583 : Int)) ∧
 ((V4 x16 x17 x18 x19) < (21888242871839275222246405745257275088696311157297823662689037894645226208583 : Int)))) ∧
 (∀ (x20 : Int), ((x20 = (lm (Int.toNat (((V4 x12 x13 x14 x15) + (V4 x16 x17 x18 x19)) % (21888242871839275222246405745257275088696311157297823662689037894645226208583 : Int))) (0 : Nat))) → (∀ (x21 : Int), ((x21 = (lm (Int.toNat (((V4 x12 x13 x14 x15) + (V4 x16 x17 x18 x19)) % (21888242871839275222246405745257275088696311157297823662689037894645226208583 : Int))) (1 : Nat))) → (∀ (x22 : Int), ((x22 = (lm (Int.toNat (((V4 x12 x13 x14 x15) + (V4 x16 x17 x18 x19)) % (21888242871839275222246405745257275088696311157297823662689037894645226208583 : Int))) (2 : Nat))) → (∀ (x23 : Int), ((x23 = (lm (Int.toNat (((V4 x12 x13 x14 x15) + (V4 x16 x17 x18 x19)) % (21888242871839275222246405745257275088696311157297823662689037894645226208583 : Int))) (3 : Nat))) → (K (SV.agg [(SV.int IntKind.u64 (A.sym x8)), (SV.int IntKind.u64 (A.sym x9)), (SV.int IntKind.u64 (A.sym x10)), (SV.int IntKind.u64 (A.sym x11)), (SV.int IntKind.u64 (A.sym x20)), (SV.int IntKind.u64 (A.sym x21)), (SV.int IntKind.u64 (A.sym x22)), (SV.int IntKind.u64 (A.sym x23))]) (memL [((513 : Nat), (Reg.mk Bool.false (Ct.cells [(SV.int IntKind.u64 (A.sym a0)), (SV.int IntKind.u64 (A.sym a1)), (SV.int IntKind.u64 (A.sym a2)), (SV.int IntKind.u64 (A.sym a3)), (SV.int IntKind.u64 (A.sym (0 : Int))), (SV.int IntKind.u64 (A.sym (0 : Int))), (SV.int IntKind.u64 (A.sym (0 : Int))), (SV.int IntKind.u64 (A.sym (0 : Int)))]))), ((521 : Nat), (Reg.mk Bool.false (Ct.cells [(SV.int IntKind.u64 (A.sym b0)), (SV.int IntKind.u64 (A.sym b1)), (SV.int IntKind.u64 (A.sym b2)), (SV.int IntKind.u64 (A.sym b3)), (SV.int IntKind.u64 (A.sym (0 : Int))), (SV.int IntKind.u64 (A.sym (0 : Int))), (SV.int IntKind.u64 (A.sym (0 : Int))), (SV.int IntKind.u64 (A.sym (0 : Int)))]))), ((529 : Nat), (Reg.mk Bool.false (Ct.cells [(SV.int IntKind.u64 (A.sym x8)), (SV.int IntKind.u64 (A.sym x9)), (SV.int IntKind.u64 (A.sym x10)), (SV.int IntKind.u64 (A.sym x11)), (SV.int IntKind.u64 (A.sym x20)), (SV.int IntKind.u64 (A.sym x21)), (SV.int IntKind.u64 (A.sym x22)), (SV.int IntKind.u64 (A.sym x23))])))]))))))))))))))))))))))))))))))))))))))))))))))))))))) := by kernel_rfl
theorem vc_sube (a0 a1 a2 a3 b0 b1 b2 b3 : Int) (K : SV → Mem → Prop) : (execF cxE u9 Tryd.f37 64 [agF a0 a1 a2 a3, agF b0 b1 b2 b3] (memL []) K) =
  ((∀ (x0 : Int), ((x0 = a0) → (∀ (x1 : Int), ((x1 = a1) → (∀ (x2 : Int), ((x2 = a2) → (∀ (x3 : Int), ((x3 = a3) → (∀ (x4 : Int), ((x4 = b0) → (∀ (x5 : Int), ((x5 = b1) → (∀ (x6 : Int), ((x6 = b2) → (∀ (x7 : Int), ((x7 = b3) → (((((Wd x0) ∧
 ((Wd x1) ∧
 ((Wd x2) ∧
 (Wd x3)))) ∧
 ((Wd x4) ∧
 ((Wd x5) ∧
 ((Wd x6) ∧
 (Wd x7))))) ∧
 (((V4 x0 x1 x2 x3) < (21888242871839275222246405745257275088696311157297823662689037894645226208583 : Int)) ∧
 ((V4 x4 x5 x6 x7) < (21888242871839275222246405745257275088696311157297823662689037894645226208583 : Int)))) ∧
 (∀ (x8 : Int), ((x8 = (lm (((Int.toNat (V4 x0 x1 x2 x3)) + ((21888242871839275222246405745257275088696311157297823662689037894645226208583 : Nat) - (Int.toNat (V4 x4 x5 x6 x7)))) % (21888242871839275222246405745257275088696311157297823662689037894645226208583 : Nat)) (0 : Nat))) → (∀ (x9 : Int), ((x9 = (lm (((Int.toNat (V4 x0 x1 x2 x3)) + ((21888242871839275222246405745257275088696311157297823662689037894645226208583 : Nat) - (Int.toNat (V4 x4 x5 x6 x7)))) % (21888242871839275222246405745257275088696311157297823662689037894645226208583 : Nat)) (1 : Nat))) → (∀ (x10 : Int), ((x10 = (lm (((Int.toNat (V4 x0 x1 x2 x3)) + ((21888242871839275222246405745257275088696311157297823662689037894645226208583 : Nat) - (Int.toNat (V4 x4 x5 x6 x7)))) % (21888242871839275222246405745257275088696311157297823662689037894645226208583 : Nat)) (2 : Nat))) → (∀ (x11 : Int), ((x11 = (lm (((Int.toNat (V4 x0 x1 x2 x3)) + ((21888242871839275222246405745257275088696311157297823662689037894645226208583 : Nat) - (Int.toNat (V4 x4 x5 x6 x7)))) % (21888242871839275222246405745257275088696311157297823662689037894645226208583 : Nat)) (3 : Nat))) → (∀ (x12 : Int), ((x12 = (0 : Int)) → (∀ (x13 : Int), ((x13 = (0 : Int)) → (∀ (x14 : Int), ((x14 = (0 : Int)) → (∀ (x15 : Int), ((x15 = (0 : Int)) → (∀ (x16 : Int), ((x16 = (0 : Int)) → (∀ (x17 : Int), ((x17 = (0 : Int)) → (∀ (x18 : Int), ((x18 = (0 : Int)) → (∀ (x19 : Int), ((x19 = (0 : Int)) → (((((Wd x12) ∧
 ((Wd x13) ∧
 ((Wd x14) ∧
 (Wd x15)))) ∧
 ((Wd x16) ∧
 ((Wd x17) ∧
 ((Wd x18) ∧
 (Wd x19))))) ∧
 (((V4 x12 x13 x14 x15) < (21888242871839275222246405745257275088696311157297823662689037894645226208583 : Int)) ∧
 ((V4 x16 x17 x18 x19) < (21888242871839275222246405745257275088696311157297823662689037894645226208583 : Int)))) ∧
 (∀ (x20 : Int), ((x20 = (lm (((Int.toNat (V4 x12 x13 x14 x15)) + ((21888242871839275222246405745257275088696311157297823662689037894645226208583 : Nat) - (Int.toNat (V4 x16 x17 x18 x19)))) % (21888242871839275222246405745257275088696311157297823662689037894645226208583 : Nat)) (0 : Nat))) → (∀ (x21 : Int), ((x21 = (lm (((Int.toNat (V4 x12 x13 x14 x15)) + ((21888242871839275222246405745257275088696311157297823662689037894645226208583 : Nat) - (Int.toNat (V4 x16 x17 x18 x19)))) % (21888242871839275222246405745257275088696311157297823662689037894645226208583 : Nat)) (1 : Nat))) → (∀ (x22 : Int), ((x22 = (lm (((Int.toNat (V4 x12 x13 x14 x15)) + ((21888242871839275222246405745257275088696311157297823662689037894645226208583 : Nat) - (Int.toNat (V4 x16 x17 x18 x19)))) % (21888242871839275222246405745257275088696311157297823662689037894645226208583 : Nat)) (2 : Nat))) → (∀ (x23 : Int), ((x23 = (lm (((Int.toNat (V4 x12 x13 x14 x15)) + ((21888242871839275222246405745257275088696311157297823662689037894645226208583 : Nat) - (Int.toNat (V4 x16 x17 x18 x19)))) % (21888242871839275222246405745257275088696311157297823662689037894645226208583 : Nat)) (3 : Nat))) → (K (SV.agg [(SV.int IntKind.u64 (A.sym x8)), (SV.int IntKind.u64 (A.sym x9)), (SV.int IntKind.u64 (A.sym x10)), (SV.int IntKind.u64 (A.sym x11)), (SV.int IntKind.u64 (A.sym x20)), (SV.int IntKind.u64 (A.sym x21)), (SV.int IntKind.u64 (A.sym x22)), (SV.int IntKind.u64 (A.sym x23))]) (memL [((513 : Nat), (Reg.mk Bool.false (Ct.cells [(SV.int IntKind.u64 (A.sym a0)), (SV.int IntKind.u64 (A.sym a1)), (SV.int IntKind.u64 (A.sym a2)), (SV.int IntKind.u64 (A.sym a3)), (SV.int IntKind.u64 (A.sym (0 : Int))), (SV.int IntKind.u64 (A.sym (0 : Int))), (SV.int IntKind.u64 (A.sym (0 : Int))), (SV.int IntKind.u64 (A.sym (0 : Int)))]))), ((521 : Nat), (Reg.mk Bool.false (Ct.cells [(SV.int IntKind.u64 (A.sym b0)), (SV.int IntKind.u64 (A.sym b1)), (SV.int IntKind.u64 (A.sym b2)), (SV.int IntKind.u64 (A.sym b3)), (SV.int IntKind.u64 (A.sym (0 : Int))), (SV.int IntKind.u64 (A.sym (0 : Int))), (SV.int IntKind.u64 (A.sym (0 : Int))), (SV.int IntKind.u64 (A.sym (0 : Int)))]))), ((529 : Nat), (Reg.mk Bool.false (Ct.cells [(SV.int IntKind.u64 (A.sym x8)), (SV.int IntKind.u64 (A.sym x9)), (SV.int IntKind.u64 (A.sym x10)), (SV.int IntKind.u64 (A.sym x11)), (SV.int IntKind.u64 (A.sym x20)), (SV.int IntKind.u64 (A.sym x21)), (SV.int IntKind.u64 (A.sym x22)), (SV.int IntKind.u64 (A.sym x23))])))]))))))))))))))))))))))))))))))))))))))))))))))))))))) := by kernel_rfl
theorem vc_inve (a0 a1 a2 a3 : Int) (K : SV → Mem → Prop) : (execF cxE u9 Tryd.f39 64 [agF a0 a1 a2 a3] (memL []) K) =
  ((∀ (x0 : Int), ((x0 = a0) → (∀ (x1 : Int), ((x1 = a1) → (∀ (x2 : Int), ((x2 = a2) → (∀ (x3 : Int), ((x3 = a3) → (∀ (x4 : Int), ((x4 = a0) → (∀ (x5 : Int), ((x5 = a1) → (∀ (x6 : Int), ((x6 = a2) → (∀ (x7 : Int), ((x7 = a3) → ((((Wd x0) ∧
 ((Wd x1) ∧
 ((Wd x2) ∧
 (Wd x3)))) ∧
 ((Wd x4) ∧
 ((Wd x5) ∧
 ((Wd x6) ∧
 (Wd x7))))) ∧
 (∀ (x8 : Int), ((x8 = (lm (((Int.toNat (V4 x0 x1 x2 x3)) * (Int.toNat (V4 x4 x5 x6 x7))) % (21888242871839275222246405745257275088696311157297823662689037894645226208583 : Nat)) (0 : Nat))) → (∀ (x9 : Int), ((x9 = (lm (((Int.toNat (V4 x0 x1 x2 x3)) * (Int.toNat (V4 x4 x5 x6 x7))) % (21888242871839275222246405745257275088696311157297823662689037894645226208583 : Nat)) (1 : Nat))) → (∀ (x10 : Int), ((x10 = (lm (((Int.toNat (V4 x0 x1 x2 x3)) * (Int.toNat (V4 x4 x5 x6 x7))) % (21888242871839275222246405745257275088696311157297823662689037894645226208583 : Nat)) (2 : Nat))) → (∀ (x11 : Int), ((x11 = (lm (((Int.toNat (V4 x0 x1 x2 x3)) * (Int.toNat (V4 x4 x5 x6 x7))) % (21888242871839275222246405745257275088696311157297823662689037894645226208583 : Nat)) (3 : Nat))) → (∀ (x12 : Int), ((x12 = (0 : Int)) → (∀ (x13 : Int), ((x13 = (0 : Int)) → (∀ (x14 : Int), ((x14 = (0 : Int)) → (∀ (x15 : Int), ((x15 = (0 : Int)) → (∀ (x16 : Int), ((x16 = (0 : Int)) → (∀ (x17 : Int), ((x17 = (0 : Int)) → (∀ (x18 : Int), ((x18 = (0 : Int)) → (∀ (x19 : Int), ((x19 = (0 : Int)) → ((((Wd x12) ∧
 ((Wd x13) ∧
 ((Wd x14) ∧
 (Wd x15)))) ∧
 ((Wd x16) ∧
 ((Wd x17) ∧
 ((Wd x18) ∧
 (Wd x19))))) ∧
 (∀ (x20 : Int), ((x20 = (lm (((Int.toNat (V4 x12 x13 x14 x15)) * (Int.toNat (V4 x16 x17 x18 x19))) % (21888242871839275222246405745257275088696311157297823662689037894645226208583 : Nat)) (0 : Nat))) → (∀ (x21 : Int), ((x21 = (lm (((Int.toNat (V4 x12 x13 x14 x15)) * (Int.toNat (V4 x16 x17 x18 x19))) % (21888242871839275222246405745257275088696311157297823662689037894645226208583 : Nat)) (1 : Nat))) → (∀ (x22 : Int), ((x22 = (lm (((Int.toNat (V4 x12 x13 x14 x15)) * (Int.toNat (V4 x16 x17 x18 x19))) % (21888242871839275222246405745257275088696311157297823662689037894645226208583 : Nat)) (2 : Nat))) → (∀ (x23 : Int), ((x23 = (lm (((Int.toNat (V4 x12 x13 x14 x15)) * (Int.toNat (V4 x16 x17 x18 x19))) % (21888242871839275222246405745257275088696311157297823662689037894645226208583 : Nat)) (3 : Nat))) → (((((Wd x8) ∧
 ((Wd x9) ∧
 ((Wd x10) ∧
 (Wd x11)))) ∧
 ((Wd x20) ∧
 ((Wd x21) ∧
 ((Wd x22) ∧
 (Wd x23))))) ∧
 (((V4 x8 x9 x10 x11) < (21888242871839275222246405745257275088696311157297823662689037894645226208583 : Int)) ∧
 ((V4 x20 x21 x22 x23) < (21888242871839275222246405745257275088696311157297823662689037894645226208583 : Int)))) ∧
 (∀ (x24 : Int), ((x24 = (lm (Int.toNat (((V4 x8 x9 x10 x11) + (V4 x20 x21 x22 x23)) % (21888242871839275222246405745257275088696311157297823662689037894645226208583 : Int))) (0 : Nat))) → (∀ (x25 : Int), ((x25 = (lm (Int.toNat (((V4 x8 x9 x10 x11) + (V4 x20 x21 x22 x23)) % (21888242871839275222246405745257275088696311157297823662689037894645226208583 : Int))) (1 : Nat))) → (∀ (x26 : Int), ((x26 = (lm (Int.toNat (((V4 x8 x9 x10 x11) + (V4 x20 x21 x22 x23)) % (21888242871839275222246405745257275088696311157297823662689037894645226208583 : Int))) (2 : Nat))) → (∀ (x27 : Int), ((x27 = (lm (Int.toNat (((V4 x8 x9 x10 x11) + (V4 x20 x21 x22 x23)) % (21888242871839275222246405745257275088696311157297823662689037894645226208583 : Int))) (3 : Nat))) → (((((Wd x24) ∧
 ((Wd x25) ∧
 ((Wd x26) ∧
 (Wd x27)))) ∧
 ((Wd (4332616871279656263 : Int)) ∧
 ((Wd (10917124144477883021 : Int)) ∧
 ((Wd (13281191951274694749 : Int)) ∧
 (Wd (3486998266802970665 : Int)))))) ∧
 (((V4 x24 x25 x26 x27) < (21888242871839275222246405745257275088696311157297823662689037894645226208583 : Int)) ∧
 ((21888242871839275222246405745257275088696311157297823662689037894645226208583 : Int) = (21888242871839275222246405745257275088696311157297823662689037894645226208583 : Int)))) ∧
 (∀ (x28 : Int), ((x28 = (lm (inv0 (Int.toNat (V4 x24 x25 x26 x27))) (0 : Nat))) → (∀ (x29 : Int), ((x29 = (lm (inv0 (Int.toNat (V4 x24 x25 x26 x27))) (1 : Nat))) → (∀ (x30 : Int), ((x30 = (lm (inv0 (Int.toNat (V4 x24 x25 x26 x27))) (2 : Nat))) → (∀ (x31 : Int), ((x31 = (lm (inv0 (Int.toNat (V4 x24 x25 x26 x27))) (3 : Nat))) → (∀ (x32 : Int), ((x32 = a0) → (∀ (x33 : Int), ((x33 = a1) → (∀ (x34 : Int), ((x34 = a2) → (∀ (x35 : Int), ((x35 = a3) → (∀ (x36 : Int), ((x36 = x28) → (∀ (x37 : Int), ((x37 = x29) → (∀ (x38 : Int), ((x38 = x30) → (∀ (x39 : Int), ((x39 = x31) → ((((Wd x32) ∧
 ((Wd x33) ∧
 ((Wd x34) ∧
 (Wd x35)))) ∧
 ((Wd x36) ∧
 ((Wd x37) ∧
 ((Wd x38) ∧
 (Wd x39))))) ∧
 (∀ (x40 : Int), ((x40 = (lm (((Int.toNat (V4 x32 x33 x34 x35)) * (Int.toNat (V4 x36 x37 x38 x39))) % (21888242871839275222246405745257275088696311157297823662689037894645226208583 : Nat)) (0 : Nat))) → (∀ (x41 : Int), ((x41 = (lm (((Int.toNat (V4 x32 x33 x34 x35)) * (Int.toNat (V4 x36 x37 x38 x39))) % (21888242871839275222246405745257275088696311157297823662689037894645226208583 : Nat)) (1 : Nat))) → (∀ (x42 : Int), ((x42 = (lm (((Int.toNat (V4 x32 x33 x34 x35)) * (Int.toNat (V4 x36 x37 x38 x39))) % (21888242871839275222246405745257275088696311157297823662689037894645226208583 : Nat)) (2 : Nat))) → (∀ (x43 : Int), ((x43 = (lm (((Int.toNat (V4 x32 x33 x34 x35)) * (Int.toNat (V4 x36 x37 x38 x39))) % (21888242871839275222246405745257275088696311157297823662689037894645226208583 : Nat)) (3 : Nat))) → (∀ (x44 : Int), ((x44 = (0 : Int)) → (∀ (x45 : Int), ((x45 = (0 : Int)) → (∀ (x46 : Int), ((x46 = (0 : Int)) → (∀ (x47 : Int), ((x47 = (0 : Int)) → (∀ (x48 : Int), ((x48 = x28) → (∀ (x49 : Int), ((x49 = x29) → (∀ (x50 : Int), ((x50 = x30) → (∀ (x51 : Int), ((x51 = x31) → ((((Wd x44) ∧
 ((Wd x45) ∧
 ((Wd x46) ∧
 (Wd x47)))) ∧
 ((Wd x48) ∧
 ((Wd x49) ∧
 ((Wd x50) ∧
 (Wd x51))))) ∧
 (∀ (x52 : Int), ((x52 = (lm (((Int.toNat (V4 x44 x45 x46 x47)) * (Int.toNat (V4 x48 x49 x50 x51))) % (21888242871839275222246405745257275088696311157297823662689037894645226208583 : Nat)) (0 : Nat))) → (∀ (x53 : Int), ((x53 = (lm (((Int.toNat (V4 x44 x45 x46 x47)) * (Int.toNat (V4 x48 x49 x50 x51))) % (21888242871839275222246405745257275088696311157297823662689037894645226208583 : Nat)) (1 : Nat))) → (∀ (x54 : Int), ((x54 = (lm (((Int.toNat (V4 x44 x45 x46 x47)) * (Int.toNat (V4 x48 x49 x50 x51))) % (21888242871839275222246405745257275088696311157297823662689037894645226208583 : Nat)) (2 : Nat))) → (∀ (x55 : Int), ((x55 = (lm (((Int.toNat (V4 x44 x45 x46 x47)) * (Int.toNat (V4 x48 x49 x50 x51))) % (21888242871839275222246405745257275088696311157297823662689037894645226208583 : Nat)) (3 : Nat))) → (((((Wd (0 : Int)) ∧
 ((Wd (0 : Int)) ∧
 ((Wd (0 : Int)) ∧
 (Wd (0 : Int))))) ∧
 ((Wd x52) ∧
 ((Wd x53) ∧
 ((Wd x54) ∧
 (Wd x55))))) ∧
 (((0 : Int) < (21888242871839275222246405745257275088696311157297823662689037894645226208583 : Int)) ∧
 ((V4 x52 x53 x54 x55) < (21888242871839275222246405745257275088696311157297823662689037894645226208583 : Int)))) ∧
 (∀ (x56 : Int), ((x56 = (lm (((0 : Nat) + ((21888242871839275222246405745257275088696311157297823662689037894645226208583 : Nat) - (Int.toNat (V4 x52 x53 x54 x55)))) % (21888242871839275222246405745257275088696311157297823662689037894645226208583 : Nat)) (0 : Nat))) → (∀ (x57 : Int), ((x57 = (lm (((0 : Nat) + ((21888242871839275222246405745257275088696311157297823662689037894645226208583 : Nat) - (Int.toNat (V4 x52 x53 x54 x55)))) % (21888242871839275222246405745257275088696311157297823662689037894645226208583 : Nat)) (1 : Nat))) → (∀ (x58 : Int), ((x58 = (lm (((0 : Nat) + ((21888242871839275222246405745257275088696311157297823662689037894645226208583 : Nat) - (Int.toNat (V4 x52 x53 x54 x55)))) % (21888242871839275222246405745257275088696311157297823662689037894645226208583 : Nat)) (2 : Nat))) → (∀ (x59 : Int), ((x59 = (lm (((0 : Nat) + ((21888242871839275222246405745257275088696311157297823662689037894645226208583 : Nat) - (Int.toNat (V4 x52 x53 x54 x55)))) % (21888242871839275222246405745257275088696311157297823662689037894645226208583 : Nat)) (3 : Nat))) → (K (SV.agg [(SV.int IntKind.u64 (A.sym x40)), (SV.int IntKind.u64 (A.sym x41)), (SV.int IntKind.u64 (A.sym x42)), (SV.int IntKind.u64 (A.sym x43)), (SV.int IntKind.u64 (A.sym x56)), (SV.int IntKind.u64 (A.sym x57)), (SV.int IntKind.u64 (A.sym x58)), (SV.int IntKind.u64 (A.sym x59))]) (memL [((513 : Nat), (Reg.mk Bool.false (Ct.cells [(SV.int IntKind.u64 (A.sym a0)), (SV.int IntKind.u64 (A.sym a1)), (SV.int IntKind.u64 (A.sym a2)), (SV.int IntKind.u64 (A.sym a3)), (SV.int IntKind.u64 (A.sym (0 : Int))), (SV.int IntKind.u64 (A.sym (0 : Int))), (SV.int IntKind.u64 (A.sym (0 : Int))), (SV.int IntKind.u64 (A.sym (0 : Int)))]))), ((521 : Nat), (Reg.mk Bool.false (Ct.cells [(SV.int IntKind.u64 (A.sym x40)), (SV.int IntKind.u64 (A.sym x41)), (SV.int IntKind.u64 (A.sym x42)), (SV.int IntKind.u64 (A.sym x43)), (SV.int IntKind.u64 (A.sym x56)), (SV.int IntKind.u64 (A.sym x57)), (SV.int IntKind.u64 (A.sym x58)), (SV.int IntKind.u64 (A.sym x59))]))), ((633 : Nat), (Reg.mk Bool.false (Ct.cells [(SV.int IntKind.u64 (A.sym x28)), (SV.int IntKind.u64 (A.sym x29)), (SV.int IntKind.u64 (A.sym x30)), (SV.int IntKind.u64 (A.sym x31))])))])))))))))))))))))))))))))))))))))))))))))))))))))))))))))))))))))))))))))))))))))))))))))))))))))))))))))))))))))))))))))))))))))) := by kernel_rfl
theorem mule_walk {A B : Nat} {a0 a1 a2 a3 b0 b1 b2 b3 : Int} {K : SV → Mem → Prop} (ha : Ws a0 a1 a2 a3 A) (hb : Ws b0 b1 b2 b3 B) (la : A < qN) (lb : B < qN) (hK : ∀ m, K (agF (lm (A * B % qN) 0) (lm (A * B % qN) 1) (lm (A * B % qN) 2) (lm (A * B % qN) 3)) m) :
    execF cxE u9 Tryd.f35 64 [agF a0 a1 a2 a3, agF b0 b1 b2 b3] (memL []) K := by
  rw [vc_mule]
  obtain ⟨wa0, wa1, wa2, wa3⟩ := ha.wd
  obtain ⟨wb0, wb1, wb2, wb3⟩ := hb.wd
  have va := ha.val
  have vb := hb.val
  have la := lq la
  have lb := lq lb
  have e := qN_eq.symm
  simp only [e, wa0, wa1, wa2, wa3, wb0, wb1, wb2, wb3, va, vb, la, lb, forall_eq, lm_wd, wd0, Vq, Viv, Vrt, V0, adN, mlt, ilt, rlt, zlt, Int.toNat_natCast, and_true, true_and, and_self, mul_z, z_mul, sub_z, z_add, Nat.mod_mod, lm0]
  exact hK _
def rMule : R0 := fun args l =>
  match args, l with
  | [.agg [.int .u64 (.sym a0), .int .u64 (.sym a1), .int .u64 (.sym a2), .int .u64 (.sym a3), .int .u64 (.sym a4), .int .u64 (.sym a5), .int .u64 (.sym a6), .int .u64 (.sym a7)], .agg [.int .u64 (.sym b0), .int .u64 (.sym b1), .int .u64 (.sym b2), .int .u64 (.sym b3), .int .u64 (.sym b4), .int .u64 (.sym b5), .int .u64 (.sym b6), .int .u64 (.sym b7)]], [] => some (some ((((Wd a0 ∧ Wd a1 ∧ Wd a2 ∧ Wd a3) ∧ (Wd b0 ∧ Wd b1 ∧ Wd b2 ∧ Wd b3)) ∧ (V4 a0 a1 a2 a3 < 21888242871839275222246405745257275088696311157297823662689037894645226208583 ∧ V4 b0 b1 b2 b3 < 21888242871839275222246405745257275088696311157297823662689037894645226208583)) ∧ (a4 = 0 ∧ a5 = 0 ∧ a6 = 0 ∧ a7 = 0) ∧ (b4 = 0 ∧ b5 = 0 ∧ b6 = 0 ∧ b7 = 0)), agF (lm ((V4 a0 a1 a2 a3).toNat * (V4 b0 b1 b2 b3).toNat % qN) 0) (lm ((V4 a0 a1 a2 a3).toNat * (V4 b0 b1 b2 b3).toNat % qN) 1) (lm ((V4 a0 a1 a2 a3).toNat * (V4 b0 b1 b2 b3).toNat % qN) 2) (lm ((V4 a0 a1 a2 a3).toNat * (V4 b0 b1 b2 b3).toNat % qN) 3))
  | _, _ => none
theorem Mule_ok (args : List SV) (l : List (Nat × Reg)) (p : Ob) (v : SV) (h : rMule args l = some (p, v)) (hp : p.ok) : ∃ U, execF cxE U Tryd.f35 64 args (memL l) fun v' _ => v' = v := by
  unfold rMule at h
  split at h
  · rename_i a0 a1 a2 a3 a4 a5 a6 a7 b0 b1 b2 b3 b4 b5 b6 b7
    simp only [Option.some.injEq, Prod.mk.injEq] at h
    obtain ⟨rfl, rfl⟩ := h
    have hp : (((Wd a0 ∧ Wd a1 ∧ Wd a2 ∧ Wd a3) ∧ (Wd b0 ∧ Wd b1 ∧ Wd b2 ∧ Wd b3)) ∧ (V4 a0 a1 a2 a3 < 21888242871839275222246405745257275088696311157297823662689037894645226208583 ∧ V4 b0 b1 b2 b3 < 21888242871839275222246405745257275088696311157297823662689037894645226208583)) ∧ (a4 = 0 ∧ a5 = 0 ∧ a6 = 0 ∧ a7 = 0) ∧ (b4 = 0 ∧ b5 = 0 ∧ b6 = 0 ∧ b7 = 0) := hp
    obtain ⟨⟨⟨wa, wb⟩, la, lb⟩, ⟨z0, z1, z2, z3⟩, z4, z5, z6, z7⟩ := hp
    subst z0 z1 z2 z3 z4 z5 z6 z7
    have A := ws_of wa.1 wa.2.1 wa.2.2.1 wa.2.2.2
    have B := ws_of wb.1 wb.2.1 wb.2.2.1 wb.2.2.2
    have ea := Ws.val A
    have eb := Ws.val B
    exact ⟨_, mule_walk A B (by unfold qN; omega) (by unfold qN; omega) fun _ => rfl⟩
  · cases h
def cMule : Rd Tryd.prog := mkR mixed 35 Tryd.func35 (by decide) (by kernel_rfl) [] [.num, .num] rMule Mule_ok
theorem adde_walk {A B : Nat} {a0 a1 a2 a3 b0 b1 b2 b3 : Int} {K : SV → Mem → Prop} (ha : Ws a0 a1 a2 a3 A) (hb : Ws b0 b1 b2 b3 B) (la : A < qN) (lb : B < qN) (hK : ∀ m, K (agF (lm ((A + B) % qN) 0) (lm ((A + B) % qN) 1) (lm ((A + B) % qN) 2) (lm ((A + B) % qN) 3)) m) :
    execF cxE u9 Tryd.f40 64 [agF a0 a1 a2 a3, agF b0 b1 b2 b3] (memL []) K := by
  rw [vc_adde]
  obtain ⟨wa0, wa1, wa2, wa3⟩ := ha.wd
  obtain ⟨wb0, wb1, wb2, wb3⟩ := hb.wd
  have va := ha.val
  have vb := hb.val
  have la := lq la
  have lb := lq lb
  have e := qN_eq.symm
  simp only [e, wa0, wa1, wa2, wa3, wb0, wb1, wb2, wb3, va, vb, la, lb, forall_eq, lm_wd, wd0, Vq, Viv, Vrt, V0, adN, mlt, ilt, rlt, zlt, Int.toNat_natCast, and_true, true_and, and_self, z_add, lm0]
  exact hK _
def rAdde : R0 := fun args l =>
  match args, l with
  | [.agg [.int .u64 (.sym a0), .int .u64 (.sym a1), .int .u64 (.sym a2), .int .u64 (.sym a3), .int .u64 (.sym a4), .int .u64 (.sym a5), .int .u64 (.sym a6), .int .u64 (.sym a7)], .agg [.int .u64 (.sym b0), .int .u64 (.sym b1), .int .u64 (.sym b2), .int .u64 (.sym b3), .int .u64 (.sym b4), .int .u64 (.sym b5), .int .u64 (.sym b6), .int .u64 (.sym b7)]], [] => some (some ((((Wd a0 ∧ Wd a1 ∧ Wd a2 ∧ Wd a3) ∧ (Wd b0 ∧ Wd b1 ∧ Wd b2 ∧ Wd b3)) ∧ (V4 a0 a1 a2 a3 < 21888242871839275222246405745257275088696311157297823662689037894645226208583 ∧ V4 b0 b1 b2 b3 < 21888242871839275222246405745257275088696311157297823662689037894645226208583)) ∧ (a4 = 0 ∧ a5 = 0 ∧ a6 = 0 ∧ a7 = 0) ∧ (b4 = 0 ∧ b5 = 0 ∧ b6 = 0 ∧ b7 = 0)), agF (lm (((V4 a0 a1 a2 a3).toNat + (V4 b0 b1 b2 b3).toNat) % qN) 0) (lm (((V4 a0 a1 a2 a3).toNat + (V4 b0 b1 b2 b3).toNat) % qN) 1) (lm (((V4 a0 a1 a2 a3).toNat + (V4 b0 b1 b2 b3).toNat) % qN) 2) (lm (((V4 a0 a1 a2 a3).toNat + (V4 b0 b1 b2 b3).toNat) % qN) 3))
  | _, _ => none
theorem Adde_ok (args : List SV) (l : List (Nat × Reg)) (p : Ob) (v : SV) (h : rAdde args l = some (p, v)) (hp : p.ok) : ∃ U, execF cxE U Tryd.f40 64 args (memL l) fun v' _ => v' = v := by
  unfold rAdde at h
  split at h
  · rename_i a0 a1 a2 a3 a4 a5 a6 a7 b0 b1 b2 b3 b4 b5 b6 b7
    simp only [Option.some.injEq, Prod.mk.injEq] at h
    obtain ⟨rfl, rfl⟩ := h
    have hp : (((Wd a0 ∧ Wd a1 ∧ Wd a2 ∧ Wd a3) ∧ (Wd b0 ∧ Wd b1 ∧ Wd b2 ∧ Wd b3)) ∧ (V4 a0 a1 a2 a3 < 21888242871839275222246405745257275088696311157297823662689037894645226208583 ∧ V4 b0 b1 b2 b3 < 21888242871839275222246405745257275088696311157297823662689037894645226208583)) ∧ (a4 = 0 ∧ a5 = 0 ∧ a6 = 0 ∧ a7 = 0) ∧ (b4 = 0 ∧ b5 = 0 ∧ b6 = 0 ∧ b7 = 0) := hp
    obtain ⟨⟨⟨wa, wb⟩, la, lb⟩, ⟨z0, z1, z2, z3⟩, z4, z5, z6, z7⟩ := hp
    subst z0 z1 z2 z3 z4 z5 z6 z7
    have A := ws_of wa.1 wa.2.1 wa.2.2.1 wa.2.2.2
    have B := ws_of wb.1 wb.2.1 wb.2.2.1 wb.2.2.2
    have ea := Ws.val A
    have eb := Ws.val B
    exact ⟨_, adde_walk A B (by unfold qN; omega) (by unfold qN; omega) fun _ => rfl⟩
  · cases h
def cAdde : Rd Tryd.prog := mkR mixed 40 Tryd.func40 (by decide) (by kernel_rfl) [] [.num, .num] rAdde Adde_ok
theorem sube_walk {A B : Nat} {a0 a1 a2 a3 b0 b1 b2 b3 : Int} {K : SV → Mem → Prop} (ha : Ws a0 a1 a2 a3 A) (hb : Ws b0 b1 b2 b3 B) (la : A < qN) (lb : B < qN) (hK : ∀ m, K (agF (lm ((A + (qN - B)) % qN) 0) (lm ((A + (qN - B)) % qN) 1) (lm ((A + (qN - B)) % qN) 2) (lm ((A + (qN - B)) % qN) 3)) m) :
    execF cxE u9 Tryd.f37 64 [agF a0 a1 a2 a3, agF b0 b1 b2 b3] (memL []) K := by
  rw [vc_sube]
  obtain ⟨wa0, wa1, wa2, wa3⟩ := ha.wd
  obtain ⟨wb0, wb1, wb2, wb3⟩ := hb.wd
  have va := ha.val
  have vb := hb.val
  have la := lq la
  have lb := lq lb
  have e := qN_eq.symm
  simp only [e, wa0, wa1, wa2, wa3, wb0, wb1, wb2, wb3, va, vb, la, lb, forall_eq, lm_wd, wd0, Vq, Viv, Vrt, V0, adN, mlt, ilt, rlt, zlt, Int.toNat_natCast, and_true, true_and, and_self, z_sub, lm0]
  exact hK _
def rSube : R0 := fun args l =>
  match args, l with
  | [.agg [.int .u64 (.sym a0), .int .u64 (.sym a1), .int .u64 (.sym a2), .int .u64 (.sym a3), .int .u64 (.sym a4), .int .u64 (.sym a5), .int .u64 (.sym a6), .int .u64 (.sym a7)], .agg [.int .u64 (.sym b0), .int .u64 (.sym b1), .int .u64 (.sym b2), .int .u64 (.sym b3), .int .u64 (.sym b4), .int .u64 (.sym b5), .int .u64 (.sym b6), .int .u64 (.sym b7)]], [] => some (some ((((Wd a0 ∧ Wd a1 ∧ Wd a2 ∧ Wd a3) ∧ (Wd b0 ∧ Wd b1 ∧ Wd b2 ∧ Wd b3)) ∧ (V4 a0 a1 a2 a3 < 21888242871839275222246405745257275088696311157297823662689037894645226208583 ∧ V4 b0 b1 b2 b3 < 21888242871839275222246405745257275088696311157297823662689037894645226208583)) ∧ (a4 = 0 ∧ a5 = 0 ∧ a6 = 0 ∧ a7 = 0) ∧ (b4 = 0 ∧ b5 = 0 ∧ b6 = 0 ∧ b7 = 0)), agF (lm (((V4 a0 a1 a2 a3).toNat + (qN - (V4 b0 b1 b2 b3).toNat)) % qN) 0) (lm (((V4 a0 a1 a2 a3).toNat + (qN - (V4 b0 b1 b2 b3).toNat)) % qN) 1) (lm (((V4 a0 a1 a2 a3).toNat + (qN - (V4 b0 b1 b2 b3).toNat)) % qN) 2) (lm (((V4 a0 a1 a2 a3).toNat + (qN - (V4 b0 b1 b2 b3).toNat)) % qN) 3))
  | _, _ => none
theorem Sube_ok (args : List SV) (l : List (Nat × Reg)) (p : Ob) (v : SV) (h : rSube args l = some (p, v)) (hp : p.ok) : ∃ U, execF cxE U Tryd.f37 64 args (memL l) fun v' _ => v' = v := by
  unfold rSube at h
  split at h
  · rename_i a0 a1 a2 a3 a4 a5 a6 a7 b0 b1 b2 b3 b4 b5 b6 b7
    simp only [Option.some.injEq, Prod.mk.injEq] at h
    obtain ⟨rfl, rfl⟩ := h
    have hp : (((Wd a0 ∧ Wd a1 ∧ Wd a2 ∧ Wd a3) ∧ (Wd b0 ∧ Wd b1 ∧ Wd b2 ∧ Wd b3)) ∧ (V4 a0 a1 a2 a3 < 21888242871839275222246405745257275088696311157297823662689037894645226208583 ∧ V4 b0 b1 b2 b3 < 21888242871839275222246405745257275088696311157297823662689037894645226208583)) ∧ (a4 = 0 ∧ a5 = 0 ∧ a6 = 0 ∧ a7 = 0) ∧ (b4 = 0 ∧ b5 = 0 ∧ b6 = 0 ∧ b7 = 0) := hp
    obtain ⟨⟨⟨wa, wb⟩, la, lb⟩, ⟨z0, z1, z2, z3⟩, z4, z5, z6, z7⟩ := hp
    subst z0 z1 z2 z3 z4 z5 z6 z7
    have A := ws_of wa.1 wa.2.1 wa.2.2.1 wa.2.2.2
    have B := ws_of wb.1 wb.2.1 wb.2.2.1 wb.2.2.2
    have ea := Ws.val A
    have eb := Ws.val B
    exact ⟨_, sube_walk A B (by unfold qN; omega) (by unfold qN; omega) fun _ => rfl⟩
  · cases h
def cSube : Rd Tryd.prog := mkR mixed 37 Tryd.func37 (by decide) (by kernel_rfl) [] [.num, .num] rSube Sube_ok
theorem inve_walk {A : Nat} {a0 a1 a2 a3 : Int} {K : SV → Mem → Prop} (ha : Ws a0 a1 a2 a3 A) (la : A < qN) (hK : ∀ m, K (agF (lm (inv0 A) 0) (lm (inv0 A) 1) (lm (inv0 A) 2) (lm (inv0 A) 3)) m) :
    execF cxE u9 Tryd.f39 64 [agF a0 a1 a2 a3] (memL []) K := by
  rw [vc_inve]
  obtain ⟨wa0, wa1, wa2, wa3⟩ := ha.wd
  obtain ⟨wq0, wq1, wq2, wq3⟩ := q_ws.wd
  have va := ha.val
  have h := inv_e la
  have la := lq la
  have e := qN_eq.symm
  simp only [e, wa0, wa1, wa2, wa3, wq0, wq1, wq2, wq3, va, la, forall_eq, lm_wd, wd0, Vq, Viv, Vrt, V0, adN, mlt, ilt, rlt, zlt, Int.toNat_natCast, and_true, true_and, and_self, mul_z, z_mul, sub_z, z_sub, z_add, Nat.add_zero, Nat.mod_mod, lm0, h]
  exact ⟨by decide, hK _⟩
def rInve : R0 := fun args l =>
  match args, l with
  | [.agg [.int .u64 (.sym a0), .int .u64 (.sym a1), .int .u64 (.sym a2), .int .u64 (.sym a3), .int .u64 (.sym a4), .int .u64 (.sym a5), .int .u64 (.sym a6), .int .u64 (.sym a7)]], [] => some (some (((Wd a0 ∧ Wd a1 ∧ Wd a2 ∧ Wd a3) ∧ V4 a0 a1 a2 a3 < 21888242871839275222246405745257275088696311157297823662689037894645226208583) ∧ (a4 = 0 ∧ a5 = 0 ∧ a6 = 0 ∧ a7 = 0)), agF (lm (inv0 (V4 a0 a1 a2 a3).toNat) 0) (lm (inv0 (V4 a0 a1 a2 a3).toNat) 1) (lm (inv0 (V4 a0 a1 a2 a3).toNat) 2) (lm (inv0 (V4 a0 a1 a2 a3).toNat) 3))
  | _, _ => none
theorem Inve_ok (args : List SV) (l : List (Nat × Reg)) (p : Ob) (v : SV) (h : rInve args l = some (p, v)) (hp : p.ok) : ∃ U, execF cxE U Tryd.f39 64 args (memL l) fun v' _ => v' = v := by
  unfold rInve at h
  split at h
  · rename_i a0 a1 a2 a3 a4 a5 a6 a7
    simp only [Option.some.injEq, Prod.mk.injEq] at h
    obtain ⟨rfl, rfl⟩ := h
    have hp : ((Wd a0 ∧ Wd a1 ∧ Wd a2 ∧ Wd a3) ∧ V4 a0 a1 a2 a3 < 21888242871839275222246405745257275088696311157297823662689037894645226208583) ∧ (a4 = 0 ∧ a5 = 0 ∧ a6 = 0 ∧ a7 = 0) := hp
    obtain ⟨⟨wa, la⟩, z0, z1, z2, z3⟩ := hp
    subst z0 z1 z2 z3
    have A := ws_of wa.1 wa.2.1 wa.2.2.1 wa.2.2.2
    have ea := Ws.val A
    exact ⟨_, inve_walk A (by unfold qN; omega) fun _ => rfl⟩
  · cases h
def cInve : Rd Tryd.prog := mkR mixed 39 Tryd.func39 (by decide) (by kernel_rfl) [] [.num] rInve Inve_ok
end Go.Sx

/- Numbers of E2 without second part: small numbers, sign, root, the curve's right side. -/
namespace Go.Sx
open Go Go.Proofs Go.Num
set_option maxRecDepth 100000
theorem vc_small (n : Int) (K : SV → Mem → Prop) : (execF cxE u9 Tryd.f42 64 [.int .i64 (.sym n)] (memL []) K) =
  ((∀ (x0 : Int), ((x0 = (IntKind.wrap IntKind.u64 n)) → (K (SV.agg [(SV.int IntKind.u64 (A.sym x0)), (SV.int IntKind.u64 (A.lit (0 : Int))), (SV.int IntKind.u64 (A.lit (0 : Int))), (SV.int IntKind.u64 (A.lit (0 : Int)))]) (memL [((513 : Nat), (Reg.mk Bool.false (Ct.cells [(SV.int IntKind.u64 (A.sym x0)), (SV.int IntKind.u64 (A.lit (0 : Int))), (SV.int IntKind.u64 (A.lit (0 : Int))), (SV.int IntKind.u64 (A.lit (0 : Int)))])))]))))) := by kernel_rfl
def rSmall : R0 := fun args l =>
  match args, l with
  | [.int .i64 (.sym n)], [] => some (some (0 ≤ n ∧ n < 18446744073709551616), .agg [.int .u64 (.sym n), .int .u64 (.sym 0), .int .u64 (.sym 0), .int .u64 (.sym 0)])
  | _, _ => none
theorem Small_ok (args : List SV) (l : List (Nat × Reg)) (p : Ob) (v : SV) (h : rSmall args l = some (p, v)) (hp : p.ok) : ∃ U, execF cxE U Tryd.f42 64 args (memL l) fun v' _ => ∀ β u, Den β v' u → Den β v u := by
  unfold rSmall at h
  split at h
  · rename_i n
    simp only [Option.some.injEq, Prod.mk.injEq] at h
    obtain ⟨rfl, rfl⟩ := h
    have hp : 0 ≤ n ∧ n < 18446744073709551616 := hp
    refine ⟨u9, ?_⟩
    rw [vc_small, wu64]
    intro x h
    rw [Int.emod_eq_of_lt hp.1 hp.2] at h
    subst x
    intro β u hu
    exact hu
  · cases h
def cSmall : Rd Tryd.prog := mkQ mixed 42 Tryd.func42 (by decide) (by kernel_rfl) [] [.num] rSmall Small_ok
def cxO : Cx Tryd.prog := { rds := [cSmall], efs := [], eqs := [] }
theorem vc_one (n : Int) (K : SV → Mem → Prop) : (execF cxO u9 Tryd.f15 64 [.int .i64 (.sym n)] (memL []) K) =
  (((((0 : Int) ≤ n) ∧
 (n < (18446744073709551616 : Int))) ∧
 (∀ (x0 : Int), ((x0 = n) → (∀ (x1 : Int), ((x1 = (0 : Int)) → (∀ (x2 : Int), ((x2 = (0 : Int)) → (∀ (x3 : Int), ((x3 = (0 : Int)) → (K (SV.agg [(SV.int IntKind.u64 (A.sym x0)), (SV.int IntKind.u64 (A.sym x1)), (SV.int IntKind.u64 (A.sym x2)), (SV.int IntKind.u64 (A.sym x3)), (SV.int IntKind.u64 (A.lit (0 : Int))), (SV.int IntKind.u64 (A.lit (0 : Int))), (SV.int IntKind.u64 (A.lit (0 : Int))), (SV.int IntKind.u64 (A.lit (0 : Int)))]) (memL [((513 : Nat), (Reg.mk Bool.false (Ct.cells [(SV.int IntKind.u64 (A.sym x0)), (SV.int IntKind.u64 (A.sym x1)), (SV.int IntKind.u64 (A.sym x2)), (SV.int IntKind.u64 (A.sym x3)), (SV.int IntKind.u64 (A.lit (0 : Int))), (SV.int IntKind.u64 (A.lit (0 : Int))), (SV.int IntKind.u64 (A.lit (0 : Int))), (SV.int IntKind.u64 (A.lit (0 : Int)))])))])))))))))))) := by kernel_rfl
def rOne : R0 := fun args l =>
  match args, l with
  | [.int .i64 (.sym n)], [] => some (some (0 ≤ n ∧ n < 18446744073709551616), agF n 0 0 0)
  | _, _ => none
theorem One_ok (args : List SV) (l : List (Nat × Reg)) (p : Ob) (v : SV) (h : rOne args l = some (p, v)) (hp : p.ok) : ∃ U, execF cxO U Tryd.f15 64 args (memL l) fun v' _ => ∀ β u, Den β v' u → Den β v u := by
  unfold rOne at h
  split at h
  · rename_i n
    simp only [Option.some.injEq, Prod.mk.injEq] at h
    obtain ⟨rfl, rfl⟩ := h
    have hp : 0 ≤ n ∧ n < 18446744073709551616 := hp
    refine ⟨u9, ?_⟩
    rw [vc_one]
    refine ⟨hp, ?_⟩
    intro s0 k0 s1 k1 s2 k2 s3 k3; subst s0 s1 s2 s3
    intro β u hu
    exact hu
  · cases h
def cOne : Rd Tryd.prog := mkQ mixed 15 Tryd.func15 (by decide) (by kernel_rfl) [] [.num] rOne One_ok
def cxE2 : Cx Tryd.prog := { rds := [cRt], efs := [], eqs := [eq23] }
theorem vc_sign (a0 a1 a2 a3 : Int) (K : SV → Mem → Prop) : (execF cxE2 u9 Tryd.f38 64 [agF a0 a1 a2 a3] (memL []) K) =
  ((∀ (x0 : Int), ((x0 = a0) → (∀ (x1 : Int), ((x1 = a1) → (∀ (x2 : Int), ((x2 = a2) → (∀ (x3 : Int), ((x3 = a3) → ((((decide ([x0, x1, x2, x3] = [(0 : Int), (0 : Int), (0 : Int), (0 : Int)])) = Bool.true) → (∀ (x4 : Int), ((x4 = (0 : Int)) → (K (SV.int IntKind.u64 (A.sym x4)) (memL [((513 : Nat), (Reg.mk Bool.false (Ct.cells [(SV.int IntKind.u64 (A.sym a0)), (SV.int IntKind.u64 (A.sym a1)), (SV.int IntKind.u64 (A.sym a2)), (SV.int IntKind.u64 (A.sym a3)), (SV.int IntKind.u64 (A.sym (0 : Int))), (SV.int IntKind.u64 (A.sym (0 : Int))), (SV.int IntKind.u64 (A.sym (0 : Int))), (SV.int IntKind.u64 (A.sym (0 : Int)))])))]))))) ∧
 (((decide ([x0, x1, x2, x3] = [(0 : Int), (0 : Int), (0 : Int), (0 : Int)])) = Bool.false) → (∀ (x5 : Int), ((x5 = (Int.tmod a0 (2 : Int))) → (K (SV.int IntKind.u64 (A.sym x5)) (memL [((513 : Nat), (Reg.mk Bool.false (Ct.cells [(SV.int IntKind.u64 (A.sym a0)), (SV.int IntKind.u64 (A.sym a1)), (SV.int IntKind.u64 (A.sym a2)), (SV.int IntKind.u64 (A.sym a3)), (SV.int IntKind.u64 (A.sym (0 : Int))), (SV.int IntKind.u64 (A.sym (0 : Int))), (SV.int IntKind.u64 (A.sym (0 : Int))), (SV.int IntKind.u64 (A.sym (0 : Int)))])))]))))))))))))))) := by kernel_rfl
theorem vc_roote (a0 a1 a2 a3 : Int) (K : SV → Mem → Prop) : (execF cxE2 u9 Tryd.f36 64 [agF a0 a1 a2 a3] (memL []) K) =
  ((∀ (x0 : Int), ((x0 = (0 : Int)) → (∀ (x1 : Int), ((x1 = (0 : Int)) → (∀ (x2 : Int), ((x2 = (0 : Int)) → (∀ (x3 : Int), ((x3 = (0 : Int)) → ((((decide ([x0, x1, x2, x3] = [(0 : Int), (0 : Int), (0 : Int), (0 : Int)])) = Bool.true) → (∀ (x4 : Int), ((x4 = a0) → (∀ (x5 : Int), ((x5 = a1) → (∀ (x6 : Int), ((x6 = a2) → (∀ (x7 : Int), ((x7 = a3) → (((Wd x4) ∧
 ((Wd x5) ∧
 ((Wd x6) ∧
 (Wd x7)))) ∧
 ((((sqN (Int.toNat (V4 x4 x5 x6 x7))) = Bool.true) → (∀ (x8 : Int), ((x8 = (lm (rtN (Int.toNat (V4 x4 x5 x6 x7))) (0 : Nat))) → (∀ (x9 : Int), ((x9 = (lm (rtN (Int.toNat (V4 x4 x5 x6 x7))) (1 : Nat))) → (∀ (x10 : Int), ((x10 = (lm (rtN (Int.toNat (V4 x4 x5 x6 x7))) (2 : Nat))) → (∀ (x11 : Int), ((x11 = (lm (rtN (Int.toNat (V4 x4 x5 x6 x7))) (3 : Nat))) → (K (SV.tup [(SV.agg [(SV.int IntKind.u64 (A.sym x8)), (SV.int IntKind.u64 (A.sym x9)), (SV.int IntKind.u64 (A.sym x10)), (SV.int IntKind.u64 (A.sym x11)), (SV.int IntKind.u64 (A.lit (0 : Int))), (SV.int IntKind.u64 (A.lit (0 : Int))), (SV.int IntKind.u64 (A.lit (0 : Int))), (SV.int IntKind.u64 (A.lit (0 : Int)))]), (SV.bool (B.lit Bool.true))]) (memL [((513 : Nat), (Reg.mk Bool.false (Ct.cells [(SV.int IntKind.u64 (A.sym a0)), (SV.int IntKind.u64 (A.sym a1)), (SV.int IntKind.u64 (A.sym a2)), (SV.int IntKind.u64 (A.sym a3)), (SV.int IntKind.u64 (A.sym (0 : Int))), (SV.int IntKind.u64 (A.sym (0 : Int))), (SV.int IntKind.u64 (A.sym (0 : Int))), (SV.int IntKind.u64 (A.sym (0 : Int)))]))), ((521 : Nat), (Reg.mk Bool.false (Ct.cells [(SV.int IntKind.u64 (A.sym x8)), (SV.int IntKind.u64 (A.sym x9)), (SV.int IntKind.u64 (A.sym x10)), (SV.int IntKind.u64 (A.sym x11)), (SV.int IntKind.u64 (A.lit (0 : Int))), (SV.int IntKind.u64 (A.lit (0 : Int))), (SV.int IntKind.u64 (A.lit (0 : Int))), (SV.int IntKind.u64 (A.lit (0 : Int)))]))), ((617 : Nat), (Reg.mk Bool.false (Ct.cells [(SV.int IntKind.u64 (A.sym (lm (rtN (Int.toNat (V4 x4 x5 x6 x7))) (0 : Nat)))), (SV.int IntKind.u64 (A.sym (lm (rtN (Int.toNat (V4 x4 x5 x6 x7))) (1 : Nat)))), (SV.int IntKind.u64 (A.sym (lm (rtN (Int.toNat (V4 x4 x5 x6 x7))) (2 : Nat)))), (SV.int IntKind.u64 (A.sym (lm (rtN (Int.toNat (V4 x4 x5 x6 x7))) (3 : Nat))))])))]))))))))))) ∧
 (((sqN (Int.toNat (V4 x4 x5 x6 x7))) = Bool.false) → (∀ (x12 : Int), ((x12 = a0) → (∀ (x13 : Int), ((x13 = a1) → (∀ (x14 : Int), ((x14 = a2) → (∀ (x15 : Int), ((x15 = a3) → False)))))))))))))))))))) ∧
 (((decide ([x0, x1, x2, x3] = [(0 : Int), (0 : Int), (0 : Int), (0 : Int)])) = Bool.false) → False))))))))))) := by kernel_rfl
theorem vc_issq (a0 a1 a2 a3 : Int) (K : SV → Mem → Prop) : (execF cxE2 u9 Tryd.f41 64 [agF a0 a1 a2 a3, .bool (.lit true)] (memL []) K) =
  ((∀ (x0 : Int), ((x0 = a0) → (∀ (x1 : Int), ((x1 = a1) → (∀ (x2 : Int), ((x2 = a2) → (∀ (x3 : Int), ((x3 = a3) → (((Wd x0) ∧
 ((Wd x1) ∧
 ((Wd x2) ∧
 (Wd x3)))) ∧
 (K (SV.bool (B.sym (sqN (Int.toNat (V4 x0 x1 x2 x3))))) (memL [((513 : Nat), (Reg.mk Bool.false (Ct.cells [(SV.int IntKind.u64 (A.sym a0)), (SV.int IntKind.u64 (A.sym a1)), (SV.int IntKind.u64 (A.sym a2)), (SV.int IntKind.u64 (A.sym a3)), (SV.int IntKind.u64 (A.sym (0 : Int))), (SV.int IntKind.u64 (A.sym (0 : Int))), (SV.int IntKind.u64 (A.sym (0 : Int))), (SV.int IntKind.u64 (A.sym (0 : Int)))]))), ((585 : Nat), (Reg.mk Bool.false (Ct.cells [(SV.int IntKind.u64 (A.sym (lm (rtN (Int.toNat (V4 x0 x1 x2 x3))) (0 : Nat)))), (SV.int IntKind.u64 (A.sym (lm (rtN (Int.toNat (V4 x0 x1 x2 x3))) (1 : Nat)))), (SV.int IntKind.u64 (A.sym (lm (rtN (Int.toNat (V4 x0 x1 x2 x3))) (2 : Nat)))), (SV.int IntKind.u64 (A.sym (lm (rtN (Int.toNat (V4 x0 x1 x2 x3))) (3 : Nat))))])))])))))))))))) := by kernel_rfl
def rSign : R0 := fun args l =>
  match args, l with
  | [.agg [.int .u64 (.sym a0), .int .u64 (.sym a1), .int .u64 (.sym a2), .int .u64 (.sym a3), .int .u64 (.sym a4), .int .u64 (.sym a5), .int .u64 (.sym a6), .int .u64 (.sym a7)]], [] => some (some ((Wd a0 ∧ Wd a1 ∧ Wd a2 ∧ Wd a3) ∧ (a4 = 0 ∧ a5 = 0 ∧ a6 = 0 ∧ a7 = 0)), .int .u64 (.sym (((V4 a0 a1 a2 a3).toNat % 2 : Nat) : Int)))
  | _, _ => none
theorem Sign_ok (args : List SV) (l : List (Nat × Reg)) (p : Ob) (v : SV) (h : rSign args l = some (p, v)) (hp : p.ok) : ∃ U, execF cxE2 U Tryd.f38 64 args (memL l) fun v' _ => v' = v := by
  unfold rSign at h
  split at h
  · rename_i a0 a1 a2 a3 a4 a5 a6 a7
    simp only [Option.some.injEq, Prod.mk.injEq] at h
    obtain ⟨rfl, rfl⟩ := h
    have hp : (Wd a0 ∧ Wd a1 ∧ Wd a2 ∧ Wd a3) ∧ (a4 = 0 ∧ a5 = 0 ∧ a6 = 0 ∧ a7 = 0) := hp
    obtain ⟨wa, z0, z1, z2, z3⟩ := hp
    subst z0 z1 z2 z3
    have A := ws_of wa.1 wa.2.1 wa.2.2.1 wa.2.2.2
    refine ⟨u9, ?_⟩
    have := vc_sign a0 a1 a2 a3 fun v' _ => v' = .int .u64 (.sym (((V4 a0 a1 a2 a3).toNat % 2 : Nat) : Int))
    unfold agF at this
    refine this.mpr ?_
    clear this
    intro s0 k0 s1 k1 s2 k2 s3 k3; subst s0 s1 s2 s3
    refine ⟨fun h s k => ?_, fun h s k => ?_⟩
    · have e := (list_lit A 0 (by decide) (by decide)).1 (of_decide_eq_true h)
      rw [k, show (V4 a0 a1 a2 a3).toNat = 0 by omega]
      rfl
    · rw [k, par A]
  · cases h
def cSign : Rd Tryd.prog := mkR mixed 38 Tryd.func38 (by decide) (by kernel_rfl) [] [.num] rSign Sign_ok
def rRe : R0 := fun args l =>
  match args, l with
  | [.agg [.int .u64 (.sym a0), .int .u64 (.sym a1), .int .u64 (.sym a2), .int .u64 (.sym a3), .int .u64 (.sym a4), .int .u64 (.sym a5), .int .u64 (.sym a6), .int .u64 (.sym a7)]], [] => some (some (((Wd a0 ∧ Wd a1 ∧ Wd a2 ∧ Wd a3) ∧ (a4 = 0 ∧ a5 = 0 ∧ a6 = 0 ∧ a7 = 0)) ∧ sqN (V4 a0 a1 a2 a3).toNat = true), .tup [agF (lm (rtN (V4 a0 a1 a2 a3).toNat) 0) (lm (rtN (V4 a0 a1 a2 a3).toNat) 1) (lm (rtN (V4 a0 a1 a2 a3).toNat) 2) (lm (rtN (V4 a0 a1 a2 a3).toNat) 3), .bool (.sym true)])
  | _, _ => none
theorem Re_ok (args : List SV) (l : List (Nat × Reg)) (p : Ob) (v : SV) (h : rRe args l = some (p, v)) (hp : p.ok) : ∃ U, execF cxE2 U Tryd.f36 64 args (memL l) fun v' _ => ∀ β u, Den β v' u → Den β v u := by
  unfold rRe at h
  split at h
  · rename_i a0 a1 a2 a3 a4 a5 a6 a7
    simp only [Option.some.injEq, Prod.mk.injEq] at h
    obtain ⟨rfl, rfl⟩ := h
    have hp : ((Wd a0 ∧ Wd a1 ∧ Wd a2 ∧ Wd a3) ∧ (a4 = 0 ∧ a5 = 0 ∧ a6 = 0 ∧ a7 = 0)) ∧ sqN (V4 a0 a1 a2 a3).toNat = true := hp
    obtain ⟨⟨wa, z0, z1, z2, z3⟩, hs⟩ := hp
    subst z0 z1 z2 z3
    refine ⟨u9, ?_⟩
    have := vc_roote a0 a1 a2 a3 fun v' _ => ∀ β u, Den β v' u → Den β (.tup [agF (lm (rtN (V4 a0 a1 a2 a3).toNat) 0) (lm (rtN (V4 a0 a1 a2 a3).toNat) 1) (lm (rtN (V4 a0 a1 a2 a3).toNat) 2) (lm (rtN (V4 a0 a1 a2 a3).toNat) 3), .bool (.sym true)]) u
    unfold agF at this
    refine this.mpr ?_
    clear this
    intro s0 k0 s1 k1 s2 k2 s3 k3; subst s0 s1 s2 s3
    refine ⟨fun _ => ?_, fun h => absurd h (by decide)⟩
    intro s0 k0 s1 k1 s2 k2 s3 k3; subst s0 s1 s2 s3
    refine ⟨wa, fun _ => ?_, fun h => ?_⟩
    · intro s0 k0 s1 k1 s2 k2 s3 k3; subst s0 s1 s2 s3
      intro β u hu
      exact hu
    · rw [hs] at h
      exact absurd h (by decide)
  · cases h
def cRe : Rd Tryd.prog := mkQ mixed 36 Tryd.func36 (by decide) (by kernel_rfl) [] [.num] rRe Re_ok
def rIs : R0 := fun args l =>
  match args, l with
  | [.agg [.int .u64 (.sym a0), .int .u64 (.sym a1), .int .u64 (.sym a2), .int .u64 (.sym a3), .int .u64 (.sym a4), .int .u64 (.sym a5), .int .u64 (.sym a6), .int .u64 (.sym a7)], .bool (.lit true)], [] => some (some ((Wd a0 ∧ Wd a1 ∧ Wd a2 ∧ Wd a3) ∧ (a4 = 0 ∧ a5 = 0 ∧ a6 = 0 ∧ a7 = 0)), .bool (.sym (sqN (V4 a0 a1 a2 a3).toNat)))
  | _, _ => none
theorem Is_ok (args : List SV) (l : List (Nat × Reg)) (p : Ob) (v : SV) (h : rIs args l = some (p, v)) (hp : p.ok) : ∃ U, execF cxE2 U Tryd.f41 64 args (memL l) fun v' _ => v' = v := by
  unfold rIs at h
  split at h
  · rename_i a0 a1 a2 a3 a4 a5 a6 a7
    simp only [Option.some.injEq, Prod.mk.injEq] at h
    obtain ⟨rfl, rfl⟩ := h
    have hp : (Wd a0 ∧ Wd a1 ∧ Wd a2 ∧ Wd a3) ∧ (a4 = 0 ∧ a5 = 0 ∧ a6 = 0 ∧ a7 = 0) := hp
    obtain ⟨wa, z0, z1, z2, z3⟩ := hp
    subst z0 z1 z2 z3
    refine ⟨u9, ?_⟩
    have := vc_issq a0 a1 a2 a3 fun v' _ => v' = .bool (.sym (sqN (V4 a0 a1 a2 a3).toNat))
    unfold agF at this
    refine this.mpr ?_
    clear this
    intro s0 k0 s1 k1 s2 k2 s3 k3; subst s0 s1 s2 s3
    exact ⟨wa, rfl⟩
  · cases h
def cIs : Rd Tryd.prog := mkR mixed 41 Tryd.func41 (by decide) (by kernel_rfl) [] [.num, .val] rIs Is_ok
def cxCv : Cx Tryd.prog := { rds := [cMule, cAdde], efs := [], eqs := [] }
theorem vc_cv (a0 a1 a2 a3 b0 b1 b2 b3 : Int) (K : SV → Mem → Prop) : (execF cxCv u9 Tryd.f34 64 [agF a0 a1 a2 a3, agF b0 b1 b2 b3] (memL []) K) =
  ((∀ (x0 : Int), ((x0 = a0) → (∀ (x1 : Int), ((x1 = a1) → (∀ (x2 : Int), ((x2 = a2) → (∀ (x3 : Int), ((x3 = a3) → (∀ (x4 : Int), ((x4 = (0 : Int)) → (∀ (x5 : Int), ((x5 = (0 : Int)) → (∀ (x6 : Int), ((x6 = (0 : Int)) → (∀ (x7 : Int), ((x7 = (0 : Int)) → (∀ (x8 : Int), ((x8 = a0) → (∀ (x9 : Int), ((x9 = a1) → (∀ (x10 : Int), ((x10 = a2) → (∀ (x11 : Int), ((x11 = a3) → (∀ (x12 : Int), ((x12 = (0 : Int)) → (∀ (x13 : Int), ((x13 = (0 : Int)) → (∀ (x14 : Int), ((x14 = (0 : Int)) → (∀ (x15 : Int), ((x15 = (0 : Int)) → (∀ (x16 : Int), ((x16 = a0) → (∀ (x17 : Int), ((x17 = a1) → (∀ (x18 : Int), ((x18 = a2) → (∀ (x19 : Int), ((x19 = a3) → (∀ (x20 : Int), ((x20 = (0 : Int)) → (∀ (x21 : Int), ((x21 = (0 : Int)) → (∀ (x22 : Int), ((x22 = (0 : Int)) → (∀ (x23 : Int), ((x23 = (0 : Int)) → ((((((Wd x8) ∧
 ((Wd x9) ∧
 ((Wd x10) ∧
 (Wd x11)))) ∧
 ((Wd x16) ∧
 ((Wd x17) ∧
 ((Wd x18) ∧
 (Wd x19))))) ∧
 (((V4 x8 x9 x10 x11) < (21888242871839275222246405745257275088696311157297823662689037894645226208583 : Int)) ∧
 ((V4 x16 x17 x18 x19) < (21888242871839275222246405745257275088696311157297823662689037894645226208583 : Int)))) ∧
 (((x12 = (0 : Int)) ∧
 ((x13 = (0 : Int)) ∧
 ((x14 = (0 : Int)) ∧
 (x15 = (0 : Int))))) ∧
 ((x20 = (0 : Int)) ∧
 ((x21 = (0 : Int)) ∧
 ((x22 = (0 : Int)) ∧
 (x23 = (0 : Int))))))) ∧
 (∀ (x24 : Int), ((x24 = (lm (((Int.toNat (V4 x8 x9 x10 x11)) * (Int.toNat (V4 x16 x17 x18 x19))) % (21888242871839275222246405745257275088696311157297823662689037894645226208583 : Nat)) (0 : Nat))) → (∀ (x25 : Int), ((x25 = (lm (((Int.toNat (V4 x8 x9 x10 x11)) * (Int.toNat (V4 x16 x17 x18 x19))) % (21888242871839275222246405745257275088696311157297823662689037894645226208583 : Nat)) (1 : Nat))) → (∀ (x26 : Int), ((x26 = (lm (((Int.toNat (V4 x8 x9 x10 x11)) * (Int.toNat (V4 x16 x17 x18 x19))) % (21888242871839275222246405745257275088696311157297823662689037894645226208583 : Nat)) (2 : Nat))) → (∀ (x27 : Int), ((x27 = (lm (((Int.toNat (V4 x8 x9 x10 x11)) * (Int.toNat (V4 x16 x17 x18 x19))) % (21888242871839275222246405745257275088696311157297823662689037894645226208583 : Nat)) (3 : Nat))) → (∀ (x28 : Int), ((x28 = (0 : Int)) → (∀ (x29 : Int), ((x29 = (0 : Int)) → (∀ (x30 : Int), ((x30 = (0 : Int)) → (∀ (x31 : Int), ((x31 = (0 : Int)) → ((((((Wd x0) ∧
 ((Wd x1) ∧
 ((Wd x2) ∧
 (Wd x3)))) ∧
 ((Wd x24) ∧
 ((Wd x25) ∧
 ((Wd x26) ∧
 (Wd x27))))) ∧
 (((V4 x0 x1 x2 x3) < (21888242871839275222246405745257275088696311157297823662689037894645226208583 : Int)) ∧
 ((V4 x24 x25 x26 x27) < (21888242871839275222246405745257275088696311157297823662689037894645226208583 : Int)))) ∧
 (((x4 = (0 : Int)) ∧
 ((x5 = (0 : Int)) ∧
 ((x6 = (0 : Int)) ∧
 (x7 = (0 : Int))))) ∧
 ((x28 = (0 : Int)) ∧
 ((x29 = (0 : Int)) ∧
 ((x30 = (0 : Int)) ∧
 (x31 = (0 : Int))))))) ∧
 (∀ (x32 : Int), ((x32 = (lm (((Int.toNat (V4 x0 x1 x2 x3)) * (Int.toNat (V4 x24 x25 x26 x27))) % (21888242871839275222246405745257275088696311157297823662689037894645226208583 : Nat)) (0 : Nat))) → (∀ (x33 : Int), ((x33 = (lm (((Int.toNat (V4 x0 x1 x2 x3)) * (Int.toNat (V4 x24 x25 x26 x27))) % (21888242871839275222246405745257275088696311157297823662689037894645226208583 : Nat)) (1 : Nat))) → (∀ (x34 : Int), ((x34 = (lm (((Int.toNat (V4 x0 x1 x2 x3)) * (Int.toNat (V4 x24 x25 x26 x27))) % (21888242871839275222246405745257275088696311157297823662689037894645226208583 : Nat)) (2 : Nat))) → (∀ (x35 : Int), ((x35 = (lm (((Int.toNat (V4 x0 x1 x2 x3)) * (Int.toNat (V4 x24 x25 x26 x27))) % (21888242871839275222246405745257275088696311157297823662689037894645226208583 : Nat)) (3 : Nat))) → (∀ (x36 : Int), ((x36 = (0 : Int)) → (∀ (x37 : Int), ((x37 = (0 : Int)) → (∀ (x38 : Int), ((x38 = (0 : Int)) → (∀ (x39 : Int), ((x39 = (0 : Int)) → (∀ (x40 : Int), ((x40 = b0) → (∀ (x41 : Int), ((x41 = b1) → (∀ (x42 : Int), ((x42 = b2) → (∀ (x43 : Int), ((x43 = b3) → (∀ (x44 : Int), ((x44 = (0 : Int)) → (∀ (x45 : Int), ((x45 = (0 : Int)) → (∀ (x46 : Int), ((x46 = (0 : Int)) → (∀ (x47 : Int), ((x47 = (0 : Int)) → ((((((Wd x32) ∧
 ((Wd x33) ∧
 ((Wd x34) ∧
 (Wd x35)))) ∧
 ((Wd x40) ∧
 ((Wd x41) ∧
 ((Wd x42) ∧
 (Wd x43))))) ∧
 (((V4 x32 x33 x34 x35) < (21888242871839275222246405745257275088696311157297823662689037894645226208583 : Int)) ∧
 ((V4 x40 x41 x42 x43) < (21888242871839275222246405745257275088696311157297823662689037894645226208583 : Int)))) ∧
 (((x36 = (0 : Int)) ∧
 ((x37 = (0 : Int)) ∧
 ((x38 = (0 : Int)) ∧
 (x39 = (0 : Int))))) ∧
 ((x44 = (0 : Int)) ∧
 ((x45 = (0 : Int)) ∧
 ((x46 = (0 : Int)) ∧
 (x47 = (0 : Int))))))) ∧
 (∀ (x48 : Int), ((x48 = (lm (((Int.toNat (V4 x32 x33 x34 x35)) + (Int.toNat (V4 x40 x41 x42 x43))) % (21888242871839275222246405745257275088696311157297823662689037894645226208583 : Nat)) (0 : Nat))) → (∀ (x49 : Int), ((x49 = (lm (((Int.toNat (V4 x32 x33 x34 x35)) + (Int.toNat (V4 x40 x41 x42 x43))) % (21888242871839275222246405745257275088696311157297823662689037894645226208583 : Nat)) (1 : Nat))) → (∀ (x50 : Int), ((x50 = (lm (((Int.toNat (V4 x32 x33 x34 x35)) + (Int.toNat (V4 x40 x41 x42 x43))) % (21888242871839275222246405745257275088696311157297823662689037894645226208583 : Nat)) (2 : Nat))) → (∀ (x51 : Int), ((x51 = (lm (((Int.toNat (V4 x32 x33 x34 x35)) + (Int.toNat (V4 x40 x41 x42 x43))) % (21888242871839275222246405745257275088696311157297823662689037894645226208583 : Nat)) (3 : Nat))) → (∀ (x52 : Int), ((x52 = (0 : Int)) → (∀ (x53 : Int), ((x53 = (0 : Int)) → (∀ (x54 : Int), ((x54 = (0 : Int)) → (∀ (x55 : Int), ((x55 = (0 : Int)) → (K (SV.agg [(SV.int IntKind.u64 (A.sym x48)), (SV.int IntKind.u64 (A.sym x49)), (SV.int IntKind.u64 (A.sym x50)), (SV.int IntKind.u64 (A.sym x51)), (SV.int IntKind.u64 (A.sym x52)), (SV.int IntKind.u64 (A.sym x53)), (SV.int IntKind.u64 (A.sym x54)), (SV.int IntKind.u64 (A.sym x55))]) (memL [((513 : Nat), (Reg.mk Bool.false (Ct.cells [(SV.int IntKind.u64 (A.sym a0)), (SV.int IntKind.u64 (A.sym a1)), (SV.int IntKind.u64 (A.sym a2)), (SV.int IntKind.u64 (A.sym a3)), (SV.int IntKind.u64 (A.sym (0 : Int))), (SV.int IntKind.u64 (A.sym (0 : Int))), (SV.int IntKind.u64 (A.sym (0 : Int))), (SV.int IntKind.u64 (A.sym (0 : Int)))]))), ((521 : Nat), (Reg.mk Bool.false (Ct.cells [(SV.int IntKind.u64 (A.sym b0)), (SV.int IntKind.u64 (A.sym b1)), (SV.int IntKind.u64 (A.sym b2)), (SV.int IntKind.u64 (A.sym b3)), (SV.int IntKind.u64 (A.sym (0 : Int))), (SV.int IntKind.u64 (A.sym (0 : Int))), (SV.int IntKind.u64 (A.sym (0 : Int))), (SV.int IntKind.u64 (A.sym (0 : Int)))]))), ((529 : Nat), (Reg.mk Bool.false (Ct.cells [(SV.int IntKind.u64 (A.sym x48)), (SV.int IntKind.u64 (A.sym x49)), (SV.int IntKind.u64 (A.sym x50)), (SV.int IntKind.u64 (A.sym x51)), (SV.int IntKind.u64 (A.sym x52)), (SV.int IntKind.u64 (A.sym x53)), (SV.int IntKind.u64 (A.sym x54)), (SV.int IntKind.u64 (A.sym x55))])))])))))))))))))))))))))))))))))))))))))))))))))))))))))))))))))))))))))))))))))))))))))))))))))))))))))))))))))))))))))) := by kernel_rfl
theorem cv_walk {A B : Nat} {a0 a1 a2 a3 b0 b1 b2 b3 : Int} {K : SV → Mem → Prop} (ha : Ws a0 a1 a2 a3 A) (hb : Ws b0 b1 b2 b3 B) (la : A < qN) (lb : B < qN) (hK : ∀ m, K (agF (lm ((A * (A * A % qN) % qN + B) % qN) 0) (lm ((A * (A * A % qN) % qN + B) % qN) 1) (lm ((A * (A * A % qN) % qN + B) % qN) 2) (lm ((A * (A * A % qN) % qN + B) % qN) 3)) m) :
    execF cxCv u9 Tryd.f34 64 [agF a0 a1 a2 a3, agF b0 b1 b2 b3] (memL []) K := by
  rw [vc_cv]
  obtain ⟨wa0, wa1, wa2, wa3⟩ := ha.wd
  obtain ⟨wb0, wb1, wb2, wb3⟩ := hb.wd
  have va := ha.val
  have vb := hb.val
  have la := lq la
  have lb := lq lb
  have e := qN_eq.symm
  simp only [e, wa0, wa1, wa2, wa3, wb0, wb1, wb2, wb3, va, vb, la, lb, forall_eq, lm_wd, wd0, Vq, Viv, Vrt, V0, adN, mlt, ilt, rlt, zlt, Int.toNat_natCast, and_true, true_and, and_self]
  exact hK _
def rCv : R0 := fun args l =>
  match args, l with
  | [.agg [.int .u64 (.sym a0), .int .u64 (.sym a1), .int .u64 (.sym a2), .int .u64 (.sym a3), .int .u64 (.sym a4), .int .u64 (.sym a5), .int .u64 (.sym a6), .int .u64 (.sym a7)], .agg [.int .u64 (.sym b0), .int .u64 (.sym b1), .int .u64 (.sym b2), .int .u64 (.sym b3), .int .u64 (.sym b4), .int .u64 (.sym b5), .int .u64 (.sym b6), .int .u64 (.sym b7)]], [] => some (some ((((Wd a0 ∧ Wd a1 ∧ Wd a2 ∧ Wd a3) ∧ (Wd b0 ∧ Wd b1 ∧ Wd b2 ∧ Wd b3)) ∧ (V4 a0 a1 a2 a3 < 21888242871839275222246405745257275088696311157297823662689037894645226208583 ∧ V4 b0 b1 b2 b3 < 21888242871839275222246405745257275088696311157297823662689037894645226208583)) ∧ (a4 = 0 ∧ a5 = 0 ∧ a6 = 0 ∧ a7 = 0) ∧ (b4 = 0 ∧ b5 = 0 ∧ b6 = 0 ∧ b7 = 0)), agF (lm (((V4 a0 a1 a2 a3).toNat * ((V4 a0 a1 a2 a3).toNat * (V4 a0 a1 a2 a3).toNat % qN) % qN + (V4 b0 b1 b2 b3).toNat) % qN) 0) (lm (((V4 a0 a1 a2 a3).toNat * ((V4 a0 a1 a2 a3).toNat * (V4 a0 a1 a2 a3).toNat % qN) % qN + (V4 b0 b1 b2 b3).toNat) % qN) 1) (lm (((V4 a0 a1 a2 a3).toNat * ((V4 a0 a1 a2 a3).toNat * (V4 a0 a1 a2 a3).toNat % qN) % qN + (V4 b0 b1 b2 b3).toNat) % qN) 2) (lm (((V4 a0 a1 a2 a3).toNat * ((V4 a0 a1 a2 a3).toNat * (V4 a0 a1 a2 a3).toNat % qN) % qN + (V4 b0 b1 b2 b3).toNat) % qN) 3))
  | _, _ => none
theorem Cv_ok (args : List SV) (l : List (Nat × Reg)) (p : Ob) (v : SV) (h : rCv args l = some (p, v)) (hp : p.ok) : ∃ U, execF cxCv U Tryd.f34 64 args (memL l) fun v' _ => v' = v := by
  unfold rCv at h
  split at h
  · rename_i a0 a1 a2 a3 a4 a5 a6 a7 b0 b1 b2 b3 b4 b5 b6 b7
    simp only [Option.some.injEq, Prod.mk.injEq] at h
    obtain ⟨rfl, rfl⟩ := h
    have hp : (((Wd a0 ∧ Wd a1 ∧ Wd a2 ∧ Wd a3) ∧ (Wd b0 ∧ Wd b1 ∧ Wd b2 ∧ Wd b3)) ∧ (V4 a0 a1 a2 a3 < 21888242871839275222246405745257275088696311157297823662689037894645226208583 ∧ V4 b0 b1 b2 b3 < 21888242871839275222246405745257275088696311157297823662689037894645226208583)) ∧ (a4 = 0 ∧ a5 = 0 ∧ a6 = 0 ∧ a7 = 0) ∧ (b4 = 0 ∧ b5 = 0 ∧ b6 = 0 ∧ b7 = 0) := hp
    obtain ⟨⟨⟨wa, wb⟩, la, lb⟩, ⟨z0, z1, z2, z3⟩, z4, z5, z6, z7⟩ := hp
    subst z0 z1 z2 z3 z4 z5 z6 z7
    have A := ws_of wa.1 wa.2.1 wa.2.2.1 wa.2.2.2
    have B := ws_of wb.1 wb.2.1 wb.2.2.1 wb.2.2.2
    have ea := Ws.val A
    have eb := Ws.val B
    exact ⟨_, cv_walk A B (by unfold qN; omega) (by unfold qN; omega) fun _ => rfl⟩
  · cases h
def cCv : Rd Tryd.prog := mkR mixed 34 Tryd.func34 (by decide) (by kernel_rfl) [] [.num, .num] rCv Cv_ok
end Go.Sx

/- spec.start: the loops. -/
namespace Go.Sx
open Go Go.Proofs Go.Num
set_option maxRecDepth 100000
def cxSt : Cx Tryd.prog := { rds := [cOne, cSube, cCv, cMule, cInve, cIs], efs := [], eqs := [eq43] }
def liNo : LI := { ι := Nat, keep := [], keepR := [], F := fun _ => ⟨[], []⟩, I := fun _ _ => False, μ := fun _ => 0, k := 0 }
def uSt : Nat → Lp := fun _ => .peel liNo
end Go.Sx

/- spec.start finds Z = 1. -/
namespace Go.Sx
open Go Go.Proofs Go.Num
set_option maxRecDepth 100000
instance (x : Int) : Decidable (Wd x) := by unfold Wd; infer_instance
theorem vc_st (K : SV → Mem → Prop) : (execF cxSt uSt Tryd.f33 64 [agF 3 0 0 0, .bool (.lit true)] (memL []) K) =
  (((((0 : Int) ≤ (1 : Int)) ∧
 ((1 : Int) < (18446744073709551616 : Int))) ∧
 (∀ (x0 : Int), ((x0 = (1 : Int)) → (∀ (x1 : Int), ((x1 = (0 : Int)) → (∀ (x2 : Int), ((x2 = (0 : Int)) → (∀ (x3 : Int), ((x3 = (0 : Int)) → (∀ (x4 : Int), ((x4 = (0 : Int)) → (∀ (x5 : Int), ((x5 = (0 : Int)) → (∀ (x6 : Int), ((x6 = (0 : Int)) → (∀ (x7 : Int), ((x7 = (0 : Int)) → ((((0 : Int) ≤ (1 : Int)) ∧
 ((1 : Int) < (18446744073709551616 : Int))) ∧
 (∀ (x8 : Int), ((x8 = (1 : Int)) → (∀ (x9 : Int), ((x9 = (0 : Int)) → (∀ (x10 : Int), ((x10 = (0 : Int)) → (∀ (x11 : Int), ((x11 = (0 : Int)) → (∀ (x12 : Int), ((x12 = (0 : Int)) → (∀ (x13 : Int), ((x13 = (0 : Int)) → (∀ (x14 : Int), ((x14 = (0 : Int)) → (∀ (x15 : Int), ((x15 = (0 : Int)) → ((((((Wd (0 : Int)) ∧
 ((Wd (0 : Int)) ∧
 ((Wd (0 : Int)) ∧
 (Wd (0 : Int))))) ∧
 ((Wd x8) ∧
 ((Wd x9) ∧
 ((Wd x10) ∧
 (Wd x11))))) ∧
 (((0 : Int) < (21888242871839275222246405745257275088696311157297823662689037894645226208583 : Int)) ∧
 ((V4 x8 x9 x10 x11) < (21888242871839275222246405745257275088696311157297823662689037894645226208583 : Int)))) ∧
 ((((0 : Int) = (0 : Int)) ∧
 (((0 : Int) = (0 : Int)) ∧
 (((0 : Int) = (0 : Int)) ∧
 ((0 : Int) = (0 : Int))))) ∧
 ((x12 = (0 : Int)) ∧
 ((x13 = (0 : Int)) ∧
 ((x14 = (0 : Int)) ∧
 (x15 = (0 : Int))))))) ∧
 (∀ (x16 : Int), ((x16 = (lm (((0 : Nat) + ((21888242871839275222246405745257275088696311157297823662689037894645226208583 : Nat) - (Int.toNat (V4 x8 x9 x10 x11)))) % (21888242871839275222246405745257275088696311157297823662689037894645226208583 : Nat)) (0 : Nat))) → (∀ (x17 : Int), ((x17 = (lm (((0 : Nat) + ((21888242871839275222246405745257275088696311157297823662689037894645226208583 : Nat) - (Int.toNat (V4 x8 x9 x10 x11)))) % (21888242871839275222246405745257275088696311157297823662689037894645226208583 : Nat)) (1 : Nat))) → (∀ (x18 : Int), ((x18 = (lm (((0 : Nat) + ((21888242871839275222246405745257275088696311157297823662689037894645226208583 : Nat) - (Int.toNat (V4 x8 x9 x10 x11)))) % (21888242871839275222246405745257275088696311157297823662689037894645226208583 : Nat)) (2 : Nat))) → (∀ (x19 : Int), ((x19 = (lm (((0 : Nat) + ((21888242871839275222246405745257275088696311157297823662689037894645226208583 : Nat) - (Int.toNat (V4 x8 x9 x10 x11)))) % (21888242871839275222246405745257275088696311157297823662689037894645226208583 : Nat)) (3 : Nat))) → (∀ (x20 : Int), ((x20 = (0 : Int)) → (∀ (x21 : Int), ((x21 = (0 : Int)) → (∀ (x22 : Int), ((x22 = (0 : Int)) → (∀ (x23 : Int), ((x23 = (0 : Int)) → (∀ (x24 : Int), ((x24 = x0) → (∀ (x25 : Int), ((x25 = x1) → (∀ (x26 : Int), ((x26 = x2) → (∀ (x27 : Int), ((x27 = x3) → (∀ (x28 : Int), ((x28 = x4) → (∀ (x29 : Int), ((x29 = x5) → (∀ (x30 : Int), ((x30 = x6) → (∀ (x31 : Int), ((x31 = x7) → (∀ (x32 : Int), ((x32 = x24) → (∀ (x33 : Int), ((x33 = x25) → (∀ (x34 : Int), ((x34 = x26) → (∀ (x35 : Int), ((x35 = x27) → (∀ (x36 : Int), ((x36 = x28) → (∀ (x37 : Int), ((x37 = x29) → (∀ (x38 : Int), ((x38 = x30) → (∀ (x39 : Int), ((x39 = x31) → (∀ (x40 : Int), ((x40 = (3 : Int)) → (∀ (x41 : Int), ((x41 = (0 : Int)) → (∀ (x42 : Int), ((x42 = (0 : Int)) → (∀ (x43 : Int), ((x43 = (0 : Int)) → (∀ (x44 : Int), ((x44 = (0 : Int)) → (∀ (x45 : Int), ((x45 = (0 : Int)) → (∀ (x46 : Int), ((x46 = (0 : Int)) → (∀ (x47 : Int), ((x47 = (0 : Int)) → ((((((Wd x32) ∧
 ((Wd x33) ∧
 ((Wd x34) ∧
 (Wd x35)))) ∧
 ((Wd x40) ∧
 ((Wd x41) ∧
 ((Wd x42) ∧
 (Wd x43))))) ∧
 (((V4 x32 x33 x34 x35) < (21888242871839275222246405745257275088696311157297823662689037894645226208583 : Int)) ∧
 ((V4 x40 x41 x42 x43) < (21888242871839275222246405745257275088696311157297823662689037894645226208583 : Int)))) ∧
 (((x36 = (0 : Int)) ∧
 ((x37 = (0 : Int)) ∧
 ((x38 = (0 : Int)) ∧
 (x39 = (0 : Int))))) ∧
 ((x44 = (0 : Int)) ∧
 ((x45 = (0 : Int)) ∧
 ((x46 = (0 : Int)) ∧
 (x47 = (0 : Int))))))) ∧
 (∀ (x48 : Int), ((x48 = (lm (((((Int.toNat (V4 x32 x33 x34 x35)) * (((Int.toNat (V4 x32 x33 x34 x35)) * (Int.toNat (V4 x32 x33 x34 x35))) % (21888242871839275222246405745257275088696311157297823662689037894645226208583 : Nat))) % (21888242871839275222246405745257275088696311157297823662689037894645226208583 : Nat)) + (Int.toNat (V4 x40 x41 x42 x43))) % (21888242871839275222246405745257275088696311157297823662689037894645226208583 : Nat)) (0 : Nat))) → (∀ (x49 : Int), ((x49 = (lm (((((Int.toNat (V4 x32 x33 x34 x35)) * (((Int.toNat (V4 x32 x33 x34 x35)) * (Int.toNat (V4 x32 x33 x34 x35))) % (21888242871839275222246405745257275088696311157297823662689037894645226208583 : Nat))) % (21888242871839275222246405745257275088696311157297823662689037894645226208583 : Nat)) + (Int.toNat (V4 x40 x41 x42 x43))) % (21888242871839275222246405745257275088696311157297823662689037894645226208583 : Nat)) (1 : Nat))) → (∀ (x50 : Int), ((x50 = (lm (((((Int.toNat (V4 x32 x33 x34 x35)) * (((Int.toNat (V4 x32 x33 x34 x35)) * (Int.toNat (V4 x32 x33 x34 x35))) % (21888242871839275222246405745257275088696311157297823662689037894645226208583 : Nat))) % (21888242871839275222246405745257275088696311157297823662689037894645226208583 : Nat)) + (Int.toNat (V4 x40 x41 x42 x43))) % (21888242871839275222246405745257275088696311157297823662689037894645226208583 : Nat)) (2 : Nat))) → (∀ (x51 : Int), ((x51 = (lm (((((Int.toNat (V4 x32 x33 x34 x35)) * (((Int.toNat (V4 x32 x33 x34 x35)) * (Int.toNat (V4 x32 x33 x34 x35))) % (21888242871839275222246405745257275088696311157297823662689037894645226208583 : Nat))) % (21888242871839275222246405745257275088696311157297823662689037894645226208583 : Nat)) + (Int.toNat (V4 x40 x41 x42 x43))) % (21888242871839275222246405745257275088696311157297823662689037894645226208583 : Nat)) (3 : Nat))) → (∀ (x52 : Int), ((x52 = (0 : Int)) → (∀ (x53 : Int), ((x53 = (0 : Int)) → (∀ (x54 : Int), ((x54 = (0 : Int)) → (∀ (x55 : Int), ((x55 = (0 : Int)) → (∀ (x56 : Int), ((x56 = x48) → (∀ (x57 : Int), ((x57 = x49) → (∀ (x58 : Int), ((x58 = x50) → (∀ (x59 : Int), ((x59 = x51) → (∀ (x60 : Int), ((x60 = x52) → (∀ (x61 : Int), ((x61 = x53) → (∀ (x62 : Int), ((x62 = x54) → (∀ (x63 : Int), ((x63 = x55) → ((((decide ([x56, x57, x58, x59, x60, x61, x62, x63] = [(0 : Int), (0 : Int), (0 : Int), (0 : Int), (0 : Int), (0 : Int), (0 : Int), (0 : Int)])) = Bool.true) → ((∃ (i064 : Nat), (False ∧
 True)) ∧
 (Nat → (False → False)))) ∧
 (((decide ([x56, x57, x58, x59, x60, x61, x62, x63] = [(0 : Int), (0 : Int), (0 : Int), (0 : Int), (0 : Int), (0 : Int), (0 : Int), (0 : Int)])) = Bool.false) → ((((0 : Int) ≤ (3 : Int)) ∧
 ((3 : Int) < (18446744073709551616 : Int))) ∧
 (∀ (x65 : Int), ((x65 = (3 : Int)) → (∀ (x66 : Int), ((x66 = (0 : Int)) → (∀ (x67 : Int), ((x67 = (0 : Int)) → (∀ (x68 : Int), ((x68 = (0 : Int)) → (∀ (x69 : Int), ((x69 = (0 : Int)) → (∀ (x70 : Int), ((x70 = (0 : Int)) → (∀ (x71 : Int), ((x71 = (0 : Int)) → (∀ (x72 : Int), ((x72 = (0 : Int)) → (∀ (x73 : Int), ((x73 = x24) → (∀ (x74 : Int), ((x74 = x25) → (∀ (x75 : Int), ((x75 = x26) → (∀ (x76 : Int), ((x76 = x27) → (∀ (x77 : Int), ((x77 = x28) → (∀ (x78 : Int), ((x78 = x29) → (∀ (x79 : Int), ((x79 = x30) → (∀ (x80 : Int), ((x80 = x31) → (∀ (x81 : Int), ((x81 = x24) → (∀ (x82 : Int), ((x82 = x25) → (∀ (x83 : Int), ((x83 = x26) → (∀ (x84 : Int), ((x84 = x27) → (∀ (x85 : Int), ((x85 = x28) → (∀ (x86 : Int), ((x86 = x29) → (∀ (x87 : Int), ((x87 = x30) → (∀ (x88 : Int), ((x88 = x31) → ((((((Wd x73) ∧
 ((Wd x74) ∧
 ((Wd x75) ∧
 (Wd x76)))) ∧
 ((Wd x81) ∧
 ((Wd x82) ∧
 ((Wd x83) ∧
 (Wd x84))))) ∧
 (((V4 x73 x74 x75 x76) < (21888242871839275222246405745257275088696311157297823662689037894645226208583 : Int)) ∧
 ((V4 x81 x82 x83 x84) < (21888242871839275222246405745257275088696311157297823662689037894645226208583 : Int)))) ∧
 (((x77 = (0 : Int)) ∧
 ((x78 = (0 : Int)) ∧
 ((x79 = (0 : Int)) ∧
 (x80 = (0 : Int))))) ∧
 ((x85 = (0 : Int)) ∧
 ((x86 = (0 : Int)) ∧
 ((x87 = (0 : Int)) ∧
 (x88 = (0 : Int))))))) ∧
 (∀ (x89 : Int), ((x89 = (lm (((Int.toNat (V4 x73 x74 x75 x76)) * (Int.toNat (V4 x81 x82 x83 x84))) % (21888242871839275222246405745257275088696311157297823662689037894645226208583 : Nat)) (0 : Nat))) → (∀ (x90 : Int), ((x90 = (lm (((Int.toNat (V4 x73 x74 x75 x76)) * (Int.toNat (V4 x81 x82 x83 x84))) % (21888242871839275222246405745257275088696311157297823662689037894645226208583 : Nat)) (1 : Nat))) → (∀ (x91 : Int), ((x91 = (lm (((Int.toNat (V4 x73 x74 x75 x76)) * (Int.toNat (V4 x81 x82 x83 x84))) % (21888242871839275222246405745257275088696311157297823662689037894645226208583 : Nat)) (2 : Nat))) → (∀ (x92 : Int), ((x92 = (lm (((Int.toNat (V4 x73 x74 x75 x76)) * (Int.toNat (V4 x81 x82 x83 x84))) % (21888242871839275222246405745257275088696311157297823662689037894645226208583 : Nat)) (3 : Nat))) → (∀ (x93 : Int), ((x93 = (0 : Int)) → (∀ (x94 : Int), ((x94 = (0 : Int)) → (∀ (x95 : Int), ((x95 = (0 : Int)) → (∀ (x96 : Int), ((x96 = (0 : Int)) → ((((((Wd x65) ∧
 ((Wd x66) ∧
 ((Wd x67) ∧
 (Wd x68)))) ∧
 ((Wd x89) ∧
 ((Wd x90) ∧
 ((Wd x91) ∧
 (Wd x92))))) ∧
 (((V4 x65 x66 x67 x68) < (21888242871839275222246405745257275088696311157297823662689037894645226208583 : Int)) ∧
 ((V4 x89 x90 x91 x92) < (21888242871839275222246405745257275088696311157297823662689037894645226208583 : Int)))) ∧
 (((x69 = (0 : Int)) ∧
 ((x70 = (0 : Int)) ∧
 ((x71 = (0 : Int)) ∧
 (x72 = (0 : Int))))) ∧
 ((x93 = (0 : Int)) ∧
 ((x94 = (0 : Int)) ∧
 ((x95 = (0 : Int)) ∧
 (x96 = (0 : Int))))))) ∧
 (∀ (x97 : Int), ((x97 = (lm (((Int.toNat (V4 x65 x66 x67 x68)) * (Int.toNat (V4 x89 x90 x91 x92))) % (21888242871839275222246405745257275088696311157297823662689037894645226208583 : Nat)) (0 : Nat))) → (∀ (x98 : Int), ((x98 = (lm (((Int.toNat (V4 x65 x66 x67 x68)) * (Int.toNat (V4 x89 x90 x91 x92))) % (21888242871839275222246405745257275088696311157297823662689037894645226208583 : Nat)) (1 : Nat))) → (∀ (x99 : Int), ((x99 = (lm (((Int.toNat (V4 x65 x66 x67 x68)) * (Int.toNat (V4 x89 x90 x91 x92))) % (21888242871839275222246405745257275088696311157297823662689037894645226208583 : Nat)) (2 : Nat))) → (∀ (x100 : Int), ((x100 = (lm (((Int.toNat (V4 x65 x66 x67 x68)) * (Int.toNat (V4 x89 x90 x91 x92))) % (21888242871839275222246405745257275088696311157297823662689037894645226208583 : Nat)) (3 : Nat))) → (∀ (x101 : Int), ((x101 = (0 : Int)) → (∀ (x102 : Int), ((x102 = (0 : Int)) → (∀ (x103 : Int), ((x103 = (0 : Int)) → (∀ (x104 : Int), ((x104 = (0 : Int)) → ((((0 : Int) ≤ (4 : Int)) ∧
 ((4 : Int) < (18446744073709551616 : Int))) ∧
 (∀ (x105 : Int), ((x105 = (4 : Int)) → (∀ (x106 : Int), ((x106 = (0 : Int)) → (∀ (x107 : Int), ((x107 = (0 : Int)) → (∀ (x108 : Int), ((x108 = (0 : Int)) → (∀ (x109 : Int), ((x109 = (0 : Int)) → (∀ (x110 : Int), ((x110 = (0 : Int)) → (∀ (x111 : Int), ((x111 = (0 : Int)) → (∀ (x112 : Int), ((x112 = (0 : Int)) → (∀ (x113 : Int), ((x113 = x48) → (∀ (x114 : Int), ((x114 = x49) → (∀ (x115 : Int), ((x115 = x50) → (∀ (x116 : Int), ((x116 = x51) → (∀ (x117 : Int), ((x117 = x52) → (∀ (x118 : Int), ((x118 = x53) → (∀ (x119 : Int), ((x119 = x54) → (∀ (x120 : Int), ((x120 = x55) → ((((((Wd x105) ∧
 ((Wd x106) ∧
 ((Wd x107) ∧
 (Wd x108)))) ∧
 ((Wd x113) ∧
 ((Wd x114) ∧
 ((Wd x115) ∧
 (Wd x116))))) ∧
 (((V4 x105 x106 x107 x108) < (21888242871839275222246405745257275088696311157297823662689037894645226208583 : Int)) ∧
 ((V4 x113 x114 x115 x116) < (21888242871839275222246405745257275088696311157297823662689037894645226208583 : Int)))) ∧
 (((x109 = (0 : Int)) ∧
 ((x110 = (0 : Int)) ∧
 ((x111 = (0 : Int)) ∧
 (x112 = (0 : Int))))) ∧
 ((x117 = (0 : Int)) ∧
 ((x118 = (0 : Int)) ∧
 ((x119 = (0 : Int)) ∧
 (x120 = (0 : Int))))))) ∧
 (∀ (x121 : Int), ((x121 = (lm (((Int.toNat (V4 x105 x106 x107 x108)) * (Int.toNat (V4 x113 x114 x115 x116))) % (21888242871839275222246405745257275088696311157297823662689037894645226208583 : Nat)) (0 : Nat))) → (∀ (x122 : Int), ((x122 = (lm (((Int.toNat (V4 x105 x106 x107 x108)) * (Int.toNat (V4 x113 x114 x115 x116))) % (21888242871839275222246405745257275088696311157297823662689037894645226208583 : Nat)) (1 : Nat))) → (∀ (x123 : Int), ((x123 = (lm (((Int.toNat (V4 x105 x106 x107 x108)) * (Int.toNat (V4 x113 x114 x115 x116))) % (21888242871839275222246405745257275088696311157297823662689037894645226208583 : Nat)) (2 : Nat))) → (∀ (x124 : Int), ((x124 = (lm (((Int.toNat (V4 x105 x106 x107 x108)) * (Int.toNat (V4 x113 x114 x115 x116))) % (21888242871839275222246405745257275088696311157297823662689037894645226208583 : Nat)) (3 : Nat))) → (∀ (x125 : Int), ((x125 = (0 : Int)) → (∀ (x126 : Int), ((x126 = (0 : Int)) → (∀ (x127 : Int), ((x127 = (0 : Int)) → (∀ (x128 : Int), ((x128 = (0 : Int)) → (((((Wd x121) ∧
 ((Wd x122) ∧
 ((Wd x123) ∧
 (Wd x124)))) ∧
 ((V4 x121 x122 x123 x124) < (21888242871839275222246405745257275088696311157297823662689037894645226208583 : Int))) ∧
 ((x125 = (0 : Int)) ∧
 ((x126 = (0 : Int)) ∧
 ((x127 = (0 : Int)) ∧
 (x128 = (0 : Int)))))) ∧
 (∀ (x129 : Int), ((x129 = (lm (inv0 (Int.toNat (V4 x121 x122 x123 x124))) (0 : Nat))) → (∀ (x130 : Int), ((x130 = (lm (inv0 (Int.toNat (V4 x121 x122 x123 x124))) (1 : Nat))) → (∀ (x131 : Int), ((x131 = (lm (inv0 (Int.toNat (V4 x121 x122 x123 x124))) (2 : Nat))) → (∀ (x132 : Int), ((x132 = (lm (inv0 (Int.toNat (V4 x121 x122 x123 x124))) (3 : Nat))) → (∀ (x133 : Int), ((x133 = (0 : Int)) → (∀ (x134 : Int), ((x134 = (0 : Int)) → (∀ (x135 : Int), ((x135 = (0 : Int)) → (∀ (x136 : Int), ((x136 = (0 : Int)) → ((((((Wd x97) ∧
 ((Wd x98) ∧
 ((Wd x99) ∧
 (Wd x100)))) ∧
 ((Wd x129) ∧
 ((Wd x130) ∧
 ((Wd x131) ∧
 (Wd x132))))) ∧
 (((V4 x97 x98 x99 x100) < (21888242871839275222246405745257275088696311157297823662689037894645226208583 : Int)) ∧
 ((V4 x129 x130 x131 x132) < (21888242871839275222246405745257275088696311157297823662689037894645226208583 : Int)))) ∧
 (((x101 = (0 : Int)) ∧
 ((x102 = (0 : Int)) ∧
 ((x103 = (0 : Int)) ∧
 (x104 = (0 : Int))))) ∧
 ((x133 = (0 : Int)) ∧
 ((x134 = (0 : Int)) ∧
 ((x135 = (0 : Int)) ∧
 (x136 = (0 : Int))))))) ∧
 (∀ (x137 : Int), ((x137 = (lm (((Int.toNat (V4 x97 x98 x99 x100)) * (Int.toNat (V4 x129 x130 x131 x132))) % (21888242871839275222246405745257275088696311157297823662689037894645226208583 : Nat)) (0 : Nat))) → (∀ (x138 : Int), ((x138 = (lm (((Int.toNat (V4 x97 x98 x99 x100)) * (Int.toNat (V4 x129 x130 x131 x132))) % (21888242871839275222246405745257275088696311157297823662689037894645226208583 : Nat)) (1 : Nat))) → (∀ (x139 : Int), ((x139 = (lm (((Int.toNat (V4 x97 x98 x99 x100)) * (Int.toNat (V4 x129 x130 x131 x132))) % (21888242871839275222246405745257275088696311157297823662689037894645226208583 : Nat)) (2 : Nat))) → (∀ (x140 : Int), ((x140 = (lm (((Int.toNat (V4 x97 x98 x99 x100)) * (Int.toNat (V4 x129 x130 x131 x132))) % (21888242871839275222246405745257275088696311157297823662689037894645226208583 : Nat)) (3 : Nat))) → (∀ (x141 : Int), ((x141 = (0 : Int)) → (∀ (x142 : Int), ((x142 = (0 : Int)) → (∀ (x143 : Int), ((x143 = (0 : Int)) → (∀ (x144 : Int), ((x144 = (0 : Int)) → ((((((Wd (0 : Int)) ∧
 ((Wd (0 : Int)) ∧
 ((Wd (0 : Int)) ∧
 (Wd (0 : Int))))) ∧
 ((Wd x137) ∧
 ((Wd x138) ∧
 ((Wd x139) ∧
 (Wd x140))))) ∧
 (((0 : Int) < (21888242871839275222246405745257275088696311157297823662689037894645226208583 : Int)) ∧
 ((V4 x137 x138 x139 x140) < (21888242871839275222246405745257275088696311157297823662689037894645226208583 : Int)))) ∧
 ((((0 : Int) = (0 : Int)) ∧
 (((0 : Int) = (0 : Int)) ∧
 (((0 : Int) = (0 : Int)) ∧
 ((0 : Int) = (0 : Int))))) ∧
 ((x141 = (0 : Int)) ∧
 ((x142 = (0 : Int)) ∧
 ((x143 = (0 : Int)) ∧
 (x144 = (0 : Int))))))) ∧
 (∀ (x145 : Int), ((x145 = (lm (((0 : Nat) + ((21888242871839275222246405745257275088696311157297823662689037894645226208583 : Nat) - (Int.toNat (V4 x137 x138 x139 x140)))) % (21888242871839275222246405745257275088696311157297823662689037894645226208583 : Nat)) (0 : Nat))) → (∀ (x146 : Int), ((x146 = (lm (((0 : Nat) + ((21888242871839275222246405745257275088696311157297823662689037894645226208583 : Nat) - (Int.toNat (V4 x137 x138 x139 x140)))) % (21888242871839275222246405745257275088696311157297823662689037894645226208583 : Nat)) (1 : Nat))) → (∀ (x147 : Int), ((x147 = (lm (((0 : Nat) + ((21888242871839275222246405745257275088696311157297823662689037894645226208583 : Nat) - (Int.toNat (V4 x137 x138 x139 x140)))) % (21888242871839275222246405745257275088696311157297823662689037894645226208583 : Nat)) (2 : Nat))) → (∀ (x148 : Int), ((x148 = (lm (((0 : Nat) + ((21888242871839275222246405745257275088696311157297823662689037894645226208583 : Nat) - (Int.toNat (V4 x137 x138 x139 x140)))) % (21888242871839275222246405745257275088696311157297823662689037894645226208583 : Nat)) (3 : Nat))) → (∀ (x149 : Int), ((x149 = (0 : Int)) → (∀ (x150 : Int), ((x150 = (0 : Int)) → (∀ (x151 : Int), ((x151 = (0 : Int)) → (∀ (x152 : Int), ((x152 = (0 : Int)) → (∀ (x153 : Int), ((x153 = x24) → (∀ (x154 : Int), ((x154 = x25) → (∀ (x155 : Int), ((x155 = x26) → (∀ (x156 : Int), ((x156 = x27) → (∀ (x157 : Int), ((x157 = x28) → (∀ (x158 : Int), ((x158 = x29) → (∀ (x159 : Int), ((x159 = x30) → (∀ (x160 : Int), ((x160 = x31) → ((((((Wd (0 : Int)) ∧
 ((Wd (0 : Int)) ∧
 ((Wd (0 : Int)) ∧
 (Wd (0 : Int))))) ∧
 ((Wd x153) ∧
 ((Wd x154) ∧
 ((Wd x155) ∧
 (Wd x156))))) ∧
 (((0 : Int) < (21888242871839275222246405745257275088696311157297823662689037894645226208583 : Int)) ∧
 ((V4 x153 x154 x155 x156) < (21888242871839275222246405745257275088696311157297823662689037894645226208583 : Int)))) ∧
 ((((0 : Int) = (0 : Int)) ∧
 (((0 : Int) = (0 : Int)) ∧
 (((0 : Int) = (0 : Int)) ∧
 ((0 : Int) = (0 : Int))))) ∧
 ((x157 = (0 : Int)) ∧
 ((x158 = (0 : Int)) ∧
 ((x159 = (0 : Int)) ∧
 (x160 = (0 : Int))))))) ∧
 (∀ (x161 : Int), ((x161 = (lm (((0 : Nat) + ((21888242871839275222246405745257275088696311157297823662689037894645226208583 : Nat) - (Int.toNat (V4 x153 x154 x155 x156)))) % (21888242871839275222246405745257275088696311157297823662689037894645226208583 : Nat)) (0 : Nat))) → (∀ (x162 : Int), ((x162 = (lm (((0 : Nat) + ((21888242871839275222246405745257275088696311157297823662689037894645226208583 : Nat) - (Int.toNat (V4 x153 x154 x155 x156)))) % (21888242871839275222246405745257275088696311157297823662689037894645226208583 : Nat)) (1 : Nat))) → (∀ (x163 : Int), ((x163 = (lm (((0 : Nat) + ((21888242871839275222246405745257275088696311157297823662689037894645226208583 : Nat) - (Int.toNat (V4 x153 x154 x155 x156)))) % (21888242871839275222246405745257275088696311157297823662689037894645226208583 : Nat)) (2 : Nat))) → (∀ (x164 : Int), ((x164 = (lm (((0 : Nat) + ((21888242871839275222246405745257275088696311157297823662689037894645226208583 : Nat) - (Int.toNat (V4 x153 x154 x155 x156)))) % (21888242871839275222246405745257275088696311157297823662689037894645226208583 : Nat)) (3 : Nat))) → (∀ (x165 : Int), ((x165 = (0 : Int)) → (∀ (x166 : Int), ((x166 = (0 : Int)) → (∀ (x167 : Int), ((x167 = (0 : Int)) → (∀ (x168 : Int), ((x168 = (0 : Int)) → ((((0 : Int) ≤ (2 : Int)) ∧
 ((2 : Int) < (18446744073709551616 : Int))) ∧
 (∀ (x169 : Int), ((x169 = (2 : Int)) → (∀ (x170 : Int), ((x170 = (0 : Int)) → (∀ (x171 : Int), ((x171 = (0 : Int)) → (∀ (x172 : Int), ((x172 = (0 : Int)) → (∀ (x173 : Int), ((x173 = (0 : Int)) → (∀ (x174 : Int), ((x174 = (0 : Int)) → (∀ (x175 : Int), ((x175 = (0 : Int)) → (∀ (x176 : Int), ((x176 = (0 : Int)) → (((((Wd x169) ∧
 ((Wd x170) ∧
 ((Wd x171) ∧
 (Wd x172)))) ∧
 ((V4 x169 x170 x171 x172) < (21888242871839275222246405745257275088696311157297823662689037894645226208583 : Int))) ∧
 ((x173 = (0 : Int)) ∧
 ((x174 = (0 : Int)) ∧
 ((x175 = (0 : Int)) ∧
 (x176 = (0 : Int)))))) ∧
 (∀ (x177 : Int), ((x177 = (lm (inv0 (Int.toNat (V4 x169 x170 x171 x172))) (0 : Nat))) → (∀ (x178 : Int), ((x178 = (lm (inv0 (Int.toNat (V4 x169 x170 x171 x172))) (1 : Nat))) → (∀ (x179 : Int), ((x179 = (lm (inv0 (Int.toNat (V4 x169 x170 x171 x172))) (2 : Nat))) → (∀ (x180 : Int), ((x180 = (lm (inv0 (Int.toNat (V4 x169 x170 x171 x172))) (3 : Nat))) → (∀ (x181 : Int), ((x181 = (0 : Int)) → (∀ (x182 : Int), ((x182 = (0 : Int)) → (∀ (x183 : Int), ((x183 = (0 : Int)) → (∀ (x184 : Int), ((x184 = (0 : Int)) → ((((((Wd x161) ∧
 ((Wd x162) ∧
 ((Wd x163) ∧
 (Wd x164)))) ∧
 ((Wd x177) ∧
 ((Wd x178) ∧
 ((Wd x179) ∧
 (Wd x180))))) ∧
 (((V4 x161 x162 x163 x164) < (21888242871839275222246405745257275088696311157297823662689037894645226208583 : Int)) ∧
 ((V4 x177 x178 x179 x180) < (21888242871839275222246405745257275088696311157297823662689037894645226208583 : Int)))) ∧
 (((x165 = (0 : Int)) ∧
 ((x166 = (0 : Int)) ∧
 ((x167 = (0 : Int)) ∧
 (x168 = (0 : Int))))) ∧
 ((x181 = (0 : Int)) ∧
 ((x182 = (0 : Int)) ∧
 ((x183 = (0 : Int)) ∧
 (x184 = (0 : Int))))))) ∧
 (∀ (x185 : Int), ((x185 = (lm (((Int.toNat (V4 x161 x162 x163 x164)) * (Int.toNat (V4 x177 x178 x179 x180))) % (21888242871839275222246405745257275088696311157297823662689037894645226208583 : Nat)) (0 : Nat))) → (∀ (x186 : Int), ((x186 = (lm (((Int.toNat (V4 x161 x162 x163 x164)) * (Int.toNat (V4 x177 x178 x179 x180))) % (21888242871839275222246405745257275088696311157297823662689037894645226208583 : Nat)) (1 : Nat))) → (∀ (x187 : Int), ((x187 = (lm (((Int.toNat (V4 x161 x162 x163 x164)) * (Int.toNat (V4 x177 x178 x179 x180))) % (21888242871839275222246405745257275088696311157297823662689037894645226208583 : Nat)) (2 : Nat))) → (∀ (x188 : Int), ((x188 = (lm (((Int.toNat (V4 x161 x162 x163 x164)) * (Int.toNat (V4 x177 x178 x179 x180))) % (21888242871839275222246405745257275088696311157297823662689037894645226208583 : Nat)) (3 : Nat))) → (∀ (x189 : Int), ((x189 = (0 : Int)) → (∀ (x190 : Int), ((x190 = (0 : Int)) → (∀ (x191 : Int), ((x191 = (0 : Int)) → (∀ (x192 : Int), ((x192 = (0 : Int)) → (∀ (x193 : Int), ((x193 = (3 : Int)) → (∀ (x194 : Int), ((x194 = (0 : Int)) → (∀ (x195 : Int), ((x195 = (0 : Int)) → (∀ (x196 : Int), ((x196 = (0 : Int)) → (∀ (x197 : Int), ((x197 = (0 : Int)) → (∀ (x198 : Int), ((x198 = (0 : Int)) → (∀ (x199 : Int), ((x199 = (0 : Int)) → (∀ (x200 : Int), ((x200 = (0 : Int)) → ((((((Wd x185) ∧
 ((Wd x186) ∧
 ((Wd x187) ∧
 (Wd x188)))) ∧
 ((Wd x193) ∧
 ((Wd x194) ∧
 ((Wd x195) ∧
 (Wd x196))))) ∧
 (((V4 x185 x186 x187 x188) < (21888242871839275222246405745257275088696311157297823662689037894645226208583 : Int)) ∧
 ((V4 x193 x194 x195 x196) < (21888242871839275222246405745257275088696311157297823662689037894645226208583 : Int)))) ∧
 (((x189 = (0 : Int)) ∧
 ((x190 = (0 : Int)) ∧
 ((x191 = (0 : Int)) ∧
 (x192 = (0 : Int))))) ∧
 ((x197 = (0 : Int)) ∧
 ((x198 = (0 : Int)) ∧
 ((x199 = (0 : Int)) ∧
 (x200 = (0 : Int))))))) ∧
 (∀ (x201 : Int), ((x201 = (lm (((((Int.toNat (V4 x185 x186 x187 x188)) * (((Int.toNat (V4 x185 x186 x187 x188)) * (Int.toNat (V4 x185 x186 x187 x188))) % (21888242871839275222246405745257275088696311157297823662689037894645226208583 : Nat))) % (21888242871839275222246405745257275088696311157297823662689037894645226208583 : Nat)) + (Int.toNat (V4 x193 x194 x195 x196))) % (21888242871839275222246405745257275088696311157297823662689037894645226208583 : Nat)) (0 : Nat))) → (∀ (x202 : Int), ((x202 = (lm (((((Int.toNat (V4 x185 x186 x187 x188)) * (((Int.toNat (V4 x185 x186 x187 x188)) * (Int.toNat (V4 x185 x186 x187 x188))) % (21888242871839275222246405745257275088696311157297823662689037894645226208583 : Nat))) % (21888242871839275222246405745257275088696311157297823662689037894645226208583 : Nat)) + (Int.toNat (V4 x193 x194 x195 x196))) % (21888242871839275222246405745257275088696311157297823662689037894645226208583 : Nat)) (1 : Nat))) → (∀ (x203 : Int), ((x203 = (lm (((((Int.toNat (V4 x185 x186 x187 x188)) * (((Int.toNat (V4 x185 x186 x187 x188)) * (Int.toNat (V4 x185 x186 x187 x188))) % (21888242871839275222246405745257275088696311157297823662689037894645226208583 : Nat))) % (21888242871839275222246405745257275088696311157297823662689037894645226208583 : Nat)) + (Int.toNat (V4 x193 x194 x195 x196))) % (21888242871839275222246405745257275088696311157297823662689037894645226208583 : Nat)) (2 : Nat))) → (∀ (x204 : Int), ((x204 = (lm (((((Int.toNat (V4 x185 x186 x187 x188)) * (((Int.toNat (V4 x185 x186 x187 x188)) * (Int.toNat (V4 x185 x186 x187 x188))) % (21888242871839275222246405745257275088696311157297823662689037894645226208583 : Nat))) % (21888242871839275222246405745257275088696311157297823662689037894645226208583 : Nat)) + (Int.toNat (V4 x193 x194 x195 x196))) % (21888242871839275222246405745257275088696311157297823662689037894645226208583 : Nat)) (3 : Nat))) → (∀ (x205 : Int), ((x205 = (0 : Int)) → (∀ (x206 : Int), ((x206 = (0 : Int)) → (∀ (x207 : Int), ((x207 = (0 : Int)) → (∀ (x208 : Int), ((x208 = (0 : Int)) → (∀ (x209 : Int), ((x209 = x145) → (∀ (x210 : Int), ((x210 = x146) → (∀ (x211 : Int), ((x211 = x147) → (∀ (x212 : Int), ((x212 = x148) → (∀ (x213 : Int), ((x213 = x149) → (∀ (x214 : Int), ((x214 = x150) → (∀ (x215 : Int), ((x215 = x151) → (∀ (x216 : Int), ((x216 = x152) → ((((Bool.not (decide ([x209, x210, x211, x212, x213, x214, x215, x216] = [(0 : Int), (0 : Int), (0 : Int), (0 : Int), (0 : Int), (0 : Int), (0 : Int), (0 : Int)]))) = Bool.true) → (∀ (x217 : Int), ((x217 = x145) → (∀ (x218 : Int), ((x218 = x146) → (∀ (x219 : Int), ((x219 = x147) → (∀ (x220 : Int), ((x220 = x148) → (∀ (x221 : Int), ((x221 = x149) → (∀ (x222 : Int), ((x222 = x150) → (∀ (x223 : Int), ((x223 = x151) → (∀ (x224 : Int), ((x224 = x152) → ((((Wd x217) ∧
 ((Wd x218) ∧
 ((Wd x219) ∧
 (Wd x220)))) ∧
 ((x221 = (0 : Int)) ∧
 ((x222 = (0 : Int)) ∧
 ((x223 = (0 : Int)) ∧
 (x224 = (0 : Int)))))) ∧
 ((((sqN (Int.toNat (V4 x217 x218 x219 x220))) = Bool.true) → (∀ (x225 : Int), ((x225 = x48) → (∀ (x226 : Int), ((x226 = x49) → (∀ (x227 : Int), ((x227 = x50) → (∀ (x228 : Int), ((x228 = x51) → (∀ (x229 : Int), ((x229 = x52) → (∀ (x230 : Int), ((x230 = x53) → (∀ (x231 : Int), ((x231 = x54) → (∀ (x232 : Int), ((x232 = x55) → ((((Wd x225) ∧
 ((Wd x226) ∧
 ((Wd x227) ∧
 (Wd x228)))) ∧
 ((x229 = (0 : Int)) ∧
 ((x230 = (0 : Int)) ∧
 ((x231 = (0 : Int)) ∧
 (x232 = (0 : Int)))))) ∧
 ((((sqN (Int.toNat (V4 x225 x226 x227 x228))) = Bool.true) → (∀ (x233 : Int), ((x233 = x24) → (∀ (x234 : Int), ((x234 = x25) → (∀ (x235 : Int), ((x235 = x26) → (∀ (x236 : Int), ((x236 = x27) → (∀ (x237 : Int), ((x237 = x28) → (∀ (x238 : Int), ((x238 = x29) → (∀ (x239 : Int), ((x239 = x30) → (∀ (x240 : Int), ((x240 = x31) → (K (SV.agg [(SV.int IntKind.u64 (A.sym x233)), (SV.int IntKind.u64 (A.sym x234)), (SV.int IntKind.u64 (A.sym x235)), (SV.int IntKind.u64 (A.sym x236)), (SV.int IntKind.u64 (A.sym x237)), (SV.int IntKind.u64 (A.sym x238)), (SV.int IntKind.u64 (A.sym x239)), (SV.int IntKind.u64 (A.sym x240))]) (memL [((513 : Nat), (Reg.mk Bool.false (Ct.cells [(SV.int IntKind.u64 (A.sym (3 : Int))), (SV.int IntKind.u64 (A.sym (0 : Int))), (SV.int IntKind.u64 (A.sym (0 : Int))), (SV.int IntKind.u64 (A.sym (0 : Int))), (SV.int IntKind.u64 (A.sym (0 : Int))), (SV.int IntKind.u64 (A.sym (0 : Int))), (SV.int IntKind.u64 (A.sym (0 : Int))), (SV.int IntKind.u64 (A.sym (0 : Int)))]))), ((521 : Nat), (Reg.mk Bool.false (Ct.cells [(SV.int IntKind.u64 (A.sym x233)), (SV.int IntKind.u64 (A.sym x234)), (SV.int IntKind.u64 (A.sym x235)), (SV.int IntKind.u64 (A.sym x236)), (SV.int IntKind.u64 (A.sym x237)), (SV.int IntKind.u64 (A.sym x238)), (SV.int IntKind.u64 (A.sym x239)), (SV.int IntKind.u64 (A.sym x240))]))), ((601 : Nat), (Reg.mk Bool.false (Ct.cells [(SV.int IntKind.u64 (A.sym x0)), (SV.int IntKind.u64 (A.sym x1)), (SV.int IntKind.u64 (A.sym x2)), (SV.int IntKind.u64 (A.sym x3)), (SV.int IntKind.u64 (A.sym x4)), (SV.int IntKind.u64 (A.sym x5)), (SV.int IntKind.u64 (A.sym x6)), (SV.int IntKind.u64 (A.sym x7)), (SV.int IntKind.u64 (A.sym x16)), (SV.int IntKind.u64 (A.sym x17)), (SV.int IntKind.u64 (A.sym x18)), (SV.int IntKind.u64 (A.sym x19)), (SV.int IntKind.u64 (A.sym x20)), (SV.int IntKind.u64 (A.sym x21)), (SV.int IntKind.u64 (A.sym x22)), (SV.int IntKind.u64 (A.sym x23))]))), ((649 : Nat), (Reg.mk Bool.false (Ct.cells [(SV.int IntKind.u64 (A.sym x24)), (SV.int IntKind.u64 (A.sym x25)), (SV.int IntKind.u64 (A.sym x26)), (SV.int IntKind.u64 (A.sym x27)), (SV.int IntKind.u64 (A.sym x28)), (SV.int IntKind.u64 (A.sym x29)), (SV.int IntKind.u64 (A.sym x30)), (SV.int IntKind.u64 (A.sym x31))]))), ((689 : Nat), (Reg.mk Bool.false (Ct.cells [(SV.int IntKind.u64 (A.sym x48)), (SV.int IntKind.u64 (A.sym x49)), (SV.int IntKind.u64 (A.sym x50)), (SV.int IntKind.u64 (A.sym x51)), (SV.int IntKind.u64 (A.sym x52)), (SV.int IntKind.u64 (A.sym x53)), (SV.int IntKind.u64 (A.sym x54)), (SV.int IntKind.u64 (A.sym x55))]))), ((825 : Nat), (Reg.mk Bool.false (Ct.cells [(SV.int IntKind.u64 (A.sym x145)), (SV.int IntKind.u64 (A.sym x146)), (SV.int IntKind.u64 (A.sym x147)), (SV.int IntKind.u64 (A.sym x148)), (SV.int IntKind.u64 (A.sym x149)), (SV.int IntKind.u64 (A.sym x150)), (SV.int IntKind.u64 (A.sym x151)), (SV.int IntKind.u64 (A.sym x152))]))), ((905 : Nat), (Reg.mk Bool.false (Ct.cells [(SV.int IntKind.u64 (A.sym x201)), (SV.int IntKind.u64 (A.sym x202)), (SV.int IntKind.u64 (A.sym x203)), (SV.int IntKind.u64 (A.sym x204)), (SV.int IntKind.u64 (A.sym x205)), (SV.int IntKind.u64 (A.sym x206)), (SV.int IntKind.u64 (A.sym x207)), (SV.int IntKind.u64 (A.sym x208))])))]))))))))))))))))))) ∧
 (((sqN (Int.toNat (V4 x225 x226 x227 x228))) = Bool.false) → (∀ (x241 : Int), ((x241 = x201) → (∀ (x242 : Int), ((x242 = x202) → (∀ (x243 : Int), ((x243 = x203) → (∀ (x244 : Int), ((x244 = x204) → (∀ (x245 : Int), ((x245 = x205) → (∀ (x246 : Int), ((x246 = x206) → (∀ (x247 : Int), ((x247 = x207) → (∀ (x248 : Int), ((x248 = x208) → ((((Wd x241) ∧
 ((Wd x242) ∧
 ((Wd x243) ∧
 (Wd x244)))) ∧
 ((x245 = (0 : Int)) ∧
 ((x246 = (0 : Int)) ∧
 ((x247 = (0 : Int)) ∧
 (x248 = (0 : Int)))))) ∧
 ((((sqN (Int.toNat (V4 x241 x242 x243 x244))) = Bool.true) → (∀ (x249 : Int), ((x249 = x24) → (∀ (x250 : Int), ((x250 = x25) → (∀ (x251 : Int), ((x251 = x26) → (∀ (x252 : Int), ((x252 = x27) → (∀ (x253 : Int), ((x253 = x28) → (∀ (x254 : Int), ((x254 = x29) → (∀ (x255 : Int), ((x255 = x30) → (∀ (x256 : Int), ((x256 = x31) → (K (SV.agg [(SV.int IntKind.u64 (A.sym x249)), (SV.int IntKind.u64 (A.sym x250)), (SV.int IntKind.u64 (A.sym x251)), (SV.int IntKind.u64 (A.sym x252)), (SV.int IntKind.u64 (A.sym x253)), (SV.int IntKind.u64 (A.sym x254)), (SV.int IntKind.u64 (A.sym x255)), (SV.int IntKind.u64 (A.sym x256))]) (memL [((513 : Nat), (Reg.mk Bool.false (Ct.cells [(SV.int IntKind.u64 (A.sym (3 : Int))), (SV.int IntKind.u64 (A.sym (0 : Int))), (SV.int IntKind.u64 (A.sym (0 : Int))), (SV.int IntKind.u64 (A.sym (0 : Int))), (SV.int IntKind.u64 (A.sym (0 : Int))), (SV.int IntKind.u64 (A.sym (0 : Int))), (SV.int IntKind.u64 (A.sym (0 : Int))), (SV.int IntKind.u64 (A.sym (0 : Int)))]))), ((521 : Nat), (Reg.mk Bool.false (Ct.cells [(SV.int IntKind.u64 (A.sym x249)), (SV.int IntKind.u64 (A.sym x250)), (SV.int IntKind.u64 (A.sym x251)), (SV.int IntKind.u64 (A.sym x252)), (SV.int IntKind.u64 (A.sym x253)), (SV.int IntKind.u64 (A.sym x254)), (SV.int IntKind.u64 (A.sym x255)), (SV.int IntKind.u64 (A.sym x256))]))), ((601 : Nat), (Reg.mk Bool.false (Ct.cells [(SV.int IntKind.u64 (A.sym x0)), (SV.int IntKind.u64 (A.sym x1)), (SV.int IntKind.u64 (A.sym x2)), (SV.int IntKind.u64 (A.sym x3)), (SV.int IntKind.u64 (A.sym x4)), (SV.int IntKind.u64 (A.sym x5)), (SV.int IntKind.u64 (A.sym x6)), (SV.int IntKind.u64 (A.sym x7)), (SV.int IntKind.u64 (A.sym x16)), (SV.int IntKind.u64 (A.sym x17)), (SV.int IntKind.u64 (A.sym x18)), (SV.int IntKind.u64 (A.sym x19)), (SV.int IntKind.u64 (A.sym x20)), (SV.int IntKind.u64 (A.sym x21)), (SV.int IntKind.u64 (A.sym x22)), (SV.int IntKind.u64 (A.sym x23))]))), ((649 : Nat), (Reg.mk Bool.false (Ct.cells [(SV.int IntKind.u64 (A.sym x24)), (SV.int IntKind.u64 (A.sym x25)), (SV.int IntKind.u64 (A.sym x26)), (SV.int IntKind.u64 (A.sym x27)), (SV.int IntKind.u64 (A.sym x28)), (SV.int IntKind.u64 (A.sym x29)), (SV.int IntKind.u64 (A.sym x30)), (SV.int IntKind.u64 (A.sym x31))]))), ((689 : Nat), (Reg.mk Bool.false (Ct.cells [(SV.int IntKind.u64 (A.sym x48)), (SV.int IntKind.u64 (A.sym x49)), (SV.int IntKind.u64 (A.sym x50)), (SV.int IntKind.u64 (A.sym x51)), (SV.int IntKind.u64 (A.sym x52)), (SV.int IntKind.u64 (A.sym x53)), (SV.int IntKind.u64 (A.sym x54)), (SV.int IntKind.u64 (A.sym x55))]))), ((825 : Nat), (Reg.mk Bool.false (Ct.cells [(SV.int IntKind.u64 (A.sym x145)), (SV.int IntKind.u64 (A.sym x146)), (SV.int IntKind.u64 (A.sym x147)), (SV.int IntKind.u64 (A.sym x148)), (SV.int IntKind.u64 (A.sym x149)), (SV.int IntKind.u64 (A.sym x150)), (SV.int IntKind.u64 (A.sym x151)), (SV.int IntKind.u64 (A.sym x152))]))), ((905 : Nat), (Reg.mk Bool.false (Ct.cells [(SV.int IntKind.u64 (A.sym x201)), (SV.int IntKind.u64 (A.sym x202)), (SV.int IntKind.u64 (A.sym x203)), (SV.int IntKind.u64 (A.sym x204)), (SV.int IntKind.u64 (A.sym x205)), (SV.int IntKind.u64 (A.sym x206)), (SV.int IntKind.u64 (A.sym x207)), (SV.int IntKind.u64 (A.sym x208))])))]))))))))))))))))))) ∧
 (((sqN (Int.toNat (V4 x241 x242 x243 x244))) = Bool.false) → ((∃ (i0257 : Nat), (False ∧
 True)) ∧
 (Nat → (False → False)))))))))))))))))))))))))))))))))))))))))) ∧
 (((sqN (Int.toNat (V4 x217 x218 x219 x220))) = Bool.false) → ((∃ (i0258 : Nat), (False ∧
 True)) ∧
 (Nat → (False → False))))))))))))))))))))))) ∧
 (((Bool.not (decide ([x209, x210, x211, x212, x213, x214, x215, x216] = [(0 : Int), (0 : Int), (0 : Int), (0 : Int), (0 : Int), (0 : Int), (0 : Int), (0 : Int)]))) = Bool.false) → ((∃ (i0259 : Nat), (False ∧
 True)) ∧
 (Nat → (False → False))))))))))))))))))))))))))))))))))))))))))))))))))))))))))))))))))))))))))))))))))))))))))))))))))))))))))))))))))))))))))))))))))))))))))))))))))))))))))))))))))))))))))))))))))))))))))))))))))))))))))))))))))))))))))))))))))))))))))))))))))))))))))))))))))))))))))))))))))))))))))))))))))))))))))))))))))))))))))))))))))))))))))))))))))))))))))))))))))))))))))))))))))))))))))))))))))))))))))))))))))))))))))))))))))))))))))))))))))))))))))))))))))))))))) := by kernel_rfl

theorem st_walk {K : SV → Mem → Prop} (hK : ∀ m, K (agF 1 0 0 0) m) : execF cxSt uSt Tryd.f33 64 [agF 3 0 0 0, .bool (.lit true)] (memL []) K := by
  rw [vc_st]
  simp only [forall_eq]
  repeat' first
    | exact hK _
    | refine ⟨by decide +kernel, ?_⟩
    | refine ⟨fun _ => ?_, fun h => absurd h (by decide +kernel)⟩
    | refine ⟨fun h => absurd h (by decide +kernel), fun _ => ?_⟩
def rSt : R0 := fun args l =>
  match args, l with
  | [.agg [.int .u64 (.sym b0), .int .u64 (.sym b1), .int .u64 (.sym b2), .int .u64 (.sym b3), .int .u64 (.sym b4), .int .u64 (.sym b5), .int .u64 (.sym b6), .int .u64 (.sym b7)], .bool (.lit true)], [] => some (some ((b0 = 3 ∧ b1 = 0 ∧ b2 = 0 ∧ b3 = 0) ∧ (b4 = 0 ∧ b5 = 0 ∧ b6 = 0 ∧ b7 = 0)), agF 1 0 0 0)
  | _, _ => none
theorem St_ok (args : List SV) (l : List (Nat × Reg)) (p : Ob) (v : SV) (h : rSt args l = some (p, v)) (hp : p.ok) : ∃ U, execF cxSt U Tryd.f33 64 args (memL l) fun v' _ => v' = v := by
  unfold rSt at h
  split at h
  · rename_i b0 b1 b2 b3 b4 b5 b6 b7
    simp only [Option.some.injEq, Prod.mk.injEq] at h
    obtain ⟨rfl, rfl⟩ := h
    have hp : (b0 = 3 ∧ b1 = 0 ∧ b2 = 0 ∧ b3 = 0) ∧ (b4 = 0 ∧ b5 = 0 ∧ b6 = 0 ∧ b7 = 0) := hp
    obtain ⟨⟨y0, y1, y2, y3⟩, z0, z1, z2, z3⟩ := hp
    subst z0 z1 z2 z3 y0 y1 y2 y3
    exact ⟨_, st_walk fun _ => rfl⟩
  · cases h
def cSt : Rd Tryd.prog := mkR mixed 33 Tryd.func33 (by decide) (by kernel_rfl) [] [.num, .val] rSt St_ok
end Go.Sx

/- Short forms for printed conditions. -/
namespace Go.Sx
open Go Go.Proofs Go.Num
set_option maxRecDepth 100000
/-- Four words of a number. -/
def L4 (v : Nat) (P : Int → Int → Int → Int → Prop) : Prop := ∀ x0, x0 = lm v 0 → ∀ x1, x1 = lm v 1 → ∀ x2, x2 = lm v 2 → ∀ x3, x3 = lm v 3 → P x0 x1 x2 x3
def B4 (a b c d : Int) (P : Int → Int → Int → Int → Prop) : Prop := ∀ x0, x0 = a → ∀ x1, x1 = b → ∀ x2, x2 = c → ∀ x3, x3 = d → P x0 x1 x2 x3
def B1 (a : Int) (P : Int → Prop) : Prop := ∀ x, x = a → P x
def Z4 (a b c d : Int) : Prop := a = 0 ∧ b = 0 ∧ c = 0 ∧ d = 0
def N4 (a b c d : Int) : Nat := (V4 a b c d).toNat
def qI : Int := 21888242871839275222246405745257275088696311157297823662689037894645226208583
def U (x : Int) : SV := .int .u64 (.sym x)
theorem L4_eq (v : Nat) (P : Int → Int → Int → Int → Prop) : L4 v P = P (lm v 0) (lm v 1) (lm v 2) (lm v 3) := by unfold L4; simp only [forall_eq]
theorem B4_eq (a b c d : Int) (P : Int → Int → Int → Int → Prop) : B4 a b c d P = P a b c d := by unfold B4; simp only [forall_eq]
theorem B1_eq (a : Int) (P : Int → Prop) : B1 a P = P a := by unfold B1; simp only [forall_eq]
theorem Z4_0 : Z4 0 0 0 0 = True := by simp [Z4]
theorem qI_eq : qI = (qN : Int) := rfl
theorem N4l {v : Nat} (h : v < qN) : N4 (lm v 0) (lm v 1) (lm v 2) (lm v 3) = v := Vx (ws_q h)
theorem N4q (a : Nat) : N4 (lm (a % qN) 0) (lm (a % qN) 1) (lm (a % qN) 2) (lm (a % qN) 3) = a % qN := N4l (Nat.mod_lt _ (by decide))
theorem N4i (a : Nat) : N4 (lm (inv0 a) 0) (lm (inv0 a) 1) (lm (inv0 a) 2) (lm (inv0 a) 3) = inv0 a := N4l (inv0_lt a)
theorem N4r (a : Nat) : N4 (lm (rtN a) 0) (lm (rtN a) 1) (lm (rtN a) 2) (lm (rtN a) 3) = rtN a := N4l (rtN_lt a)
theorem N4n (n : Nat) : N4 n 0 0 0 = n := by unfold N4 V4; omega
theorem N4_0 : N4 0 0 0 0 = 0 := N4n 0
theorem N4_1 : N4 1 0 0 0 = 1 := N4n 1
theorem N4_2 : N4 2 0 0 0 = 2 := N4n 2
theorem N4_3 : N4 3 0 0 0 = 3 := N4n 3
theorem N4_4 : N4 4 0 0 0 = 4 := N4n 4
theorem W4l (v : Nat) : W4 (lm v 0) (lm v 1) (lm v 2) (lm v 3) = True := eq_true (lm4_wd v)
theorem W4n {n : Int} (h : Wd n) : W4 n 0 0 0 = True := eq_true ⟨h, wd0, wd0, wd0⟩
theorem W4_0 : W4 0 0 0 0 = True := W4n (by decide)
theorem W4_1 : W4 1 0 0 0 = True := W4n (by decide)
theorem W4_2 : W4 2 0 0 0 = True := W4n (by decide)
theorem W4_3 : W4 3 0 0 0 = True := W4n (by decide)
theorem W4_4 : W4 4 0 0 0 = True := W4n (by decide)
theorem Vlt {v : Nat} (h : v < qN) : (V4 (lm v 0) (lm v 1) (lm v 2) (lm v 3) < qI) = True := eq_true (by rw [(ws_q h).val, qI_eq]; omega)
theorem Vq_lt (a : Nat) : (V4 (lm (a % qN) 0) (lm (a % qN) 1) (lm (a % qN) 2) (lm (a % qN) 3) < qI) = True := Vlt (Nat.mod_lt _ (by decide))
theorem Vi_lt (a : Nat) : (V4 (lm (inv0 a) 0) (lm (inv0 a) 1) (lm (inv0 a) 2) (lm (inv0 a) 3) < qI) = True := Vlt (inv0_lt a)
theorem Vr_lt (a : Nat) : (V4 (lm (rtN a) 0) (lm (rtN a) 1) (lm (rtN a) 2) (lm (rtN a) 3) < qI) = True := Vlt (rtN_lt a)
theorem V0_lt : (V4 0 0 0 0 < qI) = True := by decide
theorem V1_lt : (V4 1 0 0 0 < qI) = True := by decide
theorem V2_lt : (V4 2 0 0 0 < qI) = True := by decide
theorem V3_lt : (V4 3 0 0 0 < qI) = True := by decide
theorem V4_lt' : (V4 4 0 0 0 < qI) = True := by decide
theorem z_lt : ((0 : Int) < qI) = True := by decide
end Go.Sx

/- spec.Mapped: the condition. -/
namespace Go.Sx
open Go Go.Proofs Go.Num
set_option maxRecDepth 100000
def cxMp : Cx Tryd.prog := { rds := [cOne, cSube, cAdde, cCv, cMule, cInve, cIs, cRe, cSign, cSt], efs := [], eqs := [eq43] }
theorem vc_mp (u0 u1 u2 u3 : Int) (K : SV → Mem → Prop) : (execF cxMp u9 Tryd.f14 64 [agF u0 u1 u2 u3, agF 3 0 0 0, .bool (.lit true)] (memL []) K) = 
 (B4 3 0 0 0 fun x0 x1 x2 x3 => B4 0 0 0 0 fun x4 x5 x6 x7 => ((((x0 = 3) ∧ ((x1 = 0) ∧ ((x2 = 0) ∧ (x3 = 0)))) ∧ (Z4 x4 x5 x6 x7)) ∧ (B4 1 0 0 0 fun x8 x9 x10 x11 => B4 0 0 0 0 fun x12 x13 x14 x15 => B4 x8 x9 x10 x11 fun x16 x17 x18 x19 => B4 x12 x13 x14 x15 fun x20 x21 x22 x23 => B4 3 0 0 0 fun x24 x25 x26 x27 => B4 0 0 0 0 fun x28 x29 x30 x31 => 
 (((((W4 x16 x17 x18 x19) ∧ (W4 x24 x25 x26 x27)) ∧ (((V4 x16 x17 x18 x19) < qI) ∧ ((V4 x24 x25 x26 x27) < qI))) ∧ ((Z4 x20 x21 x22 x23) ∧ (Z4 x28 x29 x30 x31))) 
 ∧ (L4 (((((N4 x16 x17 x18 x19) * (((N4 x16 x17 x18 x19) * (N4 x16 x17 x18 x19)) % qN)) % qN) + (N4 x24 x25 x26 x27)) % qN) fun x32 x33 x34 x35 => B4 0 0 0 0 fun x36 x37 x38 x39 => 
 ((((0 :Int) ≤ 3) ∧ ((3 :Int) < 18446744073709551616)) ∧ (B4 3 0 0 0 fun x40 x41 x42 x43 => B4 0 0 0 0 fun x44 x45 x46 x47 => B4 x8 x9 x10 x11 fun x48 x49 x50 x51 => B4 x12 x13 x14 x15 fun x52 x53 x54 x55 => B4 x8 x9 x10 x11 fun x56 x57 x58 x59 => B4 x12 x13 x14 x15 fun x60 x61 x62 x63 => 
 (((((W4 x48 x49 x50 x51) ∧ (W4 x56 x57 x58 x59)) ∧ (((V4 x48 x49 x50 x51) < qI) ∧ ((V4 x56 x57 x58 x59) < qI))) ∧ ((Z4 x52 x53 x54 x55) ∧ (Z4 x60 x61 x62 x63))) 
 ∧ (L4 (((N4 x48 x49 x50 x51) * (N4 x56 x57 x58 x59)) % qN) fun x64 x65 x66 x67 => B4 0 0 0 0 fun x68 x69 x70 x71 => (((((W4 x40 x41 x42 x43) ∧ (W4 x64 x65 x66 x67)) 
 ∧ (((V4 x40 x41 x42 x43) < qI) ∧ ((V4 x64 x65 x66 x67) < qI))) ∧ ((Z4 x44 x45 x46 x47) ∧ (Z4 x68 x69 x70 x71))) ∧ (L4 (((N4 x40 x41 x42 x43) * (N4 x64 x65 x66 x67)) % qN) fun x72 x73 x74 x75 => B4 0 0 0 0 fun x76 x77 x78 x79 => B4 x32 x33 x34 x35 fun x80 x81 x82 x83 => B4 x36 x37 x38 x39 fun x84 x85 x86 x87 => B4 x72 x73 x74 x75 fun x88 x89 x90 x91 => B4 x76 x77 x78 x79 fun x92 x93 x94 x95 => 
 (((((W4 x80 x81 x82 x83) ∧ (W4 x88 x89 x90 x91)) ∧ (((V4 x80 x81 x82 x83) < qI) ∧ ((V4 x88 x89 x90 x91) < qI))) ∧ ((Z4 x84 x85 x86 x87) ∧ (Z4 x92 x93 x94 x95))) 
 ∧ (L4 (((N4 x80 x81 x82 x83) * (N4 x88 x89 x90 x91)) % qN) fun x96 x97 x98 x99 => B4 0 0 0 0 fun x100 x101 x102 x103 => (((((W4 0 0 0 0) ∧ (W4 x96 x97 x98 x99)) 
 ∧ (((0 :Int) < qI) ∧ ((V4 x96 x97 x98 x99) < qI))) ∧ ((Z4 0 0 0 0) ∧ (Z4 x100 x101 x102 x103))) ∧ (L4 ((0 + (qN - (N4 x96 x97 x98 x99))) % qN) fun x104 x105 x106 x107 => B4 0 0 0 0 fun x108 x109 x110 x111 => 
 ((((W4 x104 x105 x106 x107) ∧ (Z4 x108 x109 x110 x111)) ∧ ((sqN (N4 x104 x105 x106 x107)) = Bool.true)) ∧ (L4 (rtN (N4 x104 x105 x106 x107)) fun x112 x113 x114 x115 => B4 0 0 0 0 fun x116 x117 x118 x119 => 
 (((W4 x112 x113 x114 x115) ∧ (Z4 x116 x117 x118 x119)) ∧ (B1 ((((N4 x112 x113 x114 x115) % 2) : Nat) : Int) fun x120 => ((((x120 == 1) = Bool.true) → 
 (L4 (rtN (N4 x104 x105 x106 x107)) fun x121 x122 x123 x124 => B4 0 0 0 0 fun x125 x126 x127 x128 => (((((W4 0 0 0 0) ∧ (W4 x121 x122 x123 x124)) ∧ (((0 :Int) < qI) 
 ∧ ((V4 x121 x122 x123 x124) < qI))) ∧ ((Z4 0 0 0 0) ∧ (Z4 x125 x126 x127 x128))) ∧ (L4 ((0 + (qN - (N4 x121 x122 x123 x124))) % qN) fun x129 x130 x131 x132 => B4 0 0 0 0 fun x133 x134 x135 x136 => 
 ((((0 :Int) ≤ 4) ∧ ((4 :Int) < 18446744073709551616)) ∧ (B4 4 0 0 0 fun x137 x138 x139 x140 => B4 0 0 0 0 fun x141 x142 x143 x144 => B4 x32 x33 x34 x35 fun x145 x146 x147 x148 => B4 x36 x37 x38 x39 fun x149 x150 x151 x152 => 
 (((((W4 x137 x138 x139 x140) ∧ (W4 x145 x146 x147 x148)) ∧ (((V4 x137 x138 x139 x140) < qI) ∧ ((V4 x145 x146 x147 x148) < qI))) ∧ ((Z4 x141 x142 x143 x144) 
 ∧ (Z4 x149 x150 x151 x152))) ∧ (L4 (((N4 x137 x138 x139 x140) * (N4 x145 x146 x147 x148)) % qN) fun x153 x154 x155 x156 => B4 0 0 0 0 fun x157 x158 x159 x160 => B4 x72 x73 x74 x75 fun x161 x162 x163 x164 => B4 x76 x77 x78 x79 fun x165 x166 x167 x168 => 
 ((((W4 x161 x162 x163 x164) ∧ ((V4 x161 x162 x163 x164) < qI)) ∧ (Z4 x165 x166 x167 x168)) ∧ (L4 (inv0 (N4 x161 x162 x163 x164)) fun x169 x170 x171 x172 => B4 0 0 0 0 fun x173 x174 x175 x176 => 
 (((((W4 x153 x154 x155 x156) ∧ (W4 x169 x170 x171 x172)) ∧ (((V4 x153 x154 x155 x156) < qI) ∧ ((V4 x169 x170 x171 x172) < qI))) ∧ ((Z4 x157 x158 x159 x160) 
 ∧ (Z4 x173 x174 x175 x176))) ∧ (L4 (((N4 x153 x154 x155 x156) * (N4 x169 x170 x171 x172)) % qN) fun x177 x178 x179 x180 => B4 0 0 0 0 fun x181 x182 x183 x184 => 
 (((((W4 0 0 0 0) ∧ (W4 x177 x178 x179 x180)) ∧ (((0 :Int) < qI) ∧ ((V4 x177 x178 x179 x180) < qI))) ∧ ((Z4 0 0 0 0) ∧ (Z4 x181 x182 x183 x184))) ∧ (L4 
 ((0 + (qN - (N4 x177 x178 x179 x180))) % qN) fun x185 x186 x187 x188 => B4 0 0 0 0 fun x189 x190 x191 x192 => B4 x8 x9 x10 x11 fun x193 x194 x195 x196 => B4 x12 x13 x14 x15 fun x197 x198 x199 x200 => 
 (((((W4 0 0 0 0) ∧ (W4 x193 x194 x195 x196)) ∧ (((0 :Int) < qI) ∧ ((V4 x193 x194 x195 x196) < qI))) ∧ ((Z4 0 0 0 0) ∧ (Z4 x197 x198 x199 x200))) ∧ (L4 
 ((0 + (qN - (N4 x193 x194 x195 x196))) % qN) fun x201 x202 x203 x204 => B4 0 0 0 0 fun x205 x206 x207 x208 => ((((0 :Int) ≤ 2) ∧ ((2 :Int) < 18446744073709551616)) 
 ∧ (B4 2 0 0 0 fun x209 x210 x211 x212 => B4 0 0 0 0 fun x213 x214 x215 x216 => ((((W4 x209 x210 x211 x212) ∧ ((V4 x209 x210 x211 x212) < qI)) ∧ (Z4 x213 x214 x215 x216)) 
 ∧ (L4 (inv0 (N4 x209 x210 x211 x212)) fun x217 x218 x219 x220 => B4 0 0 0 0 fun x221 x222 x223 x224 => (((((W4 x201 x202 x203 x204) ∧ (W4 x217 x218 x219 x220)) 
 ∧ (((V4 x201 x202 x203 x204) < qI) ∧ ((V4 x217 x218 x219 x220) < qI))) ∧ ((Z4 x205 x206 x207 x208) ∧ (Z4 x221 x222 x223 x224))) ∧ (L4 (((N4 x201 x202 x203 x204) * 
 (N4 x217 x218 x219 x220)) % qN) fun x225 x226 x227 x228 => B4 0 0 0 0 fun x229 x230 x231 x232 => B4 u0 u1 u2 u3 fun x233 x234 x235 x236 => B4 0 0 0 0 fun x237 x238 x239 x240 => B4 u0 u1 u2 u3 fun x241 x242 x243 x244 => B4 0 0 0 0 fun x245 x246 x247 x248 => 
 (((((W4 x233 x234 x235 x236) ∧ (W4 x241 x242 x243 x244)) ∧ (((V4 x233 x234 x235 x236) < qI) ∧ ((V4 x241 x242 x243 x244) < qI))) ∧ ((Z4 x237 x238 x239 x240) 
 ∧ (Z4 x245 x246 x247 x248))) ∧ (L4 (((N4 x233 x234 x235 x236) * (N4 x241 x242 x243 x244)) % qN) fun x249 x250 x251 x252 => B4 0 0 0 0 fun x253 x254 x255 x256 => B4 x32 x33 x34 x35 fun x257 x258 x259 x260 => B4 x36 x37 x38 x39 fun x261 x262 x263 x264 => 
 (((((W4 x249 x250 x251 x252) ∧ (W4 x257 x258 x259 x260)) ∧ (((V4 x249 x250 x251 x252) < qI) ∧ ((V4 x257 x258 x259 x260) < qI))) ∧ ((Z4 x253 x254 x255 x256) 
 ∧ (Z4 x261 x262 x263 x264))) ∧ (L4 (((N4 x249 x250 x251 x252) * (N4 x257 x258 x259 x260)) % qN) fun x265 x266 x267 x268 => B4 0 0 0 0 fun x269 x270 x271 x272 => 
 ((((0 :Int) ≤ 1) ∧ ((1 :Int) < 18446744073709551616)) ∧ (B4 1 0 0 0 fun x273 x274 x275 x276 => B4 0 0 0 0 fun x277 x278 x279 x280 => B4 x265 x266 x267 x268 fun x281 x282 x283 x284 => B4 x269 x270 x271 x272 fun x285 x286 x287 x288 => 
 (((((W4 x273 x274 x275 x276) ∧ (W4 x281 x282 x283 x284)) ∧ (((V4 x273 x274 x275 x276) < qI) ∧ ((V4 x281 x282 x283 x284) < qI))) ∧ ((Z4 x277 x278 x279 x280) 
 ∧ (Z4 x285 x286 x287 x288))) ∧ (L4 (((N4 x273 x274 x275 x276) + (N4 x281 x282 x283 x284)) % qN) fun x289 x290 x291 x292 => B4 0 0 0 0 fun x293 x294 x295 x296 => 
 ((((0 :Int) ≤ 1) ∧ ((1 :Int) < 18446744073709551616)) ∧ (B4 1 0 0 0 fun x297 x298 x299 x300 => B4 0 0 0 0 fun x301 x302 x303 x304 => B4 x265 x266 x267 x268 fun x305 x306 x307 x308 => B4 x269 x270 x271 x272 fun x309 x310 x311 x312 => 
 (((((W4 x297 x298 x299 x300) ∧ (W4 x305 x306 x307 x308)) ∧ (((V4 x297 x298 x299 x300) < qI) ∧ ((V4 x305 x306 x307 x308) < qI))) ∧ ((Z4 x301 x302 x303 x304) 
 ∧ (Z4 x309 x310 x311 x312))) ∧ (L4 (((N4 x297 x298 x299 x300) + (qN - (N4 x305 x306 x307 x308))) % qN) fun x313 x314 x315 x316 => B4 0 0 0 0 fun x317 x318 x319 x320 => B4 x313 x314 x315 x316 fun x321 x322 x323 x324 => B4 x317 x318 x319 x320 fun x325 x326 x327 x328 => B4 x289 x290 x291 x292 fun x329 x330 x331 x332 => B4 x293 x294 x295 x296 fun x333 x334 x335 x336 => 
 (((((W4 x321 x322 x323 x324) ∧ (W4 x329 x330 x331 x332)) ∧ (((V4 x321 x322 x323 x324) < qI) ∧ ((V4 x329 x330 x331 x332) < qI))) ∧ ((Z4 x325 x326 x327 x328) 
 ∧ (Z4 x333 x334 x335 x336))) ∧ (L4 (((N4 x321 x322 x323 x324) * (N4 x329 x330 x331 x332)) % qN) fun x337 x338 x339 x340 => B4 0 0 0 0 fun x341 x342 x343 x344 => 
 ((((W4 x337 x338 x339 x340) ∧ ((V4 x337 x338 x339 x340) < qI)) ∧ (Z4 x341 x342 x343 x344)) ∧ (L4 (inv0 (N4 x337 x338 x339 x340)) fun x345 x346 x347 x348 => B4 0 0 0 0 fun x349 x350 x351 x352 => B4 u0 u1 u2 u3 fun x353 x354 x355 x356 => B4 0 0 0 0 fun x357 x358 x359 x360 => B4 x313 x314 x315 x316 fun x361 x362 x363 x364 => B4 x317 x318 x319 x320 fun x365 x366 x367 x368 => 
 (((((W4 x353 x354 x355 x356) ∧ (W4 x361 x362 x363 x364)) ∧ (((V4 x353 x354 x355 x356) < qI) ∧ ((V4 x361 x362 x363 x364) < qI))) ∧ ((Z4 x357 x358 x359 x360) 
 ∧ (Z4 x365 x366 x367 x368))) ∧ (L4 (((N4 x353 x354 x355 x356) * (N4 x361 x362 x363 x364)) % qN) fun x369 x370 x371 x372 => B4 0 0 0 0 fun x373 x374 x375 x376 => B4 x345 x346 x347 x348 fun x377 x378 x379 x380 => B4 x349 x350 x351 x352 fun x381 x382 x383 x384 => 
 (((((W4 x369 x370 x371 x372) ∧ (W4 x377 x378 x379 x380)) ∧ (((V4 x369 x370 x371 x372) < qI) ∧ ((V4 x377 x378 x379 x380) < qI))) ∧ ((Z4 x373 x374 x375 x376) 
 ∧ (Z4 x381 x382 x383 x384))) ∧ (L4 (((N4 x369 x370 x371 x372) * (N4 x377 x378 x379 x380)) % qN) fun x385 x386 x387 x388 => B4 0 0 0 0 fun x389 x390 x391 x392 => B4 x129 x130 x131 x132 fun x393 x394 x395 x396 => B4 x133 x134 x135 x136 fun x397 x398 x399 x400 => 
 (((((W4 x385 x386 x387 x388) ∧ (W4 x393 x394 x395 x396)) ∧ (((V4 x385 x386 x387 x388) < qI) ∧ ((V4 x393 x394 x395 x396) < qI))) ∧ ((Z4 x389 x390 x391 x392) 
 ∧ (Z4 x397 x398 x399 x400))) ∧ (L4 (((N4 x385 x386 x387 x388) * (N4 x393 x394 x395 x396)) % qN) fun x401 x402 x403 x404 => B4 0 0 0 0 fun x405 x406 x407 x408 => B4 x225 x226 x227 x228 fun x409 x410 x411 x412 => B4 x229 x230 x231 x232 fun x413 x414 x415 x416 => B4 x401 x402 x403 x404 fun x417 x418 x419 x420 => B4 x405 x406 x407 x408 fun x421 x422 x423 x424 => 
 (((((W4 x409 x410 x411 x412) ∧ (W4 x417 x418 x419 x420)) ∧ (((V4 x409 x410 x411 x412) < qI) ∧ ((V4 x417 x418 x419 x420) < qI))) ∧ ((Z4 x413 x414 x415 x416) 
 ∧ (Z4 x421 x422 x423 x424))) ∧ (L4 (((N4 x409 x410 x411 x412) + (qN - (N4 x417 x418 x419 x420))) % qN) fun x425 x426 x427 x428 => B4 0 0 0 0 fun x429 x430 x431 x432 => B4 x425 x426 x427 x428 fun x433 x434 x435 x436 => B4 x429 x430 x431 x432 fun x437 x438 x439 x440 => B4 3 0 0 0 fun x441 x442 x443 x444 => B4 0 0 0 0 fun x445 x446 x447 x448 => 
 (((((W4 x433 x434 x435 x436) ∧ (W4 x441 x442 x443 x444)) ∧ (((V4 x433 x434 x435 x436) < qI) ∧ ((V4 x441 x442 x443 x444) < qI))) ∧ ((Z4 x437 x438 x439 x440) 
 ∧ (Z4 x445 x446 x447 x448))) ∧ (L4 (((((N4 x433 x434 x435 x436) * (((N4 x433 x434 x435 x436) * (N4 x433 x434 x435 x436)) % qN)) % qN) + (N4 x441 x442 x443 x444)) % qN) fun x449 x450 x451 x452 => B4 0 0 0 0 fun x453 x454 x455 x456 => 
 (((W4 x449 x450 x451 x452) ∧ (Z4 x453 x454 x455 x456)) ∧ ((((Bool.not (sqN (N4 x449 x450 x451 x452))) = Bool.true) → (B4 x225 x226 x227 x228 fun x457 x458 x459 x460 => B4 x229 x230 x231 x232 fun x461 x462 x463 x464 => B4 x401 x402 x403 x404 fun x465 x466 x467 x468 => B4 x405 x406 x407 x408 fun x469 x470 x471 x472 => 
 (((((W4 x457 x458 x459 x460) ∧ (W4 x465 x466 x467 x468)) ∧ (((V4 x457 x458 x459 x460) < qI) ∧ ((V4 x465 x466 x467 x468) < qI))) ∧ ((Z4 x461 x462 x463 x464) 
 ∧ (Z4 x469 x470 x471 x472))) ∧ (L4 (((N4 x457 x458 x459 x460) + (N4 x465 x466 x467 x468)) % qN) fun x473 x474 x475 x476 => B4 0 0 0 0 fun x477 x478 x479 x480 => B4 x473 x474 x475 x476 fun x481 x482 x483 x484 => B4 x477 x478 x479 x480 fun x485 x486 x487 x488 => B4 3 0 0 0 fun x489 x490 x491 x492 => B4 0 0 0 0 fun x493 x494 x495 x496 => 
 (((((W4 x481 x482 x483 x484) ∧ (W4 x489 x490 x491 x492)) ∧ (((V4 x481 x482 x483 x484) < qI) ∧ ((V4 x489 x490 x491 x492) < qI))) ∧ ((Z4 x485 x486 x487 x488) 
 ∧ (Z4 x493 x494 x495 x496))) ∧ (L4 (((((N4 x481 x482 x483 x484) * (((N4 x481 x482 x483 x484) * (N4 x481 x482 x483 x484)) % qN)) % qN) + (N4 x489 x490 x491 x492)) % qN) fun x497 x498 x499 x500 => B4 0 0 0 0 fun x501 x502 x503 x504 => 
 (((W4 x497 x498 x499 x500) ∧ (Z4 x501 x502 x503 x504)) ∧ ((((Bool.not (sqN (N4 x497 x498 x499 x500))) = Bool.true) → (B4 x289 x290 x291 x292 fun x505 x506 x507 x508 => B4 x293 x294 x295 x296 fun x509 x510 x511 x512 => B4 x289 x290 x291 x292 fun x513 x514 x515 x516 => B4 x293 x294 x295 x296 fun x517 x518 x519 x520 => 
 (((((W4 x505 x506 x507 x508) ∧ (W4 x513 x514 x515 x516)) ∧ (((V4 x505 x506 x507 x508) < qI) ∧ ((V4 x513 x514 x515 x516) < qI))) ∧ ((Z4 x509 x510 x511 x512) 
 ∧ (Z4 x517 x518 x519 x520))) ∧ (L4 (((N4 x505 x506 x507 x508) * (N4 x513 x514 x515 x516)) % qN) fun x521 x522 x523 x524 => B4 0 0 0 0 fun x525 x526 x527 x528 => B4 x345 x346 x347 x348 fun x529 x530 x531 x532 => B4 x349 x350 x351 x352 fun x533 x534 x535 x536 => 
 (((((W4 x521 x522 x523 x524) ∧ (W4 x529 x530 x531 x532)) ∧ (((V4 x521 x522 x523 x524) < qI) ∧ ((V4 x529 x530 x531 x532) < qI))) ∧ ((Z4 x525 x526 x527 x528) 
 ∧ (Z4 x533 x534 x535 x536))) ∧ (L4 (((N4 x521 x522 x523 x524) * (N4 x529 x530 x531 x532)) % qN) fun x537 x538 x539 x540 => B4 0 0 0 0 fun x541 x542 x543 x544 => B4 x537 x538 x539 x540 fun x545 x546 x547 x548 => B4 x541 x542 x543 x544 fun x549 x550 x551 x552 => B4 x537 x538 x539 x540 fun x553 x554 x555 x556 => B4 x541 x542 x543 x544 fun x557 x558 x559 x560 => 
 (((((W4 x545 x546 x547 x548) ∧ (W4 x553 x554 x555 x556)) ∧ (((V4 x545 x546 x547 x548) < qI) ∧ ((V4 x553 x554 x555 x556) < qI))) ∧ ((Z4 x549 x550 x551 x552) 
 ∧ (Z4 x557 x558 x559 x560))) ∧ (L4 (((N4 x545 x546 x547 x548) * (N4 x553 x554 x555 x556)) % qN) fun x561 x562 x563 x564 => B4 0 0 0 0 fun x565 x566 x567 x568 => B4 x185 x186 x187 x188 fun x569 x570 x571 x572 => B4 x189 x190 x191 x192 fun x573 x574 x575 x576 => 
 (((((W4 x561 x562 x563 x564) ∧ (W4 x569 x570 x571 x572)) ∧ (((V4 x561 x562 x563 x564) < qI) ∧ ((V4 x569 x570 x571 x572) < qI))) ∧ ((Z4 x565 x566 x567 x568) 
 ∧ (Z4 x573 x574 x575 x576))) ∧ (L4 (((N4 x561 x562 x563 x564) * (N4 x569 x570 x571 x572)) % qN) fun x577 x578 x579 x580 => B4 0 0 0 0 fun x581 x582 x583 x584 => B4 x8 x9 x10 x11 fun x585 x586 x587 x588 => B4 x12 x13 x14 x15 fun x589 x590 x591 x592 => 
 (((((W4 x577 x578 x579 x580) ∧ (W4 x585 x586 x587 x588)) ∧ (((V4 x577 x578 x579 x580) < qI) ∧ ((V4 x585 x586 x587 x588) < qI))) ∧ ((Z4 x581 x582 x583 x584) 
 ∧ (Z4 x589 x590 x591 x592))) ∧ (L4 (((N4 x577 x578 x579 x580) + (N4 x585 x586 x587 x588)) % qN) fun x593 x594 x595 x596 => B4 0 0 0 0 fun x597 x598 x599 x600 => B4 x593 x594 x595 x596 fun x601 x602 x603 x604 => B4 x597 x598 x599 x600 fun x605 x606 x607 x608 => B4 3 0 0 0 fun x609 x610 x611 x612 => B4 0 0 0 0 fun x613 x614 x615 x616 => 
 (((((W4 x601 x602 x603 x604) ∧ (W4 x609 x610 x611 x612)) ∧ (((V4 x601 x602 x603 x604) < qI) ∧ ((V4 x609 x610 x611 x612) < qI))) ∧ ((Z4 x605 x606 x607 x608) 
 ∧ (Z4 x613 x614 x615 x616))) ∧ (L4 (((((N4 x601 x602 x603 x604) * (((N4 x601 x602 x603 x604) * (N4 x601 x602 x603 x604)) % qN)) % qN) + (N4 x609 x610 x611 x612)) % qN) fun x617 x618 x619 x620 => B4 0 0 0 0 fun x621 x622 x623 x624 => 
 ((((W4 x617 x618 x619 x620) ∧ (Z4 x621 x622 x623 x624)) ∧ ((sqN (N4 x617 x618 x619 x620)) = Bool.true)) ∧ (L4 (rtN (N4 x617 x618 x619 x620)) fun x625 x626 x627 x628 => B4 0 0 0 0 fun x629 x630 x631 x632 => 
 (((W4 x625 x626 x627 x628) ∧ (Z4 x629 x630 x631 x632)) ∧ (B4 ((((N4 x625 x626 x627 x628) % 2) : Nat) : Int) u0 u1 u2 fun x633 x634 x635 x636 => B4 u3 0 0 0 fun x637 x638 x639 x640 => B1 0 fun x641 => 
 (((W4 x634 x635 x636 x637) ∧ (Z4 x638 x639 x640 x641)) ∧ (B1 ((((N4 x634 x635 x636 x637) % 2) : Nat) : Int) fun x642 => ((((x633 != x642) = Bool.true) 
 → (L4 (rtN (N4 x617 x618 x619 x620)) fun x643 x644 x645 x646 => B4 0 0 0 0 fun x647 x648 x649 x650 => (((((W4 0 0 0 0) ∧ (W4 x643 x644 x645 x646)) ∧ (((0 :Int) < qI) 
 ∧ ((V4 x643 x644 x645 x646) < qI))) ∧ ((Z4 0 0 0 0) ∧ (Z4 x647 x648 x649 x650))) ∧ (L4 ((0 + (qN - (N4 x643 x644 x645 x646))) % qN) fun x651 x652 x653 x654 => B4 0 0 0 0 fun x655 x656 x657 x658 => B4 x593 x594 x595 x596 fun x659 x660 x661 x662 => B4 x597 x598 x599 x600 fun x663 x664 x665 x666 => B4 x651 x652 x653 x654 fun x667 x668 x669 x670 => B4 x655 x656 x657 x658 fun x671 x672 x673 x674 => 
 (K (SV.agg [(U x659), (U x660), (U x661), (U x662), (U x663), (U x664), (U x665), (U x666), (U x667), (U x668), (U x669), (U x670), (U x671), (U x672), 
 (U x673), (U x674)]) (memL [(513, (Reg.mk Bool.false (Ct.cells [(U u0), (U u1), (U u2), (U u3), (SV.int IntKind.u64 (A.sym 0)), (SV.int IntKind.u64 (A.sym 0)), 
 (SV.int IntKind.u64 (A.sym 0)), (SV.int IntKind.u64 (A.sym 0))]))), (521, (Reg.mk Bool.false (Ct.cells [(SV.int IntKind.u64 (A.sym 3)), (SV.int IntKind.u64 
 (A.sym 0)), (SV.int IntKind.u64 (A.sym 0)), (SV.int IntKind.u64 (A.sym 0)), (SV.int IntKind.u64 (A.sym 0)), (SV.int IntKind.u64 (A.sym 0)), (SV.int IntKind.u64 
 (A.sym 0)), (SV.int IntKind.u64 (A.sym 0))]))), (529, (Reg.mk Bool.false (Ct.cells [(U x659), (U x660), (U x661), (U x662), (U x663), (U x664), (U x665), 
 (U x666), (U x667), (U x668), (U x669), (U x670), (U x671), (U x672), (U x673), (U x674)]))), (561, (Reg.mk Bool.false (Ct.cells [(U x8), (U x9), (U x10), 
 (U x11), (U x12), (U x13), (U x14), (U x15)]))), (601, (Reg.mk Bool.false (Ct.cells [(U x32), (U x33), (U x34), (U x35), (U x36), (U x37), (U x38), (U x39)]))), 
 (657, (Reg.mk Bool.false (Ct.cells [(U x72), (U x73), (U x74), (U x75), (U x76), (U x77), (U x78), (U x79)]))), (745, (Reg.mk Bool.false (Ct.cells [(U x129), 
 (U x130), (U x131), (U x132), (U x133), (U x134), (U x135), (U x136)]))), (889, (Reg.mk Bool.false (Ct.cells [(U x185), (U x186), (U x187), (U x188), 
 (U x189), (U x190), (U x191), (U x192)]))), (953, (Reg.mk Bool.false (Ct.cells [(U x225), (U x226), (U x227), (U x228), (U x229), (U x230), (U x231), 
 (U x232)]))), (1009, (Reg.mk Bool.false (Ct.cells [(U x265), (U x266), (U x267), (U x268), (U x269), (U x270), (U x271), (U x272)]))), (1073, (Reg.mk Bool.false 
 (Ct.cells [(U x289), (U x290), (U x291), (U x292), (U x293), (U x294), (U x295), (U x296)]))), (1081, (Reg.mk Bool.false (Ct.cells [(U x313), (U x314), 
 (U x315), (U x316), (U x317), (U x318), (U x319), (U x320)]))), (1137, (Reg.mk Bool.false (Ct.cells [(U x345), (U x346), (U x347), (U x348), (U x349), 
 (U x350), (U x351), (U x352)]))), (1209, (Reg.mk Bool.false (Ct.cells [(U x401), (U x402), (U x403), (U x404), (U x405), (U x406), (U x407), (U x408)]))), 
 (1249, (Reg.mk Bool.false (Ct.cells [(U x593), (U x594), (U x595), (U x596), (U x597), (U x598), (U x599), (U x600)]))), (1433, (Reg.mk Bool.false (Ct.cells [(U x537), 
 (U x538), (U x539), (U x540), (U x541), (U x542), (U x543), (U x544)]))), (1569, (Reg.mk Bool.false (Ct.cells [(U x651), (U x652), (U x653), (U x654), 
 (U x655), (U x656), (U x657), (U x658)])))])))))) ∧ (((x633 != x642) = Bool.false) → (B4 x593 x594 x595 x596 fun x675 x676 x677 x678 => B4 x597 x598 x599 x600 fun x679 x680 x681 x682 => L4 
 (rtN (N4 x617 x618 x619 x620)) fun x683 x684 x685 x686 => B4 0 0 0 0 fun x687 x688 x689 x690 => (K (SV.agg [(U x675), (U x676), (U x677), (U x678), (U x679), 
 (U x680), (U x681), (U x682), (U x683), (U x684), (U x685), (U x686), (U x687), (U x688), (U x689), (U x690)]) (memL [(513, (Reg.mk Bool.false (Ct.cells [(U u0), 
 (U u1), (U u2), (U u3), (SV.int IntKind.u64 (A.sym 0)), (SV.int IntKind.u64 (A.sym 0)), (SV.int IntKind.u64 (A.sym 0)), (SV.int IntKind.u64 (A.sym 0))]))), 
 (521, (Reg.mk Bool.false (Ct.cells [(SV.int IntKind.u64 (A.sym 3)), (SV.int IntKind.u64 (A.sym 0)), (SV.int IntKind.u64 (A.sym 0)), (SV.int IntKind.u64 
 (A.sym 0)), (SV.int IntKind.u64 (A.sym 0)), (SV.int IntKind.u64 (A.sym 0)), (SV.int IntKind.u64 (A.sym 0)), (SV.int IntKind.u64 (A.sym 0))]))), (529, 
 (Reg.mk Bool.false (Ct.cells [(U x675), (U x676), (U x677), (U x678), (U x679), (U x680), (U x681), (U x682), (U x683), (U x684), (U x685), (U x686), 
 (U x687), (U x688), (U x689), (U x690)]))), (561, (Reg.mk Bool.false (Ct.cells [(U x8), (U x9), (U x10), (U x11), (U x12), (U x13), (U x14), (U x15)]))), 
 (601, (Reg.mk Bool.false (Ct.cells [(U x32), (U x33), (U x34), (U x35), (U x36), (U x37), (U x38), (U x39)]))), (657, (Reg.mk Bool.false (Ct.cells [(U x72), 
 (U x73), (U x74), (U x75), (U x76), (U x77), (U x78), (U x79)]))), (745, (Reg.mk Bool.false (Ct.cells [(U x129), (U x130), (U x131), (U x132), (U x133), 
 (U x134), (U x135), (U x136)]))), (889, (Reg.mk Bool.false (Ct.cells [(U x185), (U x186), (U x187), (U x188), (U x189), (U x190), (U x191), (U x192)]))), 
 (953, (Reg.mk Bool.false (Ct.cells [(U x225), (U x226), (U x227), (U x228), (U x229), (U x230), (U x231), (U x232)]))), (1009, (Reg.mk Bool.false (Ct.cells [(U x265), 
 (U x266), (U x267), (U x268), (U x269), (U x270), (U x271), (U x272)]))), (1073, (Reg.mk Bool.false (Ct.cells [(U x289), (U x290), (U x291), (U x292), 
 (U x293), (U x294), (U x295), (U x296)]))), (1081, (Reg.mk Bool.false (Ct.cells [(U x313), (U x314), (U x315), (U x316), (U x317), (U x318), (U x319), 
 (U x320)]))), (1137, (Reg.mk Bool.false (Ct.cells [(U x345), (U x346), (U x347), (U x348), (U x349), (U x350), (U x351), (U x352)]))), (1209, (Reg.mk Bool.false 
 (Ct.cells [(U x401), (U x402), (U x403), (U x404), (U x405), (U x406), (U x407), (U x408)]))), (1249, (Reg.mk Bool.false (Ct.cells [(U x593), (U x594), 
 (U x595), (U x596), (U x597), (U x598), (U x599), (U x600)]))), (1433, (Reg.mk Bool.false (Ct.cells [(U x537), (U x538), (U x539), (U x540), (U x541), 
 (U x542), (U x543), (U x544)]))), (1569, (Reg.mk Bool.false (Ct.cells [(SV.int IntKind.u64 (A.sym (lm (rtN (N4 x617 x618 x619 x620)) 0))), (SV.int IntKind.u64 
 (A.sym (lm (rtN (N4 x617 x618 x619 x620)) 1))), (SV.int IntKind.u64 (A.sym (lm (rtN (N4 x617 x618 x619 x620)) 2))), (SV.int IntKind.u64 (A.sym (lm (rtN 
 (N4 x617 x618 x619 x620)) 3))), (SV.int IntKind.u64 (A.sym 0)), (SV.int IntKind.u64 (A.sym 0)), (SV.int IntKind.u64 (A.sym 0)), (SV.int IntKind.u64 (A.sym 0))])))]))))))))))))))))))))))))) 
 ∧ (((Bool.not (sqN (N4 x497 x498 x499 x500))) = Bool.false) → (B4 x473 x474 x475 x476 fun x691 x692 x693 x694 => B4 x477 x478 x479 x480 fun x695 x696 x697 x698 => B4 3 0 0 0 fun x699 x700 x701 x702 => B4 0 0 0 0 fun x703 x704 x705 x706 => 
 (((((W4 x691 x692 x693 x694) ∧ (W4 x699 x700 x701 x702)) ∧ (((V4 x691 x692 x693 x694) < qI) ∧ ((V4 x699 x700 x701 x702) < qI))) ∧ ((Z4 x695 x696 x697 x698) 
 ∧ (Z4 x703 x704 x705 x706))) ∧ (L4 (((((N4 x691 x692 x693 x694) * (((N4 x691 x692 x693 x694) * (N4 x691 x692 x693 x694)) % qN)) % qN) + (N4 x699 x700 x701 x702)) % qN) fun x707 x708 x709 x710 => B4 0 0 0 0 fun x711 x712 x713 x714 => 
 ((((W4 x707 x708 x709 x710) ∧ (Z4 x711 x712 x713 x714)) ∧ ((sqN (N4 x707 x708 x709 x710)) = Bool.true)) ∧ (L4 (rtN (N4 x707 x708 x709 x710)) fun x715 x716 x717 x718 => B4 0 0 0 0 fun x719 x720 x721 x722 => 
 (((W4 x715 x716 x717 x718) ∧ (Z4 x719 x720 x721 x722)) ∧ (B4 ((((N4 x715 x716 x717 x718) % 2) : Nat) : Int) u0 u1 u2 fun x723 x724 x725 x726 => B4 u3 0 0 0 fun x727 x728 x729 x730 => B1 0 fun x731 => 
 (((W4 x724 x725 x726 x727) ∧ (Z4 x728 x729 x730 x731)) ∧ (B1 ((((N4 x724 x725 x726 x727) % 2) : Nat) : Int) fun x732 => ((((x723 != x732) = Bool.true) 
 → (L4 (rtN (N4 x707 x708 x709 x710)) fun x733 x734 x735 x736 => B4 0 0 0 0 fun x737 x738 x739 x740 => (((((W4 0 0 0 0) ∧ (W4 x733 x734 x735 x736)) ∧ (((0 :Int) < qI) 
 ∧ ((V4 x733 x734 x735 x736) < qI))) ∧ ((Z4 0 0 0 0) ∧ (Z4 x737 x738 x739 x740))) ∧ (L4 ((0 + (qN - (N4 x733 x734 x735 x736))) % qN) fun x741 x742 x743 x744 => B4 0 0 0 0 fun x745 x746 x747 x748 => B4 x473 x474 x475 x476 fun x749 x750 x751 x752 => B4 x477 x478 x479 x480 fun x753 x754 x755 x756 => B4 x741 x742 x743 x744 fun x757 x758 x759 x760 => B4 x745 x746 x747 x748 fun x761 x762 x763 x764 => 
 (K (SV.agg [(U x749), (U x750), (U x751), (U x752), (U x753), (U x754), (U x755), (U x756), (U x757), (U x758), (U x759), (U x760), (U x761), (U x762), 
 (U x763), (U x764)]) (memL [(513, (Reg.mk Bool.false (Ct.cells [(U u0), (U u1), (U u2), (U u3), (SV.int IntKind.u64 (A.sym 0)), (SV.int IntKind.u64 (A.sym 0)), 
 (SV.int IntKind.u64 (A.sym 0)), (SV.int IntKind.u64 (A.sym 0))]))), (521, (Reg.mk Bool.false (Ct.cells [(SV.int IntKind.u64 (A.sym 3)), (SV.int IntKind.u64 
 (A.sym 0)), (SV.int IntKind.u64 (A.sym 0)), (SV.int IntKind.u64 (A.sym 0)), (SV.int IntKind.u64 (A.sym 0)), (SV.int IntKind.u64 (A.sym 0)), (SV.int IntKind.u64 
 (A.sym 0)), (SV.int IntKind.u64 (A.sym 0))]))), (529, (Reg.mk Bool.false (Ct.cells [(U x749), (U x750), (U x751), (U x752), (U x753), (U x754), (U x755), 
 (U x756), (U x757), (U x758), (U x759), (U x760), (U x761), (U x762), (U x763), (U x764)]))), (561, (Reg.mk Bool.false (Ct.cells [(U x8), (U x9), (U x10), 
 (U x11), (U x12), (U x13), (U x14), (U x15)]))), (601, (Reg.mk Bool.false (Ct.cells [(U x32), (U x33), (U x34), (U x35), (U x36), (U x37), (U x38), (U x39)]))), 
 (657, (Reg.mk Bool.false (Ct.cells [(U x72), (U x73), (U x74), (U x75), (U x76), (U x77), (U x78), (U x79)]))), (745, (Reg.mk Bool.false (Ct.cells [(U x129), 
 (U x130), (U x131), (U x132), (U x133), (U x134), (U x135), (U x136)]))), (889, (Reg.mk Bool.false (Ct.cells [(U x185), (U x186), (U x187), (U x188), 
 (U x189), (U x190), (U x191), (U x192)]))), (953, (Reg.mk Bool.false (Ct.cells [(U x225), (U x226), (U x227), (U x228), (U x229), (U x230), (U x231), 
 (U x232)]))), (1009, (Reg.mk Bool.false (Ct.cells [(U x265), (U x266), (U x267), (U x268), (U x269), (U x270), (U x271), (U x272)]))), (1073, (Reg.mk Bool.false 
 (Ct.cells [(U x289), (U x290), (U x291), (U x292), (U x293), (U x294), (U x295), (U x296)]))), (1081, (Reg.mk Bool.false (Ct.cells [(U x313), (U x314), 
 (U x315), (U x316), (U x317), (U x318), (U x319), (U x320)]))), (1137, (Reg.mk Bool.false (Ct.cells [(U x345), (U x346), (U x347), (U x348), (U x349), 
 (U x350), (U x351), (U x352)]))), (1209, (Reg.mk Bool.false (Ct.cells [(U x401), (U x402), (U x403), (U x404), (U x405), (U x406), (U x407), (U x408)]))), 
 (1249, (Reg.mk Bool.false (Ct.cells [(U x473), (U x474), (U x475), (U x476), (U x477), (U x478), (U x479), (U x480)]))), (1449, (Reg.mk Bool.false (Ct.cells [(U x741), 
 (U x742), (U x743), (U x744), (U x745), (U x746), (U x747), (U x748)])))])))))) ∧ (((x723 != x732) = Bool.false) → (B4 x473 x474 x475 x476 fun x765 x766 x767 x768 => B4 x477 x478 x479 x480 fun x769 x770 x771 x772 => L4 
 (rtN (N4 x707 x708 x709 x710)) fun x773 x774 x775 x776 => B4 0 0 0 0 fun x777 x778 x779 x780 => (K (SV.agg [(U x765), (U x766), (U x767), (U x768), (U x769), 
 (U x770), (U x771), (U x772), (U x773), (U x774), (U x775), (U x776), (U x777), (U x778), (U x779), (U x780)]) (memL [(513, (Reg.mk Bool.false (Ct.cells [(U u0), 
 (U u1), (U u2), (U u3), (SV.int IntKind.u64 (A.sym 0)), (SV.int IntKind.u64 (A.sym 0)), (SV.int IntKind.u64 (A.sym 0)), (SV.int IntKind.u64 (A.sym 0))]))), 
 (521, (Reg.mk Bool.false (Ct.cells [(SV.int IntKind.u64 (A.sym 3)), (SV.int IntKind.u64 (A.sym 0)), (SV.int IntKind.u64 (A.sym 0)), (SV.int IntKind.u64 
 (A.sym 0)), (SV.int IntKind.u64 (A.sym 0)), (SV.int IntKind.u64 (A.sym 0)), (SV.int IntKind.u64 (A.sym 0)), (SV.int IntKind.u64 (A.sym 0))]))), (529, 
 (Reg.mk Bool.false (Ct.cells [(U x765), (U x766), (U x767), (U x768), (U x769), (U x770), (U x771), (U x772), (U x773), (U x774), (U x775), (U x776), 
 (U x777), (U x778), (U x779), (U x780)]))), (561, (Reg.mk Bool.false (Ct.cells [(U x8), (U x9), (U x10), (U x11), (U x12), (U x13), (U x14), (U x15)]))), 
 (601, (Reg.mk Bool.false (Ct.cells [(U x32), (U x33), (U x34), (U x35), (U x36), (U x37), (U x38), (U x39)]))), (657, (Reg.mk Bool.false (Ct.cells [(U x72), 
 (U x73), (U x74), (U x75), (U x76), (U x77), (U x78), (U x79)]))), (745, (Reg.mk Bool.false (Ct.cells [(U x129), (U x130), (U x131), (U x132), (U x133), 
 (U x134), (U x135), (U x136)]))), (889, (Reg.mk Bool.false (Ct.cells [(U x185), (U x186), (U x187), (U x188), (U x189), (U x190), (U x191), (U x192)]))), 
 (953, (Reg.mk Bool.false (Ct.cells [(U x225), (U x226), (U x227), (U x228), (U x229), (U x230), (U x231), (U x232)]))), (1009, (Reg.mk Bool.false (Ct.cells [(U x265), 
 (U x266), (U x267), (U x268), (U x269), (U x270), (U x271), (U x272)]))), (1073, (Reg.mk Bool.false (Ct.cells [(U x289), (U x290), (U x291), (U x292), 
 (U x293), (U x294), (U x295), (U x296)]))), (1081, (Reg.mk Bool.false (Ct.cells [(U x313), (U x314), (U x315), (U x316), (U x317), (U x318), (U x319), 
 (U x320)]))), (1137, (Reg.mk Bool.false (Ct.cells [(U x345), (U x346), (U x347), (U x348), (U x349), (U x350), (U x351), (U x352)]))), (1209, (Reg.mk Bool.false 
 (Ct.cells [(U x401), (U x402), (U x403), (U x404), (U x405), (U x406), (U x407), (U x408)]))), (1249, (Reg.mk Bool.false (Ct.cells [(U x473), (U x474), 
 (U x475), (U x476), (U x477), (U x478), (U x479), (U x480)]))), (1449, (Reg.mk Bool.false (Ct.cells [(SV.int IntKind.u64 (A.sym (lm (rtN (N4 x707 x708 x709 x710)) 0))), 
 (SV.int IntKind.u64 (A.sym (lm (rtN (N4 x707 x708 x709 x710)) 1))), (SV.int IntKind.u64 (A.sym (lm (rtN (N4 x707 x708 x709 x710)) 2))), (SV.int IntKind.u64 
 (A.sym (lm (rtN (N4 x707 x708 x709 x710)) 3))), (SV.int IntKind.u64 (A.sym 0)), (SV.int IntKind.u64 (A.sym 0)), (SV.int IntKind.u64 (A.sym 0)), (SV.int IntKind.u64 
 (A.sym 0))])))]))))))))))))))))))))))) ∧ (((Bool.not (sqN (N4 x449 x450 x451 x452))) = Bool.false) → (B4 x425 x426 x427 x428 fun x781 x782 x783 x784 => B4 x429 x430 x431 x432 fun x785 x786 x787 x788 => B4 3 0 0 0 fun x789 x790 x791 x792 => B4 0 0 0 0 fun x793 x794 x795 x796 => 
 (((((W4 x781 x782 x783 x784) ∧ (W4 x789 x790 x791 x792)) ∧ (((V4 x781 x782 x783 x784) < qI) ∧ ((V4 x789 x790 x791 x792) < qI))) ∧ ((Z4 x785 x786 x787 x788) 
 ∧ (Z4 x793 x794 x795 x796))) ∧ (L4 (((((N4 x781 x782 x783 x784) * (((N4 x781 x782 x783 x784) * (N4 x781 x782 x783 x784)) % qN)) % qN) + (N4 x789 x790 x791 x792)) % qN) fun x797 x798 x799 x800 => B4 0 0 0 0 fun x801 x802 x803 x804 => 
 (((W4 x797 x798 x799 x800) ∧ (Z4 x801 x802 x803 x804)) ∧ ((((Bool.not (sqN (N4 x797 x798 x799 x800))) = Bool.true) → (B4 x289 x290 x291 x292 fun x805 x806 x807 x808 => B4 x293 x294 x295 x296 fun x809 x810 x811 x812 => B4 x289 x290 x291 x292 fun x813 x814 x815 x816 => B4 x293 x294 x295 x296 fun x817 x818 x819 x820 => 
 (((((W4 x805 x806 x807 x808) ∧ (W4 x813 x814 x815 x816)) ∧ (((V4 x805 x806 x807 x808) < qI) ∧ ((V4 x813 x814 x815 x816) < qI))) ∧ ((Z4 x809 x810 x811 x812) 
 ∧ (Z4 x817 x818 x819 x820))) ∧ (L4 (((N4 x805 x806 x807 x808) * (N4 x813 x814 x815 x816)) % qN) fun x821 x822 x823 x824 => B4 0 0 0 0 fun x825 x826 x827 x828 => B4 x345 x346 x347 x348 fun x829 x830 x831 x832 => B4 x349 x350 x351 x352 fun x833 x834 x835 x836 => 
 (((((W4 x821 x822 x823 x824) ∧ (W4 x829 x830 x831 x832)) ∧ (((V4 x821 x822 x823 x824) < qI) ∧ ((V4 x829 x830 x831 x832) < qI))) ∧ ((Z4 x825 x826 x827 x828) 
 ∧ (Z4 x833 x834 x835 x836))) ∧ (L4 (((N4 x821 x822 x823 x824) * (N4 x829 x830 x831 x832)) % qN) fun x837 x838 x839 x840 => B4 0 0 0 0 fun x841 x842 x843 x844 => B4 x837 x838 x839 x840 fun x845 x846 x847 x848 => B4 x841 x842 x843 x844 fun x849 x850 x851 x852 => B4 x837 x838 x839 x840 fun x853 x854 x855 x856 => B4 x841 x842 x843 x844 fun x857 x858 x859 x860 => 
 (((((W4 x845 x846 x847 x848) ∧ (W4 x853 x854 x855 x856)) ∧ (((V4 x845 x846 x847 x848) < qI) ∧ ((V4 x853 x854 x855 x856) < qI))) ∧ ((Z4 x849 x850 x851 x852) 
 ∧ (Z4 x857 x858 x859 x860))) ∧ (L4 (((N4 x845 x846 x847 x848) * (N4 x853 x854 x855 x856)) % qN) fun x861 x862 x863 x864 => B4 0 0 0 0 fun x865 x866 x867 x868 => B4 x185 x186 x187 x188 fun x869 x870 x871 x872 => B4 x189 x190 x191 x192 fun x873 x874 x875 x876 => 
 (((((W4 x861 x862 x863 x864) ∧ (W4 x869 x870 x871 x872)) ∧ (((V4 x861 x862 x863 x864) < qI) ∧ ((V4 x869 x870 x871 x872) < qI))) ∧ ((Z4 x865 x866 x867 x868) 
 ∧ (Z4 x873 x874 x875 x876))) ∧ (L4 (((N4 x861 x862 x863 x864) * (N4 x869 x870 x871 x872)) % qN) fun x877 x878 x879 x880 => B4 0 0 0 0 fun x881 x882 x883 x884 => B4 x8 x9 x10 x11 fun x885 x886 x887 x888 => B4 x12 x13 x14 x15 fun x889 x890 x891 x892 => 
 (((((W4 x877 x878 x879 x880) ∧ (W4 x885 x886 x887 x888)) ∧ (((V4 x877 x878 x879 x880) < qI) ∧ ((V4 x885 x886 x887 x888) < qI))) ∧ ((Z4 x881 x882 x883 x884) 
 ∧ (Z4 x889 x890 x891 x892))) ∧ (L4 (((N4 x877 x878 x879 x880) + (N4 x885 x886 x887 x888)) % qN) fun x893 x894 x895 x896 => B4 0 0 0 0 fun x897 x898 x899 x900 => B4 x893 x894 x895 x896 fun x901 x902 x903 x904 => B4 x897 x898 x899 x900 fun x905 x906 x907 x908 => B4 3 0 0 0 fun x909 x910 x911 x912 => B4 0 0 0 0 fun x913 x914 x915 x916 => 
 (((((W4 x901 x902 x903 x904) ∧ (W4 x909 x910 x911 x912)) ∧ (((V4 x901 x902 x903 x904) < qI) ∧ ((V4 x909 x910 x911 x912) < qI))) ∧ ((Z4 x905 x906 x907 x908) 
 ∧ (Z4 x913 x914 x915 x916))) ∧ (L4 (((((N4 x901 x902 x903 x904) * (((N4 x901 x902 x903 x904) * (N4 x901 x902 x903 x904)) % qN)) % qN) + (N4 x909 x910 x911 x912)) % qN) fun x917 x918 x919 x920 => B4 0 0 0 0 fun x921 x922 x923 x924 => 
 ((((W4 x917 x918 x919 x920) ∧ (Z4 x921 x922 x923 x924)) ∧ ((sqN (N4 x917 x918 x919 x920)) = Bool.true)) ∧ (L4 (rtN (N4 x917 x918 x919 x920)) fun x925 x926 x927 x928 => B4 0 0 0 0 fun x929 x930 x931 x932 => 
 (((W4 x925 x926 x927 x928) ∧ (Z4 x929 x930 x931 x932)) ∧ (B4 ((((N4 x925 x926 x927 x928) % 2) : Nat) : Int) u0 u1 u2 fun x933 x934 x935 x936 => B4 u3 0 0 0 fun x937 x938 x939 x940 => B1 0 fun x941 => 
 (((W4 x934 x935 x936 x937) ∧ (Z4 x938 x939 x940 x941)) ∧ (B1 ((((N4 x934 x935 x936 x937) % 2) : Nat) : Int) fun x942 => ((((x933 != x942) = Bool.true) 
 → (L4 (rtN (N4 x917 x918 x919 x920)) fun x943 x944 x945 x946 => B4 0 0 0 0 fun x947 x948 x949 x950 => (((((W4 0 0 0 0) ∧ (W4 x943 x944 x945 x946)) ∧ (((0 :Int) < qI) 
 ∧ ((V4 x943 x944 x945 x946) < qI))) ∧ ((Z4 0 0 0 0) ∧ (Z4 x947 x948 x949 x950))) ∧ (L4 ((0 + (qN - (N4 x943 x944 x945 x946))) % qN) fun x951 x952 x953 x954 => B4 0 0 0 0 fun x955 x956 x957 x958 => B4 x893 x894 x895 x896 fun x959 x960 x961 x962 => B4 x897 x898 x899 x900 fun x963 x964 x965 x966 => B4 x951 x952 x953 x954 fun x967 x968 x969 x970 => B4 x955 x956 x957 x958 fun x971 x972 x973 x974 => 
 (K (SV.agg [(U x959), (U x960), (U x961), (U x962), (U x963), (U x964), (U x965), (U x966), (U x967), (U x968), (U x969), (U x970), (U x971), (U x972), 
 (U x973), (U x974)]) (memL [(513, (Reg.mk Bool.false (Ct.cells [(U u0), (U u1), (U u2), (U u3), (SV.int IntKind.u64 (A.sym 0)), (SV.int IntKind.u64 (A.sym 0)), 
 (SV.int IntKind.u64 (A.sym 0)), (SV.int IntKind.u64 (A.sym 0))]))), (521, (Reg.mk Bool.false (Ct.cells [(SV.int IntKind.u64 (A.sym 3)), (SV.int IntKind.u64 
 (A.sym 0)), (SV.int IntKind.u64 (A.sym 0)), (SV.int IntKind.u64 (A.sym 0)), (SV.int IntKind.u64 (A.sym 0)), (SV.int IntKind.u64 (A.sym 0)), (SV.int IntKind.u64 
 (A.sym 0)), (SV.int IntKind.u64 (A.sym 0))]))), (529, (Reg.mk Bool.false (Ct.cells [(U x959), (U x960), (U x961), (U x962), (U x963), (U x964), (U x965), 
 (U x966), (U x967), (U x968), (U x969), (U x970), (U x971), (U x972), (U x973), (U x974)]))), (561, (Reg.mk Bool.false (Ct.cells [(U x8), (U x9), (U x10), 
 (U x11), (U x12), (U x13), (U x14), (U x15)]))), (601, (Reg.mk Bool.false (Ct.cells [(U x32), (U x33), (U x34), (U x35), (U x36), (U x37), (U x38), (U x39)]))), 
 (657, (Reg.mk Bool.false (Ct.cells [(U x72), (U x73), (U x74), (U x75), (U x76), (U x77), (U x78), (U x79)]))), (745, (Reg.mk Bool.false (Ct.cells [(U x129), 
 (U x130), (U x131), (U x132), (U x133), (U x134), (U x135), (U x136)]))), (889, (Reg.mk Bool.false (Ct.cells [(U x185), (U x186), (U x187), (U x188), 
 (U x189), (U x190), (U x191), (U x192)]))), (953, (Reg.mk Bool.false (Ct.cells [(U x225), (U x226), (U x227), (U x228), (U x229), (U x230), (U x231), 
 (U x232)]))), (1009, (Reg.mk Bool.false (Ct.cells [(U x265), (U x266), (U x267), (U x268), (U x269), (U x270), (U x271), (U x272)]))), (1073, (Reg.mk Bool.false 
 (Ct.cells [(U x289), (U x290), (U x291), (U x292), (U x293), (U x294), (U x295), (U x296)]))), (1081, (Reg.mk Bool.false (Ct.cells [(U x313), (U x314), 
 (U x315), (U x316), (U x317), (U x318), (U x319), (U x320)]))), (1137, (Reg.mk Bool.false (Ct.cells [(U x345), (U x346), (U x347), (U x348), (U x349), 
 (U x350), (U x351), (U x352)]))), (1209, (Reg.mk Bool.false (Ct.cells [(U x401), (U x402), (U x403), (U x404), (U x405), (U x406), (U x407), (U x408)]))), 
 (1249, (Reg.mk Bool.false (Ct.cells [(U x893), (U x894), (U x895), (U x896), (U x897), (U x898), (U x899), (U x900)]))), (1401, (Reg.mk Bool.false (Ct.cells [(U x837), 
 (U x838), (U x839), (U x840), (U x841), (U x842), (U x843), (U x844)]))), (1537, (Reg.mk Bool.false (Ct.cells [(U x951), (U x952), (U x953), (U x954), 
 (U x955), (U x956), (U x957), (U x958)])))])))))) ∧ (((x933 != x942) = Bool.false) → (B4 x893 x894 x895 x896 fun x975 x976 x977 x978 => B4 x897 x898 x899 x900 fun x979 x980 x981 x982 => L4 
 (rtN (N4 x917 x918 x919 x920)) fun x983 x984 x985 x986 => B4 0 0 0 0 fun x987 x988 x989 x990 => (K (SV.agg [(U x975), (U x976), (U x977), (U x978), (U x979), 
 (U x980), (U x981), (U x982), (U x983), (U x984), (U x985), (U x986), (U x987), (U x988), (U x989), (U x990)]) (memL [(513, (Reg.mk Bool.false (Ct.cells [(U u0), 
 (U u1), (U u2), (U u3), (SV.int IntKind.u64 (A.sym 0)), (SV.int IntKind.u64 (A.sym 0)), (SV.int IntKind.u64 (A.sym 0)), (SV.int IntKind.u64 (A.sym 0))]))), 
 (521, (Reg.mk Bool.false (Ct.cells [(SV.int IntKind.u64 (A.sym 3)), (SV.int IntKind.u64 (A.sym 0)), (SV.int IntKind.u64 (A.sym 0)), (SV.int IntKind.u64 
 (A.sym 0)), (SV.int IntKind.u64 (A.sym 0)), (SV.int IntKind.u64 (A.sym 0)), (SV.int IntKind.u64 (A.sym 0)), (SV.int IntKind.u64 (A.sym 0))]))), (529, 
 (Reg.mk Bool.false (Ct.cells [(U x975), (U x976), (U x977), (U x978), (U x979), (U x980), (U x981), (U x982), (U x983), (U x984), (U x985), (U x986), 
 (U x987), (U x988), (U x989), (U x990)]))), (561, (Reg.mk Bool.false (Ct.cells [(U x8), (U x9), (U x10), (U x11), (U x12), (U x13), (U x14), (U x15)]))), 
 (601, (Reg.mk Bool.false (Ct.cells [(U x32), (U x33), (U x34), (U x35), (U x36), (U x37), (U x38), (U x39)]))), (657, (Reg.mk Bool.false (Ct.cells [(U x72), 
 (U x73), (U x74), (U x75), (U x76), (U x77), (U x78), (U x79)]))), (745, (Reg.mk Bool.false (Ct.cells [(U x129), (U x130), (U x131), (U x132), (U x133), 
 (U x134), (U x135), (U x136)]))), (889, (Reg.mk Bool.false (Ct.cells [(U x185), (U x186), (U x187), (U x188), (U x189), (U x190), (U x191), (U x192)]))), 
 (953, (Reg.mk Bool.false (Ct.cells [(U x225), (U x226), (U x227), (U x228), (U x229), (U x230), (U x231), (U x232)]))), (1009, (Reg.mk Bool.false (Ct.cells [(U x265), 
 (U x266), (U x267), (U x268), (U x269), (U x270), (U x271), (U x272)]))), (1073, (Reg.mk Bool.false (Ct.cells [(U x289), (U x290), (U x291), (U x292), 
 (U x293), (U x294), (U x295), (U x296)]))), (1081, (Reg.mk Bool.false (Ct.cells [(U x313), (U x314), (U x315), (U x316), (U x317), (U x318), (U x319), 
 (U x320)]))), (1137, (Reg.mk Bool.false (Ct.cells [(U x345), (U x346), (U x347), (U x348), (U x349), (U x350), (U x351), (U x352)]))), (1209, (Reg.mk Bool.false 
 (Ct.cells [(U x401), (U x402), (U x403), (U x404), (U x405), (U x406), (U x407), (U x408)]))), (1249, (Reg.mk Bool.false (Ct.cells [(U x893), (U x894), 
 (U x895), (U x896), (U x897), (U x898), (U x899), (U x900)]))), (1401, (Reg.mk Bool.false (Ct.cells [(U x837), (U x838), (U x839), (U x840), (U x841), 
 (U x842), (U x843), (U x844)]))), (1537, (Reg.mk Bool.false (Ct.cells [(SV.int IntKind.u64 (A.sym (lm (rtN (N4 x917 x918 x919 x920)) 0))), (SV.int IntKind.u64 
 (A.sym (lm (rtN (N4 x917 x918 x919 x920)) 1))), (SV.int IntKind.u64 (A.sym (lm (rtN (N4 x917 x918 x919 x920)) 2))), (SV.int IntKind.u64 (A.sym (lm (rtN 
 (N4 x917 x918 x919 x920)) 3))), (SV.int IntKind.u64 (A.sym 0)), (SV.int IntKind.u64 (A.sym 0)), (SV.int IntKind.u64 (A.sym 0)), (SV.int IntKind.u64 (A.sym 0))])))]))))))))))))))))))))))))) 
 ∧ (((Bool.not (sqN (N4 x797 x798 x799 x800))) = Bool.false) → (B4 x425 x426 x427 x428 fun x991 x992 x993 x994 => B4 x429 x430 x431 x432 fun x995 x996 x997 x998 => B4 3 0 0 0 fun x999 x1000 x1001 x1002 => B4 0 0 0 0 fun x1003 x1004 x1005 x1006 => 
 (((((W4 x991 x992 x993 x994) ∧ (W4 x999 x1000 x1001 x1002)) ∧ (((V4 x991 x992 x993 x994) < qI) ∧ ((V4 x999 x1000 x1001 x1002) < qI))) ∧ ((Z4 x995 x996 x997 x998) 
 ∧ (Z4 x1003 x1004 x1005 x1006))) ∧ (L4 (((((N4 x991 x992 x993 x994) * (((N4 x991 x992 x993 x994) * (N4 x991 x992 x993 x994)) % qN)) % qN) + (N4 x999 x1000 x1001 x1002)) % qN) fun x1007 x1008 x1009 x1010 => B4 0 0 0 0 fun x1011 x1012 x1013 x1014 => 
 ((((W4 x1007 x1008 x1009 x1010) ∧ (Z4 x1011 x1012 x1013 x1014)) ∧ ((sqN (N4 x1007 x1008 x1009 x1010)) = Bool.true)) ∧ (L4 (rtN (N4 x1007 x1008 x1009 x1010)) fun x1015 x1016 x1017 x1018 => B4 0 0 0 0 fun x1019 x1020 x1021 x1022 => 
 (((W4 x1015 x1016 x1017 x1018) ∧ (Z4 x1019 x1020 x1021 x1022)) ∧ (B4 ((((N4 x1015 x1016 x1017 x1018) % 2) : Nat) : Int) u0 u1 u2 fun x1023 x1024 x1025 x1026 => B4 u3 0 0 0 fun x1027 x1028 x1029 x1030 => B1 0 fun x1031 => 
 (((W4 x1024 x1025 x1026 x1027) ∧ (Z4 x1028 x1029 x1030 x1031)) ∧ (B1 ((((N4 x1024 x1025 x1026 x1027) % 2) : Nat) : Int) fun x1032 => ((((x1023 != x1032) = Bool.true) 
 → (L4 (rtN (N4 x1007 x1008 x1009 x1010)) fun x1033 x1034 x1035 x1036 => B4 0 0 0 0 fun x1037 x1038 x1039 x1040 => (((((W4 0 0 0 0) ∧ (W4 x1033 x1034 x1035 x1036)) 
 ∧ (((0 :Int) < qI) ∧ ((V4 x1033 x1034 x1035 x1036) < qI))) ∧ ((Z4 0 0 0 0) ∧ (Z4 x1037 x1038 x1039 x1040))) ∧ (L4 ((0 + (qN - (N4 x1033 x1034 x1035 x1036))) % qN) fun x1041 x1042 x1043 x1044 => B4 0 0 0 0 fun x1045 x1046 x1047 x1048 => B4 x425 x426 x427 x428 fun x1049 x1050 x1051 x1052 => B4 x429 x430 x431 x432 fun x1053 x1054 x1055 x1056 => B4 x1041 x1042 x1043 x1044 fun x1057 x1058 x1059 x1060 => B4 x1045 x1046 x1047 x1048 fun x1061 x1062 x1063 x1064 => 
 (K (SV.agg [(U x1049), (U x1050), (U x1051), (U x1052), (U x1053), (U x1054), (U x1055), (U x1056), (U x1057), (U x1058), (U x1059), (U x1060), (U x1061), 
 (U x1062), (U x1063), (U x1064)]) (memL [(513, (Reg.mk Bool.false (Ct.cells [(U u0), (U u1), (U u2), (U u3), (SV.int IntKind.u64 (A.sym 0)), (SV.int IntKind.u64 
 (A.sym 0)), (SV.int IntKind.u64 (A.sym 0)), (SV.int IntKind.u64 (A.sym 0))]))), (521, (Reg.mk Bool.false (Ct.cells [(SV.int IntKind.u64 (A.sym 3)), (SV.int IntKind.u64 
 (A.sym 0)), (SV.int IntKind.u64 (A.sym 0)), (SV.int IntKind.u64 (A.sym 0)), (SV.int IntKind.u64 (A.sym 0)), (SV.int IntKind.u64 (A.sym 0)), (SV.int IntKind.u64 
 (A.sym 0)), (SV.int IntKind.u64 (A.sym 0))]))), (529, (Reg.mk Bool.false (Ct.cells [(U x1049), (U x1050), (U x1051), (U x1052), (U x1053), (U x1054), 
 (U x1055), (U x1056), (U x1057), (U x1058), (U x1059), (U x1060), (U x1061), (U x1062), (U x1063), (U x1064)]))), (561, (Reg.mk Bool.false (Ct.cells [(U x8), 
 (U x9), (U x10), (U x11), (U x12), (U x13), (U x14), (U x15)]))), (601, (Reg.mk Bool.false (Ct.cells [(U x32), (U x33), (U x34), (U x35), (U x36), (U x37), 
 (U x38), (U x39)]))), (657, (Reg.mk Bool.false (Ct.cells [(U x72), (U x73), (U x74), (U x75), (U x76), (U x77), (U x78), (U x79)]))), (745, (Reg.mk Bool.false 
 (Ct.cells [(U x129), (U x130), (U x131), (U x132), (U x133), (U x134), (U x135), (U x136)]))), (889, (Reg.mk Bool.false (Ct.cells [(U x185), (U x186), 
 (U x187), (U x188), (U x189), (U x190), (U x191), (U x192)]))), (953, (Reg.mk Bool.false (Ct.cells [(U x225), (U x226), (U x227), (U x228), (U x229), 
 (U x230), (U x231), (U x232)]))), (1009, (Reg.mk Bool.false (Ct.cells [(U x265), (U x266), (U x267), (U x268), (U x269), (U x270), (U x271), (U x272)]))), 
 (1073, (Reg.mk Bool.false (Ct.cells [(U x289), (U x290), (U x291), (U x292), (U x293), (U x294), (U x295), (U x296)]))), (1081, (Reg.mk Bool.false (Ct.cells [(U x313), 
 (U x314), (U x315), (U x316), (U x317), (U x318), (U x319), (U x320)]))), (1137, (Reg.mk Bool.false (Ct.cells [(U x345), (U x346), (U x347), (U x348), 
 (U x349), (U x350), (U x351), (U x352)]))), (1209, (Reg.mk Bool.false (Ct.cells [(U x401), (U x402), (U x403), (U x404), (U x405), (U x406), (U x407), 
 (U x408)]))), (1249, (Reg.mk Bool.false (Ct.cells [(U x425), (U x426), (U x427), (U x428), (U x429), (U x430), (U x431), (U x432)]))), (1417, (Reg.mk Bool.false 
 (Ct.cells [(U x1041), (U x1042), (U x1043), (U x1044), (U x1045), (U x1046), (U x1047), (U x1048)])))])))))) ∧ (((x1023 != x1032) = Bool.false) → (B4 x425 x426 x427 x428 fun x1065 x1066 x1067 x1068 => B4 x429 x430 x431 x432 fun x1069 x1070 x1071 x1072 => L4 
 (rtN (N4 x1007 x1008 x1009 x1010)) fun x1073 x1074 x1075 x1076 => B4 0 0 0 0 fun x1077 x1078 x1079 x1080 => (K (SV.agg [(U x1065), (U x1066), (U x1067), 
 (U x1068), (U x1069), (U x1070), (U x1071), (U x1072), (U x1073), (U x1074), (U x1075), (U x1076), (U x1077), (U x1078), (U x1079), (U x1080)]) (memL [(513, 
 (Reg.mk Bool.false (Ct.cells [(U u0), (U u1), (U u2), (U u3), (SV.int IntKind.u64 (A.sym 0)), (SV.int IntKind.u64 (A.sym 0)), (SV.int IntKind.u64 (A.sym 0)), 
 (SV.int IntKind.u64 (A.sym 0))]))), (521, (Reg.mk Bool.false (Ct.cells [(SV.int IntKind.u64 (A.sym 3)), (SV.int IntKind.u64 (A.sym 0)), (SV.int IntKind.u64 
 (A.sym 0)), (SV.int IntKind.u64 (A.sym 0)), (SV.int IntKind.u64 (A.sym 0)), (SV.int IntKind.u64 (A.sym 0)), (SV.int IntKind.u64 (A.sym 0)), (SV.int IntKind.u64 
 (A.sym 0))]))), (529, (Reg.mk Bool.false (Ct.cells [(U x1065), (U x1066), (U x1067), (U x1068), (U x1069), (U x1070), (U x1071), (U x1072), (U x1073), 
 (U x1074), (U x1075), (U x1076), (U x1077), (U x1078), (U x1079), (U x1080)]))), (561, (Reg.mk Bool.false (Ct.cells [(U x8), (U x9), (U x10), (U x11), 
 (U x12), (U x13), (U x14), (U x15)]))), (601, (Reg.mk Bool.false (Ct.cells [(U x32), (U x33), (U x34), (U x35), (U x36), (U x37), (U x38), (U x39)]))), 
 (657, (Reg.mk Bool.false (Ct.cells [(U x72), (U x73), (U x74), (U x75), (U x76), (U x77), (U x78), (U x79)]))), (745, (Reg.mk Bool.false (Ct.cells [(U x129), 
 (U x130), (U x131), (U x132), (U x133), (U x134), (U x135), (U x136)]))), (889, (Reg.mk Bool.false (Ct.cells [(U x185), (U x186), (U x187), (U x188), 
 (U x189), (U x190), (U x191), (U x192)]))), (953, (Reg.mk Bool.false (Ct.cells [(U x225), (U x226), (U x227), (U x228), (U x229), (U x230), (U x231), 
 (U x232)]))), (1009, (Reg.mk Bool.false (Ct.cells [(U x265), (U x266), (U x267), (U x268), (U x269), (U x270), (U x271), (U x272)]))), (1073, (Reg.mk Bool.false 
 (Ct.cells [(U x289), (U x290), (U x291), (U x292), (U x293), (U x294), (U x295), (U x296)]))), (1081, (Reg.mk Bool.false (Ct.cells [(U x313), (U x314), 
 (U x315), (U x316), (U x317), (U x318), (U x319), (U x320)]))), (1137, (Reg.mk Bool.false (Ct.cells [(U x345), (U x346), (U x347), (U x348), (U x349), 
 (U x350), (U x351), (U x352)]))), (1209, (Reg.mk Bool.false (Ct.cells [(U x401), (U x402), (U x403), (U x404), (U x405), (U x406), (U x407), (U x408)]))), 
 (1249, (Reg.mk Bool.false (Ct.cells [(U x425), (U x426), (U x427), (U x428), (U x429), (U x430), (U x431), (U x432)]))), (1417, (Reg.mk Bool.false (Ct.cells [(SV.int IntKind.u64 
 (A.sym (lm (rtN (N4 x1007 x1008 x1009 x1010)) 0))), (SV.int IntKind.u64 (A.sym (lm (rtN (N4 x1007 x1008 x1009 x1010)) 1))), (SV.int IntKind.u64 (A.sym 
 (lm (rtN (N4 x1007 x1008 x1009 x1010)) 2))), (SV.int IntKind.u64 (A.sym (lm (rtN (N4 x1007 x1008 x1009 x1010)) 3))), (SV.int IntKind.u64 (A.sym 0)), (SV.int IntKind.u64 
 (A.sym 0)), (SV.int IntKind.u64 (A.sym 0)), (SV.int IntKind.u64 (A.sym 0))])))]))))))))))))))))))))))))))))))))))))))))))))))))))))))))))))))))))))))) 
 ∧ (((x120 == 1) = Bool.false) → ((((0 :Int) ≤ 4) ∧ ((4 :Int) < 18446744073709551616)) ∧ (B4 4 0 0 0 fun x1081 x1082 x1083 x1084 => B4 0 0 0 0 fun x1085 x1086 x1087 x1088 => B4 x32 x33 x34 x35 fun x1089 x1090 x1091 x1092 => B4 x36 x37 x38 x39 fun x1093 x1094 x1095 x1096 => 
 (((((W4 x1081 x1082 x1083 x1084) ∧ (W4 x1089 x1090 x1091 x1092)) ∧ (((V4 x1081 x1082 x1083 x1084) < qI) ∧ ((V4 x1089 x1090 x1091 x1092) < qI))) ∧ ((Z4 x1085 x1086 x1087 x1088) 
 ∧ (Z4 x1093 x1094 x1095 x1096))) ∧ (L4 (((N4 x1081 x1082 x1083 x1084) * (N4 x1089 x1090 x1091 x1092)) % qN) fun x1097 x1098 x1099 x1100 => B4 0 0 0 0 fun x1101 x1102 x1103 x1104 => B4 x72 x73 x74 x75 fun x1105 x1106 x1107 x1108 => B4 x76 x77 x78 x79 fun x1109 x1110 x1111 x1112 => 
 ((((W4 x1105 x1106 x1107 x1108) ∧ ((V4 x1105 x1106 x1107 x1108) < qI)) ∧ (Z4 x1109 x1110 x1111 x1112)) ∧ (L4 (inv0 (N4 x1105 x1106 x1107 x1108)) fun x1113 x1114 x1115 x1116 => B4 0 0 0 0 fun x1117 x1118 x1119 x1120 => 
 (((((W4 x1097 x1098 x1099 x1100) ∧ (W4 x1113 x1114 x1115 x1116)) ∧ (((V4 x1097 x1098 x1099 x1100) < qI) ∧ ((V4 x1113 x1114 x1115 x1116) < qI))) ∧ ((Z4 x1101 x1102 x1103 x1104) 
 ∧ (Z4 x1117 x1118 x1119 x1120))) ∧ (L4 (((N4 x1097 x1098 x1099 x1100) * (N4 x1113 x1114 x1115 x1116)) % qN) fun x1121 x1122 x1123 x1124 => B4 0 0 0 0 fun x1125 x1126 x1127 x1128 => 
 (((((W4 0 0 0 0) ∧ (W4 x1121 x1122 x1123 x1124)) ∧ (((0 :Int) < qI) ∧ ((V4 x1121 x1122 x1123 x1124) < qI))) ∧ ((Z4 0 0 0 0) ∧ (Z4 x1125 x1126 x1127 x1128))) 
 ∧ (L4 ((0 + (qN - (N4 x1121 x1122 x1123 x1124))) % qN) fun x1129 x1130 x1131 x1132 => B4 0 0 0 0 fun x1133 x1134 x1135 x1136 => B4 x8 x9 x10 x11 fun x1137 x1138 x1139 x1140 => B4 x12 x13 x14 x15 fun x1141 x1142 x1143 x1144 => 
 (((((W4 0 0 0 0) ∧ (W4 x1137 x1138 x1139 x1140)) ∧ (((0 :Int) < qI) ∧ ((V4 x1137 x1138 x1139 x1140) < qI))) ∧ ((Z4 0 0 0 0) ∧ (Z4 x1141 x1142 x1143 x1144))) 
 ∧ (L4 ((0 + (qN - (N4 x1137 x1138 x1139 x1140))) % qN) fun x1145 x1146 x1147 x1148 => B4 0 0 0 0 fun x1149 x1150 x1151 x1152 => ((((0 :Int) ≤ 2) ∧ ((2 :Int) < 18446744073709551616)) 
 ∧ (B4 2 0 0 0 fun x1153 x1154 x1155 x1156 => B4 0 0 0 0 fun x1157 x1158 x1159 x1160 => ((((W4 x1153 x1154 x1155 x1156) ∧ ((V4 x1153 x1154 x1155 x1156) < qI)) 
 ∧ (Z4 x1157 x1158 x1159 x1160)) ∧ (L4 (inv0 (N4 x1153 x1154 x1155 x1156)) fun x1161 x1162 x1163 x1164 => B4 0 0 0 0 fun x1165 x1166 x1167 x1168 => (((((W4 x1145 x1146 x1147 x1148) 
 ∧ (W4 x1161 x1162 x1163 x1164)) ∧ (((V4 x1145 x1146 x1147 x1148) < qI) ∧ ((V4 x1161 x1162 x1163 x1164) < qI))) ∧ ((Z4 x1149 x1150 x1151 x1152) ∧ (Z4 x1165 x1166 x1167 x1168))) 
 ∧ (L4 (((N4 x1145 x1146 x1147 x1148) * (N4 x1161 x1162 x1163 x1164)) % qN) fun x1169 x1170 x1171 x1172 => B4 0 0 0 0 fun x1173 x1174 x1175 x1176 => B4 u0 u1 u2 u3 fun x1177 x1178 x1179 x1180 => B4 0 0 0 0 fun x1181 x1182 x1183 x1184 => B4 u0 u1 u2 u3 fun x1185 x1186 x1187 x1188 => B4 0 0 0 0 fun x1189 x1190 x1191 x1192 => 
 (((((W4 x1177 x1178 x1179 x1180) ∧ (W4 x1185 x1186 x1187 x1188)) ∧ (((V4 x1177 x1178 x1179 x1180) < qI) ∧ ((V4 x1185 x1186 x1187 x1188) < qI))) ∧ ((Z4 x1181 x1182 x1183 x1184) 
 ∧ (Z4 x1189 x1190 x1191 x1192))) ∧ (L4 (((N4 x1177 x1178 x1179 x1180) * (N4 x1185 x1186 x1187 x1188)) % qN) fun x1193 x1194 x1195 x1196 => B4 0 0 0 0 fun x1197 x1198 x1199 x1200 => B4 x32 x33 x34 x35 fun x1201 x1202 x1203 x1204 => B4 x36 x37 x38 x39 fun x1205 x1206 x1207 x1208 => 
 (((((W4 x1193 x1194 x1195 x1196) ∧ (W4 x1201 x1202 x1203 x1204)) ∧ (((V4 x1193 x1194 x1195 x1196) < qI) ∧ ((V4 x1201 x1202 x1203 x1204) < qI))) ∧ ((Z4 x1197 x1198 x1199 x1200) 
 ∧ (Z4 x1205 x1206 x1207 x1208))) ∧ (L4 (((N4 x1193 x1194 x1195 x1196) * (N4 x1201 x1202 x1203 x1204)) % qN) fun x1209 x1210 x1211 x1212 => B4 0 0 0 0 fun x1213 x1214 x1215 x1216 => 
 ((((0 :Int) ≤ 1) ∧ ((1 :Int) < 18446744073709551616)) ∧ (B4 1 0 0 0 fun x1217 x1218 x1219 x1220 => B4 0 0 0 0 fun x1221 x1222 x1223 x1224 => B4 x1209 x1210 x1211 x1212 fun x1225 x1226 x1227 x1228 => B4 x1213 x1214 x1215 x1216 fun x1229 x1230 x1231 x1232 => 
 (((((W4 x1217 x1218 x1219 x1220) ∧ (W4 x1225 x1226 x1227 x1228)) ∧ (((V4 x1217 x1218 x1219 x1220) < qI) ∧ ((V4 x1225 x1226 x1227 x1228) < qI))) ∧ ((Z4 x1221 x1222 x1223 x1224) 
 ∧ (Z4 x1229 x1230 x1231 x1232))) ∧ (L4 (((N4 x1217 x1218 x1219 x1220) + (N4 x1225 x1226 x1227 x1228)) % qN) fun x1233 x1234 x1235 x1236 => B4 0 0 0 0 fun x1237 x1238 x1239 x1240 => 
 ((((0 :Int) ≤ 1) ∧ ((1 :Int) < 18446744073709551616)) ∧ (B4 1 0 0 0 fun x1241 x1242 x1243 x1244 => B4 0 0 0 0 fun x1245 x1246 x1247 x1248 => B4 x1209 x1210 x1211 x1212 fun x1249 x1250 x1251 x1252 => B4 x1213 x1214 x1215 x1216 fun x1253 x1254 x1255 x1256 => 
 (((((W4 x1241 x1242 x1243 x1244) ∧ (W4 x1249 x1250 x1251 x1252)) ∧ (((V4 x1241 x1242 x1243 x1244) < qI) ∧ ((V4 x1249 x1250 x1251 x1252) < qI))) ∧ ((Z4 x1245 x1246 x1247 x1248) 
 ∧ (Z4 x1253 x1254 x1255 x1256))) ∧ (L4 (((N4 x1241 x1242 x1243 x1244) + (qN - (N4 x1249 x1250 x1251 x1252))) % qN) fun x1257 x1258 x1259 x1260 => B4 0 0 0 0 fun x1261 x1262 x1263 x1264 => B4 x1257 x1258 x1259 x1260 fun x1265 x1266 x1267 x1268 => B4 x1261 x1262 x1263 x1264 fun x1269 x1270 x1271 x1272 => B4 x1233 x1234 x1235 x1236 fun x1273 x1274 x1275 x1276 => B4 x1237 x1238 x1239 x1240 fun x1277 x1278 x1279 x1280 => 
 (((((W4 x1265 x1266 x1267 x1268) ∧ (W4 x1273 x1274 x1275 x1276)) ∧ (((V4 x1265 x1266 x1267 x1268) < qI) ∧ ((V4 x1273 x1274 x1275 x1276) < qI))) ∧ ((Z4 x1269 x1270 x1271 x1272) 
 ∧ (Z4 x1277 x1278 x1279 x1280))) ∧ (L4 (((N4 x1265 x1266 x1267 x1268) * (N4 x1273 x1274 x1275 x1276)) % qN) fun x1281 x1282 x1283 x1284 => B4 0 0 0 0 fun x1285 x1286 x1287 x1288 => 
 ((((W4 x1281 x1282 x1283 x1284) ∧ ((V4 x1281 x1282 x1283 x1284) < qI)) ∧ (Z4 x1285 x1286 x1287 x1288)) ∧ (L4 (inv0 (N4 x1281 x1282 x1283 x1284)) fun x1289 x1290 x1291 x1292 => B4 0 0 0 0 fun x1293 x1294 x1295 x1296 => B4 u0 u1 u2 u3 fun x1297 x1298 x1299 x1300 => B4 0 0 0 0 fun x1301 x1302 x1303 x1304 => B4 x1257 x1258 x1259 x1260 fun x1305 x1306 x1307 x1308 => B4 x1261 x1262 x1263 x1264 fun x1309 x1310 x1311 x1312 => 
 (((((W4 x1297 x1298 x1299 x1300) ∧ (W4 x1305 x1306 x1307 x1308)) ∧ (((V4 x1297 x1298 x1299 x1300) < qI) ∧ ((V4 x1305 x1306 x1307 x1308) < qI))) ∧ ((Z4 x1301 x1302 x1303 x1304) 
 ∧ (Z4 x1309 x1310 x1311 x1312))) ∧ (L4 (((N4 x1297 x1298 x1299 x1300) * (N4 x1305 x1306 x1307 x1308)) % qN) fun x1313 x1314 x1315 x1316 => B4 0 0 0 0 fun x1317 x1318 x1319 x1320 => B4 x1289 x1290 x1291 x1292 fun x1321 x1322 x1323 x1324 => B4 x1293 x1294 x1295 x1296 fun x1325 x1326 x1327 x1328 => 
 (((((W4 x1313 x1314 x1315 x1316) ∧ (W4 x1321 x1322 x1323 x1324)) ∧ (((V4 x1313 x1314 x1315 x1316) < qI) ∧ ((V4 x1321 x1322 x1323 x1324) < qI))) ∧ ((Z4 x1317 x1318 x1319 x1320) 
 ∧ (Z4 x1325 x1326 x1327 x1328))) ∧ (L4 (((N4 x1313 x1314 x1315 x1316) * (N4 x1321 x1322 x1323 x1324)) % qN) fun x1329 x1330 x1331 x1332 => B4 0 0 0 0 fun x1333 x1334 x1335 x1336 => L4 
 (rtN (N4 x104 x105 x106 x107)) fun x1337 x1338 x1339 x1340 => B4 0 0 0 0 fun x1341 x1342 x1343 x1344 => (((((W4 x1329 x1330 x1331 x1332) ∧ (W4 x1337 x1338 x1339 x1340)) 
 ∧ (((V4 x1329 x1330 x1331 x1332) < qI) ∧ ((V4 x1337 x1338 x1339 x1340) < qI))) ∧ ((Z4 x1333 x1334 x1335 x1336) ∧ (Z4 x1341 x1342 x1343 x1344))) ∧ (L4 
 (((N4 x1329 x1330 x1331 x1332) * (N4 x1337 x1338 x1339 x1340)) % qN) fun x1345 x1346 x1347 x1348 => B4 0 0 0 0 fun x1349 x1350 x1351 x1352 => B4 x1169 x1170 x1171 x1172 fun x1353 x1354 x1355 x1356 => B4 x1173 x1174 x1175 x1176 fun x1357 x1358 x1359 x1360 => B4 x1345 x1346 x1347 x1348 fun x1361 x1362 x1363 x1364 => B4 x1349 x1350 x1351 x1352 fun x1365 x1366 x1367 x1368 => 
 (((((W4 x1353 x1354 x1355 x1356) ∧ (W4 x1361 x1362 x1363 x1364)) ∧ (((V4 x1353 x1354 x1355 x1356) < qI) ∧ ((V4 x1361 x1362 x1363 x1364) < qI))) ∧ ((Z4 x1357 x1358 x1359 x1360) 
 ∧ (Z4 x1365 x1366 x1367 x1368))) ∧ (L4 (((N4 x1353 x1354 x1355 x1356) + (qN - (N4 x1361 x1362 x1363 x1364))) % qN) fun x1369 x1370 x1371 x1372 => B4 0 0 0 0 fun x1373 x1374 x1375 x1376 => B4 x1369 x1370 x1371 x1372 fun x1377 x1378 x1379 x1380 => B4 x1373 x1374 x1375 x1376 fun x1381 x1382 x1383 x1384 => B4 3 0 0 0 fun x1385 x1386 x1387 x1388 => B4 0 0 0 0 fun x1389 x1390 x1391 x1392 => 
 (((((W4 x1377 x1378 x1379 x1380) ∧ (W4 x1385 x1386 x1387 x1388)) ∧ (((V4 x1377 x1378 x1379 x1380) < qI) ∧ ((V4 x1385 x1386 x1387 x1388) < qI))) ∧ ((Z4 x1381 x1382 x1383 x1384) 
 ∧ (Z4 x1389 x1390 x1391 x1392))) ∧ (L4 (((((N4 x1377 x1378 x1379 x1380) * (((N4 x1377 x1378 x1379 x1380) * (N4 x1377 x1378 x1379 x1380)) % qN)) % qN) + 
 (N4 x1385 x1386 x1387 x1388)) % qN) fun x1393 x1394 x1395 x1396 => B4 0 0 0 0 fun x1397 x1398 x1399 x1400 => (((W4 x1393 x1394 x1395 x1396) ∧ (Z4 x1397 x1398 x1399 x1400)) 
 ∧ ((((Bool.not (sqN (N4 x1393 x1394 x1395 x1396))) = Bool.true) → (B4 x1169 x1170 x1171 x1172 fun x1401 x1402 x1403 x1404 => B4 x1173 x1174 x1175 x1176 fun x1405 x1406 x1407 x1408 => B4 x1345 x1346 x1347 x1348 fun x1409 x1410 x1411 x1412 => B4 x1349 x1350 x1351 x1352 fun x1413 x1414 x1415 x1416 => 
 (((((W4 x1401 x1402 x1403 x1404) ∧ (W4 x1409 x1410 x1411 x1412)) ∧ (((V4 x1401 x1402 x1403 x1404) < qI) ∧ ((V4 x1409 x1410 x1411 x1412) < qI))) ∧ ((Z4 x1405 x1406 x1407 x1408) 
 ∧ (Z4 x1413 x1414 x1415 x1416))) ∧ (L4 (((N4 x1401 x1402 x1403 x1404) + (N4 x1409 x1410 x1411 x1412)) % qN) fun x1417 x1418 x1419 x1420 => B4 0 0 0 0 fun x1421 x1422 x1423 x1424 => B4 x1417 x1418 x1419 x1420 fun x1425 x1426 x1427 x1428 => B4 x1421 x1422 x1423 x1424 fun x1429 x1430 x1431 x1432 => B4 3 0 0 0 fun x1433 x1434 x1435 x1436 => B4 0 0 0 0 fun x1437 x1438 x1439 x1440 => 
 (((((W4 x1425 x1426 x1427 x1428) ∧ (W4 x1433 x1434 x1435 x1436)) ∧ (((V4 x1425 x1426 x1427 x1428) < qI) ∧ ((V4 x1433 x1434 x1435 x1436) < qI))) ∧ ((Z4 x1429 x1430 x1431 x1432) 
 ∧ (Z4 x1437 x1438 x1439 x1440))) ∧ (L4 (((((N4 x1425 x1426 x1427 x1428) * (((N4 x1425 x1426 x1427 x1428) * (N4 x1425 x1426 x1427 x1428)) % qN)) % qN) + 
 (N4 x1433 x1434 x1435 x1436)) % qN) fun x1441 x1442 x1443 x1444 => B4 0 0 0 0 fun x1445 x1446 x1447 x1448 => (((W4 x1441 x1442 x1443 x1444) ∧ (Z4 x1445 x1446 x1447 x1448)) 
 ∧ ((((Bool.not (sqN (N4 x1441 x1442 x1443 x1444))) = Bool.true) → (B4 x1233 x1234 x1235 x1236 fun x1449 x1450 x1451 x1452 => B4 x1237 x1238 x1239 x1240 fun x1453 x1454 x1455 x1456 => B4 x1233 x1234 x1235 x1236 fun x1457 x1458 x1459 x1460 => B4 x1237 x1238 x1239 x1240 fun x1461 x1462 x1463 x1464 => 
 (((((W4 x1449 x1450 x1451 x1452) ∧ (W4 x1457 x1458 x1459 x1460)) ∧ (((V4 x1449 x1450 x1451 x1452) < qI) ∧ ((V4 x1457 x1458 x1459 x1460) < qI))) ∧ ((Z4 x1453 x1454 x1455 x1456) 
 ∧ (Z4 x1461 x1462 x1463 x1464))) ∧ (L4 (((N4 x1449 x1450 x1451 x1452) * (N4 x1457 x1458 x1459 x1460)) % qN) fun x1465 x1466 x1467 x1468 => B4 0 0 0 0 fun x1469 x1470 x1471 x1472 => B4 x1289 x1290 x1291 x1292 fun x1473 x1474 x1475 x1476 => B4 x1293 x1294 x1295 x1296 fun x1477 x1478 x1479 x1480 => 
 (((((W4 x1465 x1466 x1467 x1468) ∧ (W4 x1473 x1474 x1475 x1476)) ∧ (((V4 x1465 x1466 x1467 x1468) < qI) ∧ ((V4 x1473 x1474 x1475 x1476) < qI))) ∧ ((Z4 x1469 x1470 x1471 x1472) 
 ∧ (Z4 x1477 x1478 x1479 x1480))) ∧ (L4 (((N4 x1465 x1466 x1467 x1468) * (N4 x1473 x1474 x1475 x1476)) % qN) fun x1481 x1482 x1483 x1484 => B4 0 0 0 0 fun x1485 x1486 x1487 x1488 => B4 x1481 x1482 x1483 x1484 fun x1489 x1490 x1491 x1492 => B4 x1485 x1486 x1487 x1488 fun x1493 x1494 x1495 x1496 => B4 x1481 x1482 x1483 x1484 fun x1497 x1498 x1499 x1500 => B4 x1485 x1486 x1487 x1488 fun x1501 x1502 x1503 x1504 => 
 (((((W4 x1489 x1490 x1491 x1492) ∧ (W4 x1497 x1498 x1499 x1500)) ∧ (((V4 x1489 x1490 x1491 x1492) < qI) ∧ ((V4 x1497 x1498 x1499 x1500) < qI))) ∧ ((Z4 x1493 x1494 x1495 x1496) 
 ∧ (Z4 x1501 x1502 x1503 x1504))) ∧ (L4 (((N4 x1489 x1490 x1491 x1492) * (N4 x1497 x1498 x1499 x1500)) % qN) fun x1505 x1506 x1507 x1508 => B4 0 0 0 0 fun x1509 x1510 x1511 x1512 => B4 x1129 x1130 x1131 x1132 fun x1513 x1514 x1515 x1516 => B4 x1133 x1134 x1135 x1136 fun x1517 x1518 x1519 x1520 => 
 (((((W4 x1505 x1506 x1507 x1508) ∧ (W4 x1513 x1514 x1515 x1516)) ∧ (((V4 x1505 x1506 x1507 x1508) < qI) ∧ ((V4 x1513 x1514 x1515 x1516) < qI))) ∧ ((Z4 x1509 x1510 x1511 x1512) 
 ∧ (Z4 x1517 x1518 x1519 x1520))) ∧ (L4 (((N4 x1505 x1506 x1507 x1508) * (N4 x1513 x1514 x1515 x1516)) % qN) fun x1521 x1522 x1523 x1524 => B4 0 0 0 0 fun x1525 x1526 x1527 x1528 => B4 x8 x9 x10 x11 fun x1529 x1530 x1531 x1532 => B4 x12 x13 x14 x15 fun x1533 x1534 x1535 x1536 => 
 (((((W4 x1521 x1522 x1523 x1524) ∧ (W4 x1529 x1530 x1531 x1532)) ∧ (((V4 x1521 x1522 x1523 x1524) < qI) ∧ ((V4 x1529 x1530 x1531 x1532) < qI))) ∧ ((Z4 x1525 x1526 x1527 x1528) 
 ∧ (Z4 x1533 x1534 x1535 x1536))) ∧ (L4 (((N4 x1521 x1522 x1523 x1524) + (N4 x1529 x1530 x1531 x1532)) % qN) fun x1537 x1538 x1539 x1540 => B4 0 0 0 0 fun x1541 x1542 x1543 x1544 => B4 x1537 x1538 x1539 x1540 fun x1545 x1546 x1547 x1548 => B4 x1541 x1542 x1543 x1544 fun x1549 x1550 x1551 x1552 => B4 3 0 0 0 fun x1553 x1554 x1555 x1556 => B4 0 0 0 0 fun x1557 x1558 x1559 x1560 => 
 (((((W4 x1545 x1546 x1547 x1548) ∧ (W4 x1553 x1554 x1555 x1556)) ∧ (((V4 x1545 x1546 x1547 x1548) < qI) ∧ ((V4 x1553 x1554 x1555 x1556) < qI))) ∧ ((Z4 x1549 x1550 x1551 x1552) 
 ∧ (Z4 x1557 x1558 x1559 x1560))) ∧ (L4 (((((N4 x1545 x1546 x1547 x1548) * (((N4 x1545 x1546 x1547 x1548) * (N4 x1545 x1546 x1547 x1548)) % qN)) % qN) + 
 (N4 x1553 x1554 x1555 x1556)) % qN) fun x1561 x1562 x1563 x1564 => B4 0 0 0 0 fun x1565 x1566 x1567 x1568 => ((((W4 x1561 x1562 x1563 x1564) ∧ (Z4 x1565 x1566 x1567 x1568)) 
 ∧ ((sqN (N4 x1561 x1562 x1563 x1564)) = Bool.true)) ∧ (L4 (rtN (N4 x1561 x1562 x1563 x1564)) fun x1569 x1570 x1571 x1572 => B4 0 0 0 0 fun x1573 x1574 x1575 x1576 => 
 (((W4 x1569 x1570 x1571 x1572) ∧ (Z4 x1573 x1574 x1575 x1576)) ∧ (B4 ((((N4 x1569 x1570 x1571 x1572) % 2) : Nat) : Int) u0 u1 u2 fun x1577 x1578 x1579 x1580 => B4 u3 0 0 0 fun x1581 x1582 x1583 x1584 => B1 0 fun x1585 => 
 (((W4 x1578 x1579 x1580 x1581) ∧ (Z4 x1582 x1583 x1584 x1585)) ∧ (B1 ((((N4 x1578 x1579 x1580 x1581) % 2) : Nat) : Int) fun x1586 => ((((x1577 != x1586) = Bool.true) 
 → (L4 (rtN (N4 x1561 x1562 x1563 x1564)) fun x1587 x1588 x1589 x1590 => B4 0 0 0 0 fun x1591 x1592 x1593 x1594 => (((((W4 0 0 0 0) ∧ (W4 x1587 x1588 x1589 x1590)) 
 ∧ (((0 :Int) < qI) ∧ ((V4 x1587 x1588 x1589 x1590) < qI))) ∧ ((Z4 0 0 0 0) ∧ (Z4 x1591 x1592 x1593 x1594))) ∧ (L4 ((0 + (qN - (N4 x1587 x1588 x1589 x1590))) % qN) fun x1595 x1596 x1597 x1598 => B4 0 0 0 0 fun x1599 x1600 x1601 x1602 => B4 x1537 x1538 x1539 x1540 fun x1603 x1604 x1605 x1606 => B4 x1541 x1542 x1543 x1544 fun x1607 x1608 x1609 x1610 => B4 x1595 x1596 x1597 x1598 fun x1611 x1612 x1613 x1614 => B4 x1599 x1600 x1601 x1602 fun x1615 x1616 x1617 x1618 => 
 (K (SV.agg [(U x1603), (U x1604), (U x1605), (U x1606), (U x1607), (U x1608), (U x1609), (U x1610), (U x1611), (U x1612), (U x1613), (U x1614), (U x1615), 
 (U x1616), (U x1617), (U x1618)]) (memL [(513, (Reg.mk Bool.false (Ct.cells [(U u0), (U u1), (U u2), (U u3), (SV.int IntKind.u64 (A.sym 0)), (SV.int IntKind.u64 
 (A.sym 0)), (SV.int IntKind.u64 (A.sym 0)), (SV.int IntKind.u64 (A.sym 0))]))), (521, (Reg.mk Bool.false (Ct.cells [(SV.int IntKind.u64 (A.sym 3)), (SV.int IntKind.u64 
 (A.sym 0)), (SV.int IntKind.u64 (A.sym 0)), (SV.int IntKind.u64 (A.sym 0)), (SV.int IntKind.u64 (A.sym 0)), (SV.int IntKind.u64 (A.sym 0)), (SV.int IntKind.u64 
 (A.sym 0)), (SV.int IntKind.u64 (A.sym 0))]))), (529, (Reg.mk Bool.false (Ct.cells [(U x1603), (U x1604), (U x1605), (U x1606), (U x1607), (U x1608), 
 (U x1609), (U x1610), (U x1611), (U x1612), (U x1613), (U x1614), (U x1615), (U x1616), (U x1617), (U x1618)]))), (561, (Reg.mk Bool.false (Ct.cells [(U x8), 
 (U x9), (U x10), (U x11), (U x12), (U x13), (U x14), (U x15)]))), (601, (Reg.mk Bool.false (Ct.cells [(U x32), (U x33), (U x34), (U x35), (U x36), (U x37), 
 (U x38), (U x39)]))), (657, (Reg.mk Bool.false (Ct.cells [(U x72), (U x73), (U x74), (U x75), (U x76), (U x77), (U x78), (U x79)]))), (745, (Reg.mk Bool.false 
 (Ct.cells [(SV.int IntKind.u64 (A.sym (lm (rtN (N4 x104 x105 x106 x107)) 0))), (SV.int IntKind.u64 (A.sym (lm (rtN (N4 x104 x105 x106 x107)) 1))), (SV.int IntKind.u64 
 (A.sym (lm (rtN (N4 x104 x105 x106 x107)) 2))), (SV.int IntKind.u64 (A.sym (lm (rtN (N4 x104 x105 x106 x107)) 3))), (SV.int IntKind.u64 (A.sym 0)), (SV.int IntKind.u64 
 (A.sym 0)), (SV.int IntKind.u64 (A.sym 0)), (SV.int IntKind.u64 (A.sym 0))]))), (857, (Reg.mk Bool.false (Ct.cells [(U x1129), (U x1130), (U x1131), (U x1132), 
 (U x1133), (U x1134), (U x1135), (U x1136)]))), (921, (Reg.mk Bool.false (Ct.cells [(U x1169), (U x1170), (U x1171), (U x1172), (U x1173), (U x1174), 
 (U x1175), (U x1176)]))), (977, (Reg.mk Bool.false (Ct.cells [(U x1209), (U x1210), (U x1211), (U x1212), (U x1213), (U x1214), (U x1215), (U x1216)]))), 
 (1041, (Reg.mk Bool.false (Ct.cells [(U x1233), (U x1234), (U x1235), (U x1236), (U x1237), (U x1238), (U x1239), (U x1240)]))), (1049, (Reg.mk Bool.false 
 (Ct.cells [(U x1257), (U x1258), (U x1259), (U x1260), (U x1261), (U x1262), (U x1263), (U x1264)]))), (1105, (Reg.mk Bool.false (Ct.cells [(U x1289), 
 (U x1290), (U x1291), (U x1292), (U x1293), (U x1294), (U x1295), (U x1296)]))), (1177, (Reg.mk Bool.false (Ct.cells [(U x1345), (U x1346), (U x1347), 
 (U x1348), (U x1349), (U x1350), (U x1351), (U x1352)]))), (1217, (Reg.mk Bool.false (Ct.cells [(U x1537), (U x1538), (U x1539), (U x1540), (U x1541), 
 (U x1542), (U x1543), (U x1544)]))), (1401, (Reg.mk Bool.false (Ct.cells [(U x1481), (U x1482), (U x1483), (U x1484), (U x1485), (U x1486), (U x1487), 
 (U x1488)]))), (1537, (Reg.mk Bool.false (Ct.cells [(U x1595), (U x1596), (U x1597), (U x1598), (U x1599), (U x1600), (U x1601), (U x1602)])))])))))) 
 ∧ (((x1577 != x1586) = Bool.false) → (B4 x1537 x1538 x1539 x1540 fun x1619 x1620 x1621 x1622 => B4 x1541 x1542 x1543 x1544 fun x1623 x1624 x1625 x1626 => L4 
 (rtN (N4 x1561 x1562 x1563 x1564)) fun x1627 x1628 x1629 x1630 => B4 0 0 0 0 fun x1631 x1632 x1633 x1634 => (K (SV.agg [(U x1619), (U x1620), (U x1621), 
 (U x1622), (U x1623), (U x1624), (U x1625), (U x1626), (U x1627), (U x1628), (U x1629), (U x1630), (U x1631), (U x1632), (U x1633), (U x1634)]) (memL [(513, 
 (Reg.mk Bool.false (Ct.cells [(U u0), (U u1), (U u2), (U u3), (SV.int IntKind.u64 (A.sym 0)), (SV.int IntKind.u64 (A.sym 0)), (SV.int IntKind.u64 (A.sym 0)), 
 (SV.int IntKind.u64 (A.sym 0))]))), (521, (Reg.mk Bool.false (Ct.cells [(SV.int IntKind.u64 (A.sym 3)), (SV.int IntKind.u64 (A.sym 0)), (SV.int IntKind.u64 
 (A.sym 0)), (SV.int IntKind.u64 (A.sym 0)), (SV.int IntKind.u64 (A.sym 0)), (SV.int IntKind.u64 (A.sym 0)), (SV.int IntKind.u64 (A.sym 0)), (SV.int IntKind.u64 
 (A.sym 0))]))), (529, (Reg.mk Bool.false (Ct.cells [(U x1619), (U x1620), (U x1621), (U x1622), (U x1623), (U x1624), (U x1625), (U x1626), (U x1627), 
 (U x1628), (U x1629), (U x1630), (U x1631), (U x1632), (U x1633), (U x1634)]))), (561, (Reg.mk Bool.false (Ct.cells [(U x8), (U x9), (U x10), (U x11), 
 (U x12), (U x13), (U x14), (U x15)]))), (601, (Reg.mk Bool.false (Ct.cells [(U x32), (U x33), (U x34), (U x35), (U x36), (U x37), (U x38), (U x39)]))), 
 (657, (Reg.mk Bool.false (Ct.cells [(U x72), (U x73), (U x74), (U x75), (U x76), (U x77), (U x78), (U x79)]))), (745, (Reg.mk Bool.false (Ct.cells [(SV.int IntKind.u64 
 (A.sym (lm (rtN (N4 x104 x105 x106 x107)) 0))), (SV.int IntKind.u64 (A.sym (lm (rtN (N4 x104 x105 x106 x107)) 1))), (SV.int IntKind.u64 (A.sym (lm (rtN 
 (N4 x104 x105 x106 x107)) 2))), (SV.int IntKind.u64 (A.sym (lm (rtN (N4 x104 x105 x106 x107)) 3))), (SV.int IntKind.u64 (A.sym 0)), (SV.int IntKind.u64 
 (A.sym 0)), (SV.int IntKind.u64 (A.sym 0)), (SV.int IntKind.u64 (A.sym 0))]))), (857, (Reg.mk Bool.false (Ct.cells [(U x1129), (U x1130), (U x1131), (U x1132), 
 (U x1133), (U x1134), (U x1135), (U x1136)]))), (921, (Reg.mk Bool.false (Ct.cells [(U x1169), (U x1170), (U x1171), (U x1172), (U x1173), (U x1174), 
 (U x1175), (U x1176)]))), (977, (Reg.mk Bool.false (Ct.cells [(U x1209), (U x1210), (U x1211), (U x1212), (U x1213), (U x1214), (U x1215), (U x1216)]))), 
 (1041, (Reg.mk Bool.false (Ct.cells [(U x1233), (U x1234), (U x1235), (U x1236), (U x1237), (U x1238), (U x1239), (U x1240)]))), (1049, (Reg.mk Bool.false 
 (Ct.cells [(U x1257), (U x1258), (U x1259), (U x1260), (U x1261), (U x1262), (U x1263), (U x1264)]))), (1105, (Reg.mk Bool.false (Ct.cells [(U x1289), 
 (U x1290), (U x1291), (U x1292), (U x1293), (U x1294), (U x1295), (U x1296)]))), (1177, (Reg.mk Bool.false (Ct.cells [(U x1345), (U x1346), (U x1347), 
 (U x1348), (U x1349), (U x1350), (U x1351), (U x1352)]))), (1217, (Reg.mk Bool.false (Ct.cells [(U x1537), (U x1538), (U x1539), (U x1540), (U x1541), 
 (U x1542), (U x1543), (U x1544)]))), (1401, (Reg.mk Bool.false (Ct.cells [(U x1481), (U x1482), (U x1483), (U x1484), (U x1485), (U x1486), (U x1487), 
 (U x1488)]))), (1537, (Reg.mk Bool.false (Ct.cells [(SV.int IntKind.u64 (A.sym (lm (rtN (N4 x1561 x1562 x1563 x1564)) 0))), (SV.int IntKind.u64 (A.sym 
 (lm (rtN (N4 x1561 x1562 x1563 x1564)) 1))), (SV.int IntKind.u64 (A.sym (lm (rtN (N4 x1561 x1562 x1563 x1564)) 2))), (SV.int IntKind.u64 (A.sym (lm (rtN 
 (N4 x1561 x1562 x1563 x1564)) 3))), (SV.int IntKind.u64 (A.sym 0)), (SV.int IntKind.u64 (A.sym 0)), (SV.int IntKind.u64 (A.sym 0)), (SV.int IntKind.u64 
 (A.sym 0))])))]))))))))))))))))))))))))) ∧ (((Bool.not (sqN (N4 x1441 x1442 x1443 x1444))) = Bool.false) → (B4 x1417 x1418 x1419 x1420 fun x1635 x1636 x1637 x1638 => B4 x1421 x1422 x1423 x1424 fun x1639 x1640 x1641 x1642 => B4 3 0 0 0 fun x1643 x1644 x1645 x1646 => B4 0 0 0 0 fun x1647 x1648 x1649 x1650 => 
 (((((W4 x1635 x1636 x1637 x1638) ∧ (W4 x1643 x1644 x1645 x1646)) ∧ (((V4 x1635 x1636 x1637 x1638) < qI) ∧ ((V4 x1643 x1644 x1645 x1646) < qI))) ∧ ((Z4 x1639 x1640 x1641 x1642) 
 ∧ (Z4 x1647 x1648 x1649 x1650))) ∧ (L4 (((((N4 x1635 x1636 x1637 x1638) * (((N4 x1635 x1636 x1637 x1638) * (N4 x1635 x1636 x1637 x1638)) % qN)) % qN) + 
 (N4 x1643 x1644 x1645 x1646)) % qN) fun x1651 x1652 x1653 x1654 => B4 0 0 0 0 fun x1655 x1656 x1657 x1658 => ((((W4 x1651 x1652 x1653 x1654) ∧ (Z4 x1655 x1656 x1657 x1658)) 
 ∧ ((sqN (N4 x1651 x1652 x1653 x1654)) = Bool.true)) ∧ (L4 (rtN (N4 x1651 x1652 x1653 x1654)) fun x1659 x1660 x1661 x1662 => B4 0 0 0 0 fun x1663 x1664 x1665 x1666 => 
 (((W4 x1659 x1660 x1661 x1662) ∧ (Z4 x1663 x1664 x1665 x1666)) ∧ (B4 ((((N4 x1659 x1660 x1661 x1662) % 2) : Nat) : Int) u0 u1 u2 fun x1667 x1668 x1669 x1670 => B4 u3 0 0 0 fun x1671 x1672 x1673 x1674 => B1 0 fun x1675 => 
 (((W4 x1668 x1669 x1670 x1671) ∧ (Z4 x1672 x1673 x1674 x1675)) ∧ (B1 ((((N4 x1668 x1669 x1670 x1671) % 2) : Nat) : Int) fun x1676 => ((((x1667 != x1676) = Bool.true) 
 → (L4 (rtN (N4 x1651 x1652 x1653 x1654)) fun x1677 x1678 x1679 x1680 => B4 0 0 0 0 fun x1681 x1682 x1683 x1684 => (((((W4 0 0 0 0) ∧ (W4 x1677 x1678 x1679 x1680)) 
 ∧ (((0 :Int) < qI) ∧ ((V4 x1677 x1678 x1679 x1680) < qI))) ∧ ((Z4 0 0 0 0) ∧ (Z4 x1681 x1682 x1683 x1684))) ∧ (L4 ((0 + (qN - (N4 x1677 x1678 x1679 x1680))) % qN) fun x1685 x1686 x1687 x1688 => B4 0 0 0 0 fun x1689 x1690 x1691 x1692 => B4 x1417 x1418 x1419 x1420 fun x1693 x1694 x1695 x1696 => B4 x1421 x1422 x1423 x1424 fun x1697 x1698 x1699 x1700 => B4 x1685 x1686 x1687 x1688 fun x1701 x1702 x1703 x1704 => B4 x1689 x1690 x1691 x1692 fun x1705 x1706 x1707 x1708 => 
 (K (SV.agg [(U x1693), (U x1694), (U x1695), (U x1696), (U x1697), (U x1698), (U x1699), (U x1700), (U x1701), (U x1702), (U x1703), (U x1704), (U x1705), 
 (U x1706), (U x1707), (U x1708)]) (memL [(513, (Reg.mk Bool.false (Ct.cells [(U u0), (U u1), (U u2), (U u3), (SV.int IntKind.u64 (A.sym 0)), (SV.int IntKind.u64 
 (A.sym 0)), (SV.int IntKind.u64 (A.sym 0)), (SV.int IntKind.u64 (A.sym 0))]))), (521, (Reg.mk Bool.false (Ct.cells [(SV.int IntKind.u64 (A.sym 3)), (SV.int IntKind.u64 
 (A.sym 0)), (SV.int IntKind.u64 (A.sym 0)), (SV.int IntKind.u64 (A.sym 0)), (SV.int IntKind.u64 (A.sym 0)), (SV.int IntKind.u64 (A.sym 0)), (SV.int IntKind.u64 
 (A.sym 0)), (SV.int IntKind.u64 (A.sym 0))]))), (529, (Reg.mk Bool.false (Ct.cells [(U x1693), (U x1694), (U x1695), (U x1696), (U x1697), (U x1698), 
 (U x1699), (U x1700), (U x1701), (U x1702), (U x1703), (U x1704), (U x1705), (U x1706), (U x1707), (U x1708)]))), (561, (Reg.mk Bool.false (Ct.cells [(U x8), 
 (U x9), (U x10), (U x11), (U x12), (U x13), (U x14), (U x15)]))), (601, (Reg.mk Bool.false (Ct.cells [(U x32), (U x33), (U x34), (U x35), (U x36), (U x37), 
 (U x38), (U x39)]))), (657, (Reg.mk Bool.false (Ct.cells [(U x72), (U x73), (U x74), (U x75), (U x76), (U x77), (U x78), (U x79)]))), (745, (Reg.mk Bool.false 
 (Ct.cells [(SV.int IntKind.u64 (A.sym (lm (rtN (N4 x104 x105 x106 x107)) 0))), (SV.int IntKind.u64 (A.sym (lm (rtN (N4 x104 x105 x106 x107)) 1))), (SV.int IntKind.u64 
 (A.sym (lm (rtN (N4 x104 x105 x106 x107)) 2))), (SV.int IntKind.u64 (A.sym (lm (rtN (N4 x104 x105 x106 x107)) 3))), (SV.int IntKind.u64 (A.sym 0)), (SV.int IntKind.u64 
 (A.sym 0)), (SV.int IntKind.u64 (A.sym 0)), (SV.int IntKind.u64 (A.sym 0))]))), (857, (Reg.mk Bool.false (Ct.cells [(U x1129), (U x1130), (U x1131), (U x1132), 
 (U x1133), (U x1134), (U x1135), (U x1136)]))), (921, (Reg.mk Bool.false (Ct.cells [(U x1169), (U x1170), (U x1171), (U x1172), (U x1173), (U x1174), 
 (U x1175), (U x1176)]))), (977, (Reg.mk Bool.false (Ct.cells [(U x1209), (U x1210), (U x1211), (U x1212), (U x1213), (U x1214), (U x1215), (U x1216)]))), 
 (1041, (Reg.mk Bool.false (Ct.cells [(U x1233), (U x1234), (U x1235), (U x1236), (U x1237), (U x1238), (U x1239), (U x1240)]))), (1049, (Reg.mk Bool.false 
 (Ct.cells [(U x1257), (U x1258), (U x1259), (U x1260), (U x1261), (U x1262), (U x1263), (U x1264)]))), (1105, (Reg.mk Bool.false (Ct.cells [(U x1289), 
 (U x1290), (U x1291), (U x1292), (U x1293), (U x1294), (U x1295), (U x1296)]))), (1177, (Reg.mk Bool.false (Ct.cells [(U x1345), (U x1346), (U x1347), 
 (U x1348), (U x1349), (U x1350), (U x1351), (U x1352)]))), (1217, (Reg.mk Bool.false (Ct.cells [(U x1417), (U x1418), (U x1419), (U x1420), (U x1421), 
 (U x1422), (U x1423), (U x1424)]))), (1417, (Reg.mk Bool.false (Ct.cells [(U x1685), (U x1686), (U x1687), (U x1688), (U x1689), (U x1690), (U x1691), 
 (U x1692)])))])))))) ∧ (((x1667 != x1676) = Bool.false) → (B4 x1417 x1418 x1419 x1420 fun x1709 x1710 x1711 x1712 => B4 x1421 x1422 x1423 x1424 fun x1713 x1714 x1715 x1716 => L4 
 (rtN (N4 x1651 x1652 x1653 x1654)) fun x1717 x1718 x1719 x1720 => B4 0 0 0 0 fun x1721 x1722 x1723 x1724 => (K (SV.agg [(U x1709), (U x1710), (U x1711), 
 (U x1712), (U x1713), (U x1714), (U x1715), (U x1716), (U x1717), (U x1718), (U x1719), (U x1720), (U x1721), (U x1722), (U x1723), (U x1724)]) (memL [(513, 
 (Reg.mk Bool.false (Ct.cells [(U u0), (U u1), (U u2), (U u3), (SV.int IntKind.u64 (A.sym 0)), (SV.int IntKind.u64 (A.sym 0)), (SV.int IntKind.u64 (A.sym 0)), 
 (SV.int IntKind.u64 (A.sym 0))]))), (521, (Reg.mk Bool.false (Ct.cells [(SV.int IntKind.u64 (A.sym 3)), (SV.int IntKind.u64 (A.sym 0)), (SV.int IntKind.u64 
 (A.sym 0)), (SV.int IntKind.u64 (A.sym 0)), (SV.int IntKind.u64 (A.sym 0)), (SV.int IntKind.u64 (A.sym 0)), (SV.int IntKind.u64 (A.sym 0)), (SV.int IntKind.u64 
 (A.sym 0))]))), (529, (Reg.mk Bool.false (Ct.cells [(U x1709), (U x1710), (U x1711), (U x1712), (U x1713), (U x1714), (U x1715), (U x1716), (U x1717), 
 (U x1718), (U x1719), (U x1720), (U x1721), (U x1722), (U x1723), (U x1724)]))), (561, (Reg.mk Bool.false (Ct.cells [(U x8), (U x9), (U x10), (U x11), 
 (U x12), (U x13), (U x14), (U x15)]))), (601, (Reg.mk Bool.false (Ct.cells [(U x32), (U x33), (U x34), (U x35), (U x36), (U x37), (U x38), (U x39)]))), 
 (657, (Reg.mk Bool.false (Ct.cells [(U x72), (U x73), (U x74), (U x75), (U x76), (U x77), (U x78), (U x79)]))), (745, (Reg.mk Bool.false (Ct.cells [(SV.int IntKind.u64 
 (A.sym (lm (rtN (N4 x104 x105 x106 x107)) 0))), (SV.int IntKind.u64 (A.sym (lm (rtN (N4 x104 x105 x106 x107)) 1))), (SV.int IntKind.u64 (A.sym (lm (rtN 
 (N4 x104 x105 x106 x107)) 2))), (SV.int IntKind.u64 (A.sym (lm (rtN (N4 x104 x105 x106 x107)) 3))), (SV.int IntKind.u64 (A.sym 0)), (SV.int IntKind.u64 
 (A.sym 0)), (SV.int IntKind.u64 (A.sym 0)), (SV.int IntKind.u64 (A.sym 0))]))), (857, (Reg.mk Bool.false (Ct.cells [(U x1129), (U x1130), (U x1131), (U x1132), 
 (U x1133), (U x1134), (U x1135), (U x1136)]))), (921, (Reg.mk Bool.false (Ct.cells [(U x1169), (U x1170), (U x1171), (U x1172), (U x1173), (U x1174), 
 (U x1175), (U x1176)]))), (977, (Reg.mk Bool.false (Ct.cells [(U x1209), (U x1210), (U x1211), (U x1212), (U x1213), (U x1214), (U x1215), (U x1216)]))), 
 (1041, (Reg.mk Bool.false (Ct.cells [(U x1233), (U x1234), (U x1235), (U x1236), (U x1237), (U x1238), (U x1239), (U x1240)]))), (1049, (Reg.mk Bool.false 
 (Ct.cells [(U x1257), (U x1258), (U x1259), (U x1260), (U x1261), (U x1262), (U x1263), (U x1264)]))), (1105, (Reg.mk Bool.false (Ct.cells [(U x1289), 
 (U x1290), (U x1291), (U x1292), (U x1293), (U x1294), (U x1295), (U x1296)]))), (1177, (Reg.mk Bool.false (Ct.cells [(U x1345), (U x1346), (U x1347), 
 (U x1348), (U x1349), (U x1350), (U x1351), (U x1352)]))), (1217, (Reg.mk Bool.false (Ct.cells [(U x1417), (U x1418), (U x1419), (U x1420), (U x1421), 
 (U x1422), (U x1423), (U x1424)]))), (1417, (Reg.mk Bool.false (Ct.cells [(SV.int IntKind.u64 (A.sym (lm (rtN (N4 x1651 x1652 x1653 x1654)) 0))), (SV.int IntKind.u64 
 (A.sym (lm (rtN (N4 x1651 x1652 x1653 x1654)) 1))), (SV.int IntKind.u64 (A.sym (lm (rtN (N4 x1651 x1652 x1653 x1654)) 2))), (SV.int IntKind.u64 (A.sym 
 (lm (rtN (N4 x1651 x1652 x1653 x1654)) 3))), (SV.int IntKind.u64 (A.sym 0)), (SV.int IntKind.u64 (A.sym 0)), (SV.int IntKind.u64 (A.sym 0)), (SV.int IntKind.u64 
 (A.sym 0))])))]))))))))))))))))))))))) ∧ (((Bool.not (sqN (N4 x1393 x1394 x1395 x1396))) = Bool.false) → (B4 x1369 x1370 x1371 x1372 fun x1725 x1726 x1727 x1728 => B4 x1373 x1374 x1375 x1376 fun x1729 x1730 x1731 x1732 => B4 3 0 0 0 fun x1733 x1734 x1735 x1736 => B4 0 0 0 0 fun x1737 x1738 x1739 x1740 => 
 (((((W4 x1725 x1726 x1727 x1728) ∧ (W4 x1733 x1734 x1735 x1736)) ∧ (((V4 x1725 x1726 x1727 x1728) < qI) ∧ ((V4 x1733 x1734 x1735 x1736) < qI))) ∧ ((Z4 x1729 x1730 x1731 x1732) 
 ∧ (Z4 x1737 x1738 x1739 x1740))) ∧ (L4 (((((N4 x1725 x1726 x1727 x1728) * (((N4 x1725 x1726 x1727 x1728) * (N4 x1725 x1726 x1727 x1728)) % qN)) % qN) + 
 (N4 x1733 x1734 x1735 x1736)) % qN) fun x1741 x1742 x1743 x1744 => B4 0 0 0 0 fun x1745 x1746 x1747 x1748 => (((W4 x1741 x1742 x1743 x1744) ∧ (Z4 x1745 x1746 x1747 x1748)) 
 ∧ ((((Bool.not (sqN (N4 x1741 x1742 x1743 x1744))) = Bool.true) → (B4 x1233 x1234 x1235 x1236 fun x1749 x1750 x1751 x1752 => B4 x1237 x1238 x1239 x1240 fun x1753 x1754 x1755 x1756 => B4 x1233 x1234 x1235 x1236 fun x1757 x1758 x1759 x1760 => B4 x1237 x1238 x1239 x1240 fun x1761 x1762 x1763 x1764 => 
 (((((W4 x1749 x1750 x1751 x1752) ∧ (W4 x1757 x1758 x1759 x1760)) ∧ (((V4 x1749 x1750 x1751 x1752) < qI) ∧ ((V4 x1757 x1758 x1759 x1760) < qI))) ∧ ((Z4 x1753 x1754 x1755 x1756) 
 ∧ (Z4 x1761 x1762 x1763 x1764))) ∧ (L4 (((N4 x1749 x1750 x1751 x1752) * (N4 x1757 x1758 x1759 x1760)) % qN) fun x1765 x1766 x1767 x1768 => B4 0 0 0 0 fun x1769 x1770 x1771 x1772 => B4 x1289 x1290 x1291 x1292 fun x1773 x1774 x1775 x1776 => B4 x1293 x1294 x1295 x1296 fun x1777 x1778 x1779 x1780 => 
 (((((W4 x1765 x1766 x1767 x1768) ∧ (W4 x1773 x1774 x1775 x1776)) ∧ (((V4 x1765 x1766 x1767 x1768) < qI) ∧ ((V4 x1773 x1774 x1775 x1776) < qI))) ∧ ((Z4 x1769 x1770 x1771 x1772) 
 ∧ (Z4 x1777 x1778 x1779 x1780))) ∧ (L4 (((N4 x1765 x1766 x1767 x1768) * (N4 x1773 x1774 x1775 x1776)) % qN) fun x1781 x1782 x1783 x1784 => B4 0 0 0 0 fun x1785 x1786 x1787 x1788 => B4 x1781 x1782 x1783 x1784 fun x1789 x1790 x1791 x1792 => B4 x1785 x1786 x1787 x1788 fun x1793 x1794 x1795 x1796 => B4 x1781 x1782 x1783 x1784 fun x1797 x1798 x1799 x1800 => B4 x1785 x1786 x1787 x1788 fun x1801 x1802 x1803 x1804 => 
 (((((W4 x1789 x1790 x1791 x1792) ∧ (W4 x1797 x1798 x1799 x1800)) ∧ (((V4 x1789 x1790 x1791 x1792) < qI) ∧ ((V4 x1797 x1798 x1799 x1800) < qI))) ∧ ((Z4 x1793 x1794 x1795 x1796) 
 ∧ (Z4 x1801 x1802 x1803 x1804))) ∧ (L4 (((N4 x1789 x1790 x1791 x1792) * (N4 x1797 x1798 x1799 x1800)) % qN) fun x1805 x1806 x1807 x1808 => B4 0 0 0 0 fun x1809 x1810 x1811 x1812 => B4 x1129 x1130 x1131 x1132 fun x1813 x1814 x1815 x1816 => B4 x1133 x1134 x1135 x1136 fun x1817 x1818 x1819 x1820 => 
 (((((W4 x1805 x1806 x1807 x1808) ∧ (W4 x1813 x1814 x1815 x1816)) ∧ (((V4 x1805 x1806 x1807 x1808) < qI) ∧ ((V4 x1813 x1814 x1815 x1816) < qI))) ∧ ((Z4 x1809 x1810 x1811 x1812) 
 ∧ (Z4 x1817 x1818 x1819 x1820))) ∧ (L4 (((N4 x1805 x1806 x1807 x1808) * (N4 x1813 x1814 x1815 x1816)) % qN) fun x1821 x1822 x1823 x1824 => B4 0 0 0 0 fun x1825 x1826 x1827 x1828 => B4 x8 x9 x10 x11 fun x1829 x1830 x1831 x1832 => B4 x12 x13 x14 x15 fun x1833 x1834 x1835 x1836 => 
 (((((W4 x1821 x1822 x1823 x1824) ∧ (W4 x1829 x1830 x1831 x1832)) ∧ (((V4 x1821 x1822 x1823 x1824) < qI) ∧ ((V4 x1829 x1830 x1831 x1832) < qI))) ∧ ((Z4 x1825 x1826 x1827 x1828) 
 ∧ (Z4 x1833 x1834 x1835 x1836))) ∧ (L4 (((N4 x1821 x1822 x1823 x1824) + (N4 x1829 x1830 x1831 x1832)) % qN) fun x1837 x1838 x1839 x1840 => B4 0 0 0 0 fun x1841 x1842 x1843 x1844 => B4 x1837 x1838 x1839 x1840 fun x1845 x1846 x1847 x1848 => B4 x1841 x1842 x1843 x1844 fun x1849 x1850 x1851 x1852 => B4 3 0 0 0 fun x1853 x1854 x1855 x1856 => B4 0 0 0 0 fun x1857 x1858 x1859 x1860 => 
 (((((W4 x1845 x1846 x1847 x1848) ∧ (W4 x1853 x1854 x1855 x1856)) ∧ (((V4 x1845 x1846 x1847 x1848) < qI) ∧ ((V4 x1853 x1854 x1855 x1856) < qI))) ∧ ((Z4 x1849 x1850 x1851 x1852) 
 ∧ (Z4 x1857 x1858 x1859 x1860))) ∧ (L4 (((((N4 x1845 x1846 x1847 x1848) * (((N4 x1845 x1846 x1847 x1848) * (N4 x1845 x1846 x1847 x1848)) % qN)) % qN) + 
 (N4 x1853 x1854 x1855 x1856)) % qN) fun x1861 x1862 x1863 x1864 => B4 0 0 0 0 fun x1865 x1866 x1867 x1868 => ((((W4 x1861 x1862 x1863 x1864) ∧ (Z4 x1865 x1866 x1867 x1868)) 
 ∧ ((sqN (N4 x1861 x1862 x1863 x1864)) = Bool.true)) ∧ (L4 (rtN (N4 x1861 x1862 x1863 x1864)) fun x1869 x1870 x1871 x1872 => B4 0 0 0 0 fun x1873 x1874 x1875 x1876 => 
 (((W4 x1869 x1870 x1871 x1872) ∧ (Z4 x1873 x1874 x1875 x1876)) ∧ (B4 ((((N4 x1869 x1870 x1871 x1872) % 2) : Nat) : Int) u0 u1 u2 fun x1877 x1878 x1879 x1880 => B4 u3 0 0 0 fun x1881 x1882 x1883 x1884 => B1 0 fun x1885 => 
 (((W4 x1878 x1879 x1880 x1881) ∧ (Z4 x1882 x1883 x1884 x1885)) ∧ (B1 ((((N4 x1878 x1879 x1880 x1881) % 2) : Nat) : Int) fun x1886 => ((((x1877 != x1886) = Bool.true) 
 → (L4 (rtN (N4 x1861 x1862 x1863 x1864)) fun x1887 x1888 x1889 x1890 => B4 0 0 0 0 fun x1891 x1892 x1893 x1894 => (((((W4 0 0 0 0) ∧ (W4 x1887 x1888 x1889 x1890)) 
 ∧ (((0 :Int) < qI) ∧ ((V4 x1887 x1888 x1889 x1890) < qI))) ∧ ((Z4 0 0 0 0) ∧ (Z4 x1891 x1892 x1893 x1894))) ∧ (L4 ((0 + (qN - (N4 x1887 x1888 x1889 x1890))) % qN) fun x1895 x1896 x1897 x1898 => B4 0 0 0 0 fun x1899 x1900 x1901 x1902 => B4 x1837 x1838 x1839 x1840 fun x1903 x1904 x1905 x1906 => B4 x1841 x1842 x1843 x1844 fun x1907 x1908 x1909 x1910 => B4 x1895 x1896 x1897 x1898 fun x1911 x1912 x1913 x1914 => B4 x1899 x1900 x1901 x1902 fun x1915 x1916 x1917 x1918 => 
 (K (SV.agg [(U x1903), (U x1904), (U x1905), (U x1906), (U x1907), (U x1908), (U x1909), (U x1910), (U x1911), (U x1912), (U x1913), (U x1914), (U x1915), 
 (U x1916), (U x1917), (U x1918)]) (memL [(513, (Reg.mk Bool.false (Ct.cells [(U u0), (U u1), (U u2), (U u3), (SV.int IntKind.u64 (A.sym 0)), (SV.int IntKind.u64 
 (A.sym 0)), (SV.int IntKind.u64 (A.sym 0)), (SV.int IntKind.u64 (A.sym 0))]))), (521, (Reg.mk Bool.false (Ct.cells [(SV.int IntKind.u64 (A.sym 3)), (SV.int IntKind.u64 
 (A.sym 0)), (SV.int IntKind.u64 (A.sym 0)), (SV.int IntKind.u64 (A.sym 0)), (SV.int IntKind.u64 (A.sym 0)), (SV.int IntKind.u64 (A.sym 0)), (SV.int IntKind.u64 
 (A.sym 0)), (SV.int IntKind.u64 (A.sym 0))]))), (529, (Reg.mk Bool.false (Ct.cells [(U x1903), (U x1904), (U x1905), (U x1906), (U x1907), (U x1908), 
 (U x1909), (U x1910), (U x1911), (U x1912), (U x1913), (U x1914), (U x1915), (U x1916), (U x1917), (U x1918)]))), (561, (Reg.mk Bool.false (Ct.cells [(U x8), 
 (U x9), (U x10), (U x11), (U x12), (U x13), (U x14), (U x15)]))), (601, (Reg.mk Bool.false (Ct.cells [(U x32), (U x33), (U x34), (U x35), (U x36), (U x37), 
 (U x38), (U x39)]))), (657, (Reg.mk Bool.false (Ct.cells [(U x72), (U x73), (U x74), (U x75), (U x76), (U x77), (U x78), (U x79)]))), (745, (Reg.mk Bool.false 
 (Ct.cells [(SV.int IntKind.u64 (A.sym (lm (rtN (N4 x104 x105 x106 x107)) 0))), (SV.int IntKind.u64 (A.sym (lm (rtN (N4 x104 x105 x106 x107)) 1))), (SV.int IntKind.u64 
 (A.sym (lm (rtN (N4 x104 x105 x106 x107)) 2))), (SV.int IntKind.u64 (A.sym (lm (rtN (N4 x104 x105 x106 x107)) 3))), (SV.int IntKind.u64 (A.sym 0)), (SV.int IntKind.u64 
 (A.sym 0)), (SV.int IntKind.u64 (A.sym 0)), (SV.int IntKind.u64 (A.sym 0))]))), (857, (Reg.mk Bool.false (Ct.cells [(U x1129), (U x1130), (U x1131), (U x1132), 
 (U x1133), (U x1134), (U x1135), (U x1136)]))), (921, (Reg.mk Bool.false (Ct.cells [(U x1169), (U x1170), (U x1171), (U x1172), (U x1173), (U x1174), 
 (U x1175), (U x1176)]))), (977, (Reg.mk Bool.false (Ct.cells [(U x1209), (U x1210), (U x1211), (U x1212), (U x1213), (U x1214), (U x1215), (U x1216)]))), 
 (1041, (Reg.mk Bool.false (Ct.cells [(U x1233), (U x1234), (U x1235), (U x1236), (U x1237), (U x1238), (U x1239), (U x1240)]))), (1049, (Reg.mk Bool.false 
 (Ct.cells [(U x1257), (U x1258), (U x1259), (U x1260), (U x1261), (U x1262), (U x1263), (U x1264)]))), (1105, (Reg.mk Bool.false (Ct.cells [(U x1289), 
 (U x1290), (U x1291), (U x1292), (U x1293), (U x1294), (U x1295), (U x1296)]))), (1177, (Reg.mk Bool.false (Ct.cells [(U x1345), (U x1346), (U x1347), 
 (U x1348), (U x1349), (U x1350), (U x1351), (U x1352)]))), (1217, (Reg.mk Bool.false (Ct.cells [(U x1837), (U x1838), (U x1839), (U x1840), (U x1841), 
 (U x1842), (U x1843), (U x1844)]))), (1369, (Reg.mk Bool.false (Ct.cells [(U x1781), (U x1782), (U x1783), (U x1784), (U x1785), (U x1786), (U x1787), 
 (U x1788)]))), (1505, (Reg.mk Bool.false (Ct.cells [(U x1895), (U x1896), (U x1897), (U x1898), (U x1899), (U x1900), (U x1901), (U x1902)])))])))))) 
 ∧ (((x1877 != x1886) = Bool.false) → (B4 x1837 x1838 x1839 x1840 fun x1919 x1920 x1921 x1922 => B4 x1841 x1842 x1843 x1844 fun x1923 x1924 x1925 x1926 => L4 
 (rtN (N4 x1861 x1862 x1863 x1864)) fun x1927 x1928 x1929 x1930 => B4 0 0 0 0 fun x1931 x1932 x1933 x1934 => (K (SV.agg [(U x1919), (U x1920), (U x1921), 
 (U x1922), (U x1923), (U x1924), (U x1925), (U x1926), (U x1927), (U x1928), (U x1929), (U x1930), (U x1931), (U x1932), (U x1933), (U x1934)]) (memL [(513, 
 (Reg.mk Bool.false (Ct.cells [(U u0), (U u1), (U u2), (U u3), (SV.int IntKind.u64 (A.sym 0)), (SV.int IntKind.u64 (A.sym 0)), (SV.int IntKind.u64 (A.sym 0)), 
 (SV.int IntKind.u64 (A.sym 0))]))), (521, (Reg.mk Bool.false (Ct.cells [(SV.int IntKind.u64 (A.sym 3)), (SV.int IntKind.u64 (A.sym 0)), (SV.int IntKind.u64 
 (A.sym 0)), (SV.int IntKind.u64 (A.sym 0)), (SV.int IntKind.u64 (A.sym 0)), (SV.int IntKind.u64 (A.sym 0)), (SV.int IntKind.u64 (A.sym 0)), (SV.int IntKind.u64 
 (A.sym 0))]))), (529, (Reg.mk Bool.false (Ct.cells [(U x1919), (U x1920), (U x1921), (U x1922), (U x1923), (U x1924), (U x1925), (U x1926), (U x1927), 
 (U x1928), (U x1929), (U x1930), (U x1931), (U x1932), (U x1933), (U x1934)]))), (561, (Reg.mk Bool.false (Ct.cells [(U x8), (U x9), (U x10), (U x11), 
 (U x12), (U x13), (U x14), (U x15)]))), (601, (Reg.mk Bool.false (Ct.cells [(U x32), (U x33), (U x34), (U x35), (U x36), (U x37), (U x38), (U x39)]))), 
 (657, (Reg.mk Bool.false (Ct.cells [(U x72), (U x73), (U x74), (U x75), (U x76), (U x77), (U x78), (U x79)]))), (745, (Reg.mk Bool.false (Ct.cells [(SV.int IntKind.u64 
 (A.sym (lm (rtN (N4 x104 x105 x106 x107)) 0))), (SV.int IntKind.u64 (A.sym (lm (rtN (N4 x104 x105 x106 x107)) 1))), (SV.int IntKind.u64 (A.sym (lm (rtN 
 (N4 x104 x105 x106 x107)) 2))), (SV.int IntKind.u64 (A.sym (lm (rtN (N4 x104 x105 x106 x107)) 3))), (SV.int IntKind.u64 (A.sym 0)), (SV.int IntKind.u64 
 (A.sym 0)), (SV.int IntKind.u64 (A.sym 0)), (SV.int IntKind.u64 (A.sym 0))]))), (857, (Reg.mk Bool.false (Ct.cells [(U x1129), (U x1130), (U x1131), (U x1132), 
 (U x1133), (U x1134), (U x1135), (U x1136)]))), (921, (Reg.mk Bool.false (Ct.cells [(U x1169), (U x1170), (U x1171), (U x1172), (U x1173), (U x1174), 
 (U x1175), (U x1176)]))), (977, (Reg.mk Bool.false (Ct.cells [(U x1209), (U x1210), (U x1211), (U x1212), (U x1213), (U x1214), (U x1215), (U x1216)]))), 
 (1041, (Reg.mk Bool.false (Ct.cells [(U x1233), (U x1234), (U x1235), (U x1236), (U x1237), (U x1238), (U x1239), (U x1240)]))), (1049, (Reg.mk Bool.false 
 (Ct.cells [(U x1257), (U x1258), (U x1259), (U x1260), (U x1261), (U x1262), (U x1263), (U x1264)]))), (1105, (Reg.mk Bool.false (Ct.cells [(U x1289), 
 (U x1290), (U x1291), (U x1292), (U x1293), (U x1294), (U x1295), (U x1296)]))), (1177, (Reg.mk Bool.false (Ct.cells [(U x1345), (U x1346), (U x1347), 
 (U x1348), (U x1349), (U x1350), (U x1351), (U x1352)]))), (1217, (Reg.mk Bool.false (Ct.cells [(U x1837), (U x1838), (U x1839), (U x1840), (U x1841), 
 (U x1842), (U x1843), (U x1844)]))), (1369, (Reg.mk Bool.false (Ct.cells [(U x1781), (U x1782), (U x1783), (U x1784), (U x1785), (U x1786), (U x1787), 
 (U x1788)]))), (1505, (Reg.mk Bool.false (Ct.cells [(SV.int IntKind.u64 (A.sym (lm (rtN (N4 x1861 x1862 x1863 x1864)) 0))), (SV.int IntKind.u64 (A.sym 
 (lm (rtN (N4 x1861 x1862 x1863 x1864)) 1))), (SV.int IntKind.u64 (A.sym (lm (rtN (N4 x1861 x1862 x1863 x1864)) 2))), (SV.int IntKind.u64 (A.sym (lm (rtN 
 (N4 x1861 x1862 x1863 x1864)) 3))), (SV.int IntKind.u64 (A.sym 0)), (SV.int IntKind.u64 (A.sym 0)), (SV.int IntKind.u64 (A.sym 0)), (SV.int IntKind.u64 
 (A.sym 0))])))]))))))))))))))))))))))))) ∧ (((Bool.not (sqN (N4 x1741 x1742 x1743 x1744))) = Bool.false) → (B4 x1369 x1370 x1371 x1372 fun x1935 x1936 x1937 x1938 => B4 x1373 x1374 x1375 x1376 fun x1939 x1940 x1941 x1942 => B4 3 0 0 0 fun x1943 x1944 x1945 x1946 => B4 0 0 0 0 fun x1947 x1948 x1949 x1950 => 
 (((((W4 x1935 x1936 x1937 x1938) ∧ (W4 x1943 x1944 x1945 x1946)) ∧ (((V4 x1935 x1936 x1937 x1938) < qI) ∧ ((V4 x1943 x1944 x1945 x1946) < qI))) ∧ ((Z4 x1939 x1940 x1941 x1942) 
 ∧ (Z4 x1947 x1948 x1949 x1950))) ∧ (L4 (((((N4 x1935 x1936 x1937 x1938) * (((N4 x1935 x1936 x1937 x1938) * (N4 x1935 x1936 x1937 x1938)) % qN)) % qN) + 
 (N4 x1943 x1944 x1945 x1946)) % qN) fun x1951 x1952 x1953 x1954 => B4 0 0 0 0 fun x1955 x1956 x1957 x1958 => ((((W4 x1951 x1952 x1953 x1954) ∧ (Z4 x1955 x1956 x1957 x1958)) 
 ∧ ((sqN (N4 x1951 x1952 x1953 x1954)) = Bool.true)) ∧ (L4 (rtN (N4 x1951 x1952 x1953 x1954)) fun x1959 x1960 x1961 x1962 => B4 0 0 0 0 fun x1963 x1964 x1965 x1966 => 
 (((W4 x1959 x1960 x1961 x1962) ∧ (Z4 x1963 x1964 x1965 x1966)) ∧ (B4 ((((N4 x1959 x1960 x1961 x1962) % 2) : Nat) : Int) u0 u1 u2 fun x1967 x1968 x1969 x1970 => B4 u3 0 0 0 fun x1971 x1972 x1973 x1974 => B1 0 fun x1975 => 
 (((W4 x1968 x1969 x1970 x1971) ∧ (Z4 x1972 x1973 x1974 x1975)) ∧ (B1 ((((N4 x1968 x1969 x1970 x1971) % 2) : Nat) : Int) fun x1976 => ((((x1967 != x1976) = Bool.true) 
 → (L4 (rtN (N4 x1951 x1952 x1953 x1954)) fun x1977 x1978 x1979 x1980 => B4 0 0 0 0 fun x1981 x1982 x1983 x1984 => (((((W4 0 0 0 0) ∧ (W4 x1977 x1978 x1979 x1980)) 
 ∧ (((0 :Int) < qI) ∧ ((V4 x1977 x1978 x1979 x1980) < qI))) ∧ ((Z4 0 0 0 0) ∧ (Z4 x1981 x1982 x1983 x1984))) ∧ (L4 ((0 + (qN - (N4 x1977 x1978 x1979 x1980))) % qN) fun x1985 x1986 x1987 x1988 => B4 0 0 0 0 fun x1989 x1990 x1991 x1992 => B4 x1369 x1370 x1371 x1372 fun x1993 x1994 x1995 x1996 => B4 x1373 x1374 x1375 x1376 fun x1997 x1998 x1999 x2000 => B4 x1985 x1986 x1987 x1988 fun x2001 x2002 x2003 x2004 => B4 x1989 x1990 x1991 x1992 fun x2005 x2006 x2007 x2008 => 
 (K (SV.agg [(U x1993), (U x1994), (U x1995), (U x1996), (U x1997), (U x1998), (U x1999), (U x2000), (U x2001), (U x2002), (U x2003), (U x2004), (U x2005), 
 (U x2006), (U x2007), (U x2008)]) (memL [(513, (Reg.mk Bool.false (Ct.cells [(U u0), (U u1), (U u2), (U u3), (SV.int IntKind.u64 (A.sym 0)), (SV.int IntKind.u64 
 (A.sym 0)), (SV.int IntKind.u64 (A.sym 0)), (SV.int IntKind.u64 (A.sym 0))]))), (521, (Reg.mk Bool.false (Ct.cells [(SV.int IntKind.u64 (A.sym 3)), (SV.int IntKind.u64 
 (A.sym 0)), (SV.int IntKind.u64 (A.sym 0)), (SV.int IntKind.u64 (A.sym 0)), (SV.int IntKind.u64 (A.sym 0)), (SV.int IntKind.u64 (A.sym 0)), (SV.int IntKind.u64 
 (A.sym 0)), (SV.int IntKind.u64 (A.sym 0))]))), (529, (Reg.mk Bool.false (Ct.cells [(U x1993), (U x1994), (U x1995), (U x1996), (U x1997), (U x1998), 
 (U x1999), (U x2000), (U x2001), (U x2002), (U x2003), (U x2004), (U x2005), (U x2006), (U x2007), (U x2008)]))), (561, (Reg.mk Bool.false (Ct.cells [(U x8), 
 (U x9), (U x10), (U x11), (U x12), (U x13), (U x14), (U x15)]))), (601, (Reg.mk Bool.false (Ct.cells [(U x32), (U x33), (U x34), (U x35), (U x36), (U x37), 
 (U x38), (U x39)]))), (657, (Reg.mk Bool.false (Ct.cells [(U x72), (U x73), (U x74), (U x75), (U x76), (U x77), (U x78), (U x79)]))), (745, (Reg.mk Bool.false 
 (Ct.cells [(SV.int IntKind.u64 (A.sym (lm (rtN (N4 x104 x105 x106 x107)) 0))), (SV.int IntKind.u64 (A.sym (lm (rtN (N4 x104 x105 x106 x107)) 1))), (SV.int IntKind.u64 
 (A.sym (lm (rtN (N4 x104 x105 x106 x107)) 2))), (SV.int IntKind.u64 (A.sym (lm (rtN (N4 x104 x105 x106 x107)) 3))), (SV.int IntKind.u64 (A.sym 0)), (SV.int IntKind.u64 
 (A.sym 0)), (SV.int IntKind.u64 (A.sym 0)), (SV.int IntKind.u64 (A.sym 0))]))), (857, (Reg.mk Bool.false (Ct.cells [(U x1129), (U x1130), (U x1131), (U x1132), 
 (U x1133), (U x1134), (U x1135), (U x1136)]))), (921, (Reg.mk Bool.false (Ct.cells [(U x1169), (U x1170), (U x1171), (U x1172), (U x1173), (U x1174), 
 (U x1175), (U x1176)]))), (977, (Reg.mk Bool.false (Ct.cells [(U x1209), (U x1210), (U x1211), (U x1212), (U x1213), (U x1214), (U x1215), (U x1216)]))), 
 (1041, (Reg.mk Bool.false (Ct.cells [(U x1233), (U x1234), (U x1235), (U x1236), (U x1237), (U x1238), (U x1239), (U x1240)]))), (1049, (Reg.mk Bool.false 
 (Ct.cells [(U x1257), (U x1258), (U x1259), (U x1260), (U x1261), (U x1262), (U x1263), (U x1264)]))), (1105, (Reg.mk Bool.false (Ct.cells [(U x1289), 
 (U x1290), (U x1291), (U x1292), (U x1293), (U x1294), (U x1295), (U x1296)]))), (1177, (Reg.mk Bool.false (Ct.cells [(U x1345), (U x1346), (U x1347), 
 (U x1348), (U x1349), (U x1350), (U x1351), (U x1352)]))), (1217, (Reg.mk Bool.false (Ct.cells [(U x1369), (U x1370), (U x1371), (U x1372), (U x1373), 
 (U x1374), (U x1375), (U x1376)]))), (1385, (Reg.mk Bool.false (Ct.cells [(U x1985), (U x1986), (U x1987), (U x1988), (U x1989), (U x1990), (U x1991), 
 (U x1992)])))])))))) ∧ (((x1967 != x1976) = Bool.false) → (B4 x1369 x1370 x1371 x1372 fun x2009 x2010 x2011 x2012 => B4 x1373 x1374 x1375 x1376 fun x2013 x2014 x2015 x2016 => L4 
 (rtN (N4 x1951 x1952 x1953 x1954)) fun x2017 x2018 x2019 x2020 => B4 0 0 0 0 fun x2021 x2022 x2023 x2024 => (K (SV.agg [(U x2009), (U x2010), (U x2011), 
 (U x2012), (U x2013), (U x2014), (U x2015), (U x2016), (U x2017), (U x2018), (U x2019), (U x2020), (U x2021), (U x2022), (U x2023), (U x2024)]) (memL [(513, 
 (Reg.mk Bool.false (Ct.cells [(U u0), (U u1), (U u2), (U u3), (SV.int IntKind.u64 (A.sym 0)), (SV.int IntKind.u64 (A.sym 0)), (SV.int IntKind.u64 (A.sym 0)), 
 (SV.int IntKind.u64 (A.sym 0))]))), (521, (Reg.mk Bool.false (Ct.cells [(SV.int IntKind.u64 (A.sym 3)), (SV.int IntKind.u64 (A.sym 0)), (SV.int IntKind.u64 
 (A.sym 0)), (SV.int IntKind.u64 (A.sym 0)), (SV.int IntKind.u64 (A.sym 0)), (SV.int IntKind.u64 (A.sym 0)), (SV.int IntKind.u64 (A.sym 0)), (SV.int IntKind.u64 
 (A.sym 0))]))), (529, (Reg.mk Bool.false (Ct.cells [(U x2009), (U x2010), (U x2011), (U x2012), (U x2013), (U x2014), (U x2015), (U x2016), (U x2017), 
 (U x2018), (U x2019), (U x2020), (U x2021), (U x2022), (U x2023), (U x2024)]))), (561, (Reg.mk Bool.false (Ct.cells [(U x8), (U x9), (U x10), (U x11), 
 (U x12), (U x13), (U x14), (U x15)]))), (601, (Reg.mk Bool.false (Ct.cells [(U x32), (U x33), (U x34), (U x35), (U x36), (U x37), (U x38), (U x39)]))), 
 (657, (Reg.mk Bool.false (Ct.cells [(U x72), (U x73), (U x74), (U x75), (U x76), (U x77), (U x78), (U x79)]))), (745, (Reg.mk Bool.false (Ct.cells [(SV.int IntKind.u64 
 (A.sym (lm (rtN (N4 x104 x105 x106 x107)) 0))), (SV.int IntKind.u64 (A.sym (lm (rtN (N4 x104 x105 x106 x107)) 1))), (SV.int IntKind.u64 (A.sym (lm (rtN 
 (N4 x104 x105 x106 x107)) 2))), (SV.int IntKind.u64 (A.sym (lm (rtN (N4 x104 x105 x106 x107)) 3))), (SV.int IntKind.u64 (A.sym 0)), (SV.int IntKind.u64 
 (A.sym 0)), (SV.int IntKind.u64 (A.sym 0)), (SV.int IntKind.u64 (A.sym 0))]))), (857, (Reg.mk Bool.false (Ct.cells [(U x1129), (U x1130), (U x1131), (U x1132), 
 (U x1133), (U x1134), (U x1135), (U x1136)]))), (921, (Reg.mk Bool.false (Ct.cells [(U x1169), (U x1170), (U x1171), (U x1172), (U x1173), (U x1174), 
 (U x1175), (U x1176)]))), (977, (Reg.mk Bool.false (Ct.cells [(U x1209), (U x1210), (U x1211), (U x1212), (U x1213), (U x1214), (U x1215), (U x1216)]))), 
 (1041, (Reg.mk Bool.false (Ct.cells [(U x1233), (U x1234), (U x1235), (U x1236), (U x1237), (U x1238), (U x1239), (U x1240)]))), (1049, (Reg.mk Bool.false 
 (Ct.cells [(U x1257), (U x1258), (U x1259), (U x1260), (U x1261), (U x1262), (U x1263), (U x1264)]))), (1105, (Reg.mk Bool.false (Ct.cells [(U x1289), 
 (U x1290), (U x1291), (U x1292), (U x1293), (U x1294), (U x1295), (U x1296)]))), (1177, (Reg.mk Bool.false (Ct.cells [(U x1345), (U x1346), (U x1347), 
 (U x1348), (U x1349), (U x1350), (U x1351), (U x1352)]))), (1217, (Reg.mk Bool.false (Ct.cells [(U x1369), (U x1370), (U x1371), (U x1372), (U x1373), 
 (U x1374), (U x1375), (U x1376)]))), (1385, (Reg.mk Bool.false (Ct.cells [(SV.int IntKind.u64 (A.sym (lm (rtN (N4 x1951 x1952 x1953 x1954)) 0))), (SV.int IntKind.u64 
 (A.sym (lm (rtN (N4 x1951 x1952 x1953 x1954)) 1))), (SV.int IntKind.u64 (A.sym (lm (rtN (N4 x1951 x1952 x1953 x1954)) 2))), (SV.int IntKind.u64 (A.sym 
 (lm (rtN (N4 x1951 x1952 x1953 x1954)) 3))), (SV.int IntKind.u64 (A.sym 0)), (SV.int IntKind.u64 (A.sym 0)), (SV.int IntKind.u64 (A.sym 0)), (SV.int IntKind.u64 
 (A.sym 0))])))])))))))))))))))))))))))))))))))))))))))))))))))))))))))))))))))))))))))))))))))))))))))) := by kernel_rfl 
/-- What the map gives. -/
def mxN (A : Nat) : Nat := if sqN (gN (x1N A)) = true then x1N A else if sqN (gN (x2N A)) = true then x2N A else x3N A
def myN (A : Nat) : Nat := if rtN (gN (mxN A)) % 2 = A % 2 then rtN (gN (mxN A)) else (0 + (qN - rtN (gN (mxN A)))) % qN
def agM (x y : Nat) : SV := .agg [U (lm x 0), U (lm x 1), U (lm x 2), U (lm x 3), U 0, U 0, U 0, U 0, U (lm y 0), U (lm y 1), U (lm y 2), U (lm y 3), U 0, U 0, U 0, U 0]
theorem mp_walk {A : Nat} {a0 a1 a2 a3 : Int} {K : SV → Mem → Prop} (ha : Ws a0 a1 a2 a3 A) (la : A < qN) (hK : ∀ m, K (agM (mxN A) (myN A)) m) :
    execF cxMp u9 Tryd.f14 64 [agF a0 a1 a2 a3, agF 3 0 0 0, .bool (.lit true)] (memL []) K := by
  rw [vc_mp]
  have wa : W4 a0 a1 a2 a3 = True := eq_true ha.wd
  have na : N4 a0 a1 a2 a3 = A := Vx ha
  have va : (V4 a0 a1 a2 a3 < qI) = True := eq_true (by rw [ha.val, qI_eq]; omega)
  simp only [wa, na, va, ↓L4_eq, ↓B4_eq, ↓B1_eq, Z4_0, N4q, N4i, N4r, N4_0, N4_1, N4_2, N4_3, N4_4, W4l, W4_0, W4_1, W4_2, W4_3, W4_4, Vq_lt, Vi_lt, Vr_lt, V0_lt, V1_lt, V2_lt, V3_lt, V4_lt', z_lt, and_true, true_and, and_self]
  have r1 : ((0 : Int) ≤ 1 ∧ (1 : Int) < 18446744073709551616) = True := by decide
  have r2 : ((0 : Int) ≤ 2 ∧ (2 : Int) < 18446744073709551616) = True := by decide
  have r3 : ((0 : Int) ≤ 3 ∧ (3 : Int) < 18446744073709551616) = True := by decide
  have r4 : ((0 : Int) ≤ 4 ∧ (4 : Int) < 18446744073709551616) = True := by decide
  have e1 : (1 * (1 * 1 % qN) % qN + 3) % qN = 4 := by decide
  have e2 : 3 * (1 * 1 % qN) % qN = 3 := by decide
  have e3 : (0 + (qN - 4 * 3 % qN)) % qN = 21888242871839275222246405745257275088696311157297823662689037894645226208571 := by decide
  have e4 : rtN 21888242871839275222246405745257275088696311157297823662689037894645226208571 = c3N := by decide +kernel
  have e5 : sqN 21888242871839275222246405745257275088696311157297823662689037894645226208571 = true := by decide +kernel
  have e6 : (((((c3N % 2 : Nat)) : Int) == 1) = true) = False := by decide +kernel
  have e7 : (((((c3N % 2 : Nat)) : Int) == 1) = false) = True := by decide +kernel
  have e8 : (0 + (qN - 4 * 4 % qN * inv0 3 % qN)) % qN = c4N := by decide +kernel
  have e9 : (0 + (qN - 1)) % qN * inv0 2 % qN = c2N := by decide +kernel
  have t1 : A * A % qN * 4 % qN = tN A := rfl
  have t2 : (1 + tN A) % qN = moN A := rfl
  have t3 : (1 + (qN - tN A)) % qN = leN A := rfl
  have t4 : inv0 (leN A * moN A % qN) = ivN A := rfl
  have t5 : A * leN A % qN * ivN A % qN * c3N % qN = stN A := rfl
  have t6 : (c2N + (qN - stN A)) % qN = x1N A := rfl
  have t7 : (c2N + stN A) % qN = x2N A := rfl
  have t8 : moN A * moN A % qN * ivN A % qN = vvN A := rfl
  have t9 : (vvN A * vvN A % qN * c4N % qN + 1) % qN = x3N A := rfl
  have g1 : ∀ x, (x * (x * x % qN) % qN + 3) % qN = gN x := fun _ => rfl
  simp only [r1, r2, r3, r4, e1, e2, e3, e4, e5, e6, e7, e8, e9, t1, t2, t3, t4, t5, t6, t7, t8, t9, g1, true_and, and_true, false_imp_iff, true_implies]
  have fin : ∀ x, mxN A = x → ((((rtN (gN x) % 2 : Nat) : Int) != ((A % 2 : Nat) : Int)) = true → ∀ m, K (agM x ((0 + (qN - rtN (gN x))) % qN)) m) ∧ ((((rtN (gN x) % 2 : Nat) : Int) != ((A % 2 : Nat) : Int)) = false → ∀ m, K (agM x (rtN (gN x))) m) := by
    intro x hx
    unfold myN at hK
    rw [hx] at hK
    constructor
    · intro h m
      have h : ¬ rtN (gN x) % 2 = A % 2 := fun e => by rw [e] at h; simp at h
      rw [if_neg h] at hK
      exact hK m
    · intro h m
      have h : rtN (gN x) % 2 = A % 2 := by simp at h; omega
      rw [if_pos h] at hK
      exact hK m
  have sv := svdw A
  cases h1 : sqN (gN (x1N A)) <;> cases h2 : sqN (gN (x2N A)) <;> simp only [Bool.not_true, Bool.not_false, true_implies, false_imp_iff, and_true, true_and, reduceCtorEq]
  · have h3 : sqN (gN (x3N A)) = true := by
      rw [h1, h2] at sv
      simpa using sv
    have fx := fin (x3N A) (by unfold mxN; rw [if_neg (by rw [h1]; decide), if_neg (by rw [h2]; decide)])
    exact ⟨h3, fun h => fx.1 h _, fun h => fx.2 h _⟩
  · have fx := fin (x2N A) (by unfold mxN; rw [if_neg (by rw [h1]; decide), if_pos h2])
    exact ⟨fun h => fx.1 h _, fun h => fx.2 h _⟩
  · have fx := fin (x1N A) (by unfold mxN; rw [if_pos h1])
    exact ⟨fun h => fx.1 h _, fun h => fx.2 h _⟩
  · have fx := fin (x1N A) (by unfold mxN; rw [if_pos h1])
    exact ⟨fun h => fx.1 h _, fun h => fx.2 h _⟩
def rMp : R0 := fun args l =>
  match args, l with
  | [.agg [.int .u64 (.sym a0), .int .u64 (.sym a1), .int .u64 (.sym a2), .int .u64 (.sym a3), .int .u64 (.sym a4), .int .u64 (.sym a5), .int .u64 (.sym a6), .int .u64 (.sym a7)], .agg [.int .u64 (.sym b0), .int .u64 (.sym b1), .int .u64 (.sym b2), .int .u64 (.sym b3), .int .u64 (.sym b4), .int .u64 (.sym b5), .int .u64 (.sym b6), .int .u64 (.sym b7)], .bool (.lit true)], [] => some (some ((((Wd a0 ∧ Wd a1 ∧ Wd a2 ∧ Wd a3) ∧ V4 a0 a1 a2 a3 < 21888242871839275222246405745257275088696311157297823662689037894645226208583) ∧ (a4 = 0 ∧ a5 = 0 ∧ a6 = 0 ∧ a7 = 0)) ∧ (b0 = 3 ∧ b1 = 0 ∧ b2 = 0 ∧ b3 = 0) ∧ (b4 = 0 ∧ b5 = 0 ∧ b6 = 0 ∧ b7 = 0)), agM (mxN (V4 a0 a1 a2 a3).toNat) (myN (V4 a0 a1 a2 a3).toNat))
  | _, _ => none
theorem Mp_ok (args : List SV) (l : List (Nat × Reg)) (p : Ob) (v : SV) (h : rMp args l = some (p, v)) (hp : p.ok) : ∃ U, execF cxMp U Tryd.f14 64 args (memL l) fun v' _ => v' = v := by
  unfold rMp at h
  split at h
  · rename_i a0 a1 a2 a3 a4 a5 a6 a7 b0 b1 b2 b3 b4 b5 b6 b7
    simp only [Option.some.injEq, Prod.mk.injEq] at h
    obtain ⟨rfl, rfl⟩ := h
    have hp : (((Wd a0 ∧ Wd a1 ∧ Wd a2 ∧ Wd a3) ∧ V4 a0 a1 a2 a3 < 21888242871839275222246405745257275088696311157297823662689037894645226208583) ∧ (a4 = 0 ∧ a5 = 0 ∧ a6 = 0 ∧ a7 = 0)) ∧ (b0 = 3 ∧ b1 = 0 ∧ b2 = 0 ∧ b3 = 0) ∧ (b4 = 0 ∧ b5 = 0 ∧ b6 = 0 ∧ b7 = 0) := hp
    obtain ⟨⟨⟨wa, la⟩, z0, z1, z2, z3⟩, ⟨y0, y1, y2, y3⟩, z4, z5, z6, z7⟩ := hp
    subst z0 z1 z2 z3 z4 z5 z6 z7 y0 y1 y2 y3
    have A := ws_of wa.1 wa.2.1 wa.2.2.1 wa.2.2.2
    have ea := Ws.val A
    exact ⟨_, mp_walk A (by unfold qN; omega) fun _ => rfl⟩
  · cases h
def cMp : Rd Tryd.prog := mkR mixed 14 Tryd.func14 (by decide) (by kernel_rfl) [] [.num, .num, .val] rMp Mp_ok
end Go.Sx

/- spec.Map1 and spec.On1. -/
namespace Go.Sx
open Go Go.Proofs Go.Num
set_option maxRecDepth 100000
def cxMapa : Cx Tryd.prog := { rds := [cOne, cMp], efs := [], eqs := [] }
theorem vc_mapa (u0 u1 u2 u3 : Int) (K : SV → Mem → Prop) : (execF cxMapa u9 Tryd.f8 64 [ag4 u0 u1 u2 u3] (memL []) K) = (B4 u0 u1 u2 u3 fun x0 x1 x2 x3 => 
 ((((0 :Int) ≤ 3) ∧ ((3 :Int) < 18446744073709551616)) ∧ (B4 3 0 0 0 fun x4 x5 x6 x7 => B4 0 0 0 0 fun x8 x9 x10 x11 => (((((W4 x0 x1 x2 x3) ∧ ((V4 x0 x1 x2 x3) < qI)) 
 ∧ (Z4 0 0 0 0)) ∧ (((x4 = 3) ∧ ((x5 = 0) ∧ ((x6 = 0) ∧ (x7 = 0)))) ∧ (Z4 x8 x9 x10 x11))) ∧ (L4 (mxN (N4 x0 x1 x2 x3)) fun x12 x13 x14 x15 => B4 0 0 0 0 fun x16 x17 x18 x19 => L4 
 (myN (N4 x0 x1 x2 x3)) fun x20 x21 x22 x23 => B4 0 0 0 0 fun x24 x25 x26 x27 => B4 x12 x13 x14 x15 fun x28 x29 x30 x31 => B4 x20 x21 x22 x23 fun x32 x33 x34 x35 => 
 (K (SV.agg [(U x28), (U x29), (U x30), (U x31), (U x32), (U x33), (U x34), (U x35)]) (memL [(513, (Reg.mk Bool.false (Ct.cells [(U u0), (U u1), (U u2), 
 (U u3)]))), (521, (Reg.mk Bool.false (Ct.cells [(U x28), (U x29), (U x30), (U x31), (U x32), (U x33), (U x34), (U x35)]))), (561, (Reg.mk Bool.false (Ct.cells [(U x12), 
 (U x13), (U x14), (U x15), (U x16), (U x17), (U x18), (U x19), (U x20), (U x21), (U x22), (U x23), (U x24), (U x25), (U x26), (U x27)])))]))))))) := by kernel_rfl 
theorem mxN_lt (A : Nat) : mxN A < qN := by
  unfold mxN
  split
  · exact Nat.mod_lt _ (by decide)
  · split
    · exact Nat.mod_lt _ (by decide)
    · exact Nat.mod_lt _ (by decide)
theorem myN_lt (A : Nat) : myN A < qN := by
  unfold myN
  split
  · exact rtN_lt _
  · exact Nat.mod_lt _ (by decide)
theorem m1_walk {A : Nat} {a0 a1 a2 a3 : Int} {K : SV → Mem → Prop} (ha : Ws a0 a1 a2 a3 A) (la : A < qN) (hK : ∀ m, K (.agg [U (lm (mxN A) 0), U (lm (mxN A) 1), U (lm (mxN A) 2), U (lm (mxN A) 3), U (lm (myN A) 0), U (lm (myN A) 1), U (lm (myN A) 2), U (lm (myN A) 3)]) m) :
    execF cxMapa u9 Tryd.f8 64 [ag4 a0 a1 a2 a3] (memL []) K := by
  rw [vc_mapa]
  have wa : W4 a0 a1 a2 a3 = True := eq_true ha.wd
  have na : N4 a0 a1 a2 a3 = A := Vx ha
  have va : (V4 a0 a1 a2 a3 < qI) = True := eq_true (by rw [ha.val, qI_eq]; omega)
  have r3 : ((0 : Int) ≤ 3 ∧ (3 : Int) < 18446744073709551616) = True := by decide
  simp only [wa, na, va, r3, ↓L4_eq, ↓B4_eq, ↓B1_eq, Z4_0, N4q, N4i, N4r, N4_0, N4_1, N4_2, N4_3, N4_4, W4l, W4_0, W4_1, W4_2, W4_3, W4_4, Vq_lt, Vi_lt, Vr_lt, V0_lt, V1_lt, V2_lt, V3_lt, V4_lt', z_lt, and_true, true_and, and_self]
  exact hK _
def rMapa : R0 := fun args l =>
  match args, l with
  | [.agg [.int .u64 (.sym a0), .int .u64 (.sym a1), .int .u64 (.sym a2), .int .u64 (.sym a3)]], [] => some (some ((Wd a0 ∧ Wd a1 ∧ Wd a2 ∧ Wd a3) ∧ V4 a0 a1 a2 a3 < 21888242871839275222246405745257275088696311157297823662689037894645226208583), .agg [U (lm (mxN (V4 a0 a1 a2 a3).toNat) 0), U (lm (mxN (V4 a0 a1 a2 a3).toNat) 1), U (lm (mxN (V4 a0 a1 a2 a3).toNat) 2), U (lm (mxN (V4 a0 a1 a2 a3).toNat) 3), U (lm (myN (V4 a0 a1 a2 a3).toNat) 0), U (lm (myN (V4 a0 a1 a2 a3).toNat) 1), U (lm (myN (V4 a0 a1 a2 a3).toNat) 2), U (lm (myN (V4 a0 a1 a2 a3).toNat) 3)])
  | _, _ => none
theorem Mapa_ok (args : List SV) (l : List (Nat × Reg)) (p : Ob) (v : SV) (h : rMapa args l = some (p, v)) (hp : p.ok) : ∃ U, execF cxMapa U Tryd.f8 64 args (memL l) fun v' _ => v' = v := by
  unfold rMapa at h
  split at h
  · rename_i a0 a1 a2 a3
    simp only [Option.some.injEq, Prod.mk.injEq] at h
    obtain ⟨rfl, rfl⟩ := h
    have hp : (Wd a0 ∧ Wd a1 ∧ Wd a2 ∧ Wd a3) ∧ V4 a0 a1 a2 a3 < 21888242871839275222246405745257275088696311157297823662689037894645226208583 := hp
    have A := ws_of hp.1.1 hp.1.2.1 hp.1.2.2.1 hp.1.2.2.2
    have ea := Ws.val A
    have la := hp.2
    exact ⟨_, m1_walk A (by unfold qN; omega) fun _ => rfl⟩
  · cases h
def cMapa : Rd Tryd.prog := mkR mixed 8 Tryd.func8 (by decide) (by kernel_rfl) [] [.num] rMapa Mapa_ok
def cxO1 : Cx Tryd.prog := { rds := [cMl, cAd], efs := [], eqs := [eq23, eq27] }
theorem vc_o1 (a0 a1 a2 a3 b0 b1 b2 b3 : Int) (K : SV → Mem → Prop) : (execF cxO1 u9 Tryd.f7 64 [.agg [.int .u64 (.sym a0), .int .u64 (.sym a1), .int .u64 
 (.sym a2), .int .u64 (.sym a3), .int .u64 (.sym b0), .int .u64 (.sym b1), .int .u64 (.sym b2), .int .u64 (.sym b3)]] (memL []) K) = (B4 a0 a1 a2 a3 fun x0 x1 x2 x3 => B4 b0 b1 b2 b3 fun x4 x5 x6 x7 => 
 ((((decide ([x0, x1, x2, x3, x4, x5, x6, x7] = [0, 0, 0, 0, 0, 0, 0, 0])) = Bool.true) → (K (SV.bool (B.lit Bool.true)) (memL [(513, (Reg.mk Bool.false 
 (Ct.cells [(U a0), (U a1), (U a2), (U a3), (U b0), (U b1), (U b2), (U b3)])))]))) ∧ (((decide ([x0, x1, x2, x3, x4, x5, x6, x7] = [0, 0, 0, 0, 0, 0, 0, 0])) = Bool.false) 
 → (B4 b0 b1 b2 b3 fun x8 x9 x10 x11 => B4 b0 b1 b2 b3 fun x12 x13 x14 x15 => (((W4 x8 x9 x10 x11) ∧ (W4 x12 x13 x14 x15)) ∧ (L4 (((N4 x8 x9 x10 x11) * 
 (N4 x12 x13 x14 x15)) % qN) fun x16 x17 x18 x19 => B4 a0 a1 a2 a3 fun x20 x21 x22 x23 => B4 a0 a1 a2 a3 fun x24 x25 x26 x27 => B4 a0 a1 a2 a3 fun x28 x29 x30 x31 => 
 (((W4 x24 x25 x26 x27) ∧ (W4 x28 x29 x30 x31)) ∧ (L4 (((N4 x24 x25 x26 x27) * (N4 x28 x29 x30 x31)) % qN) fun x32 x33 x34 x35 => (((W4 x20 x21 x22 x23) 
 ∧ (W4 x32 x33 x34 x35)) ∧ (L4 (((N4 x20 x21 x22 x23) * (N4 x32 x33 x34 x35)) % qN) fun x36 x37 x38 x39 => ((((W4 x36 x37 x38 x39) ∧ (W4 3 0 0 0)) ∧ (((V4 x36 x37 x38 x39) < qI) 
 ∧ ((3 :Int) < qI))) ∧ (L4 (Int.toNat (((V4 x36 x37 x38 x39) + 3) % qN)) fun x40 x41 x42 x43 => (K (SV.bool (B.sym (decide ([x16, x17, x18, x19] = [x40, x41, x42, x43])))) 
 (memL [(513, (Reg.mk Bool.false (Ct.cells [(U a0), (U a1), (U a2), (U a3), (U b0), (U b1), (U b2), (U b3)])))])))))))))))))) := by kernel_rfl 
theorem o1_walk {A B : Nat} {a0 a1 a2 a3 b0 b1 b2 b3 : Int} {K : SV → Mem → Prop} (ha : Ws a0 a1 a2 a3 A) (hb : Ws b0 b1 b2 b3 B) (h : B * B % qN = gN A) (hK : ∀ m, K (.bool (.lit true)) m ∧ K (.bool (.sym true)) m) :
    execF cxO1 u9 Tryd.f7 64 [.agg [.int .u64 (.sym a0), .int .u64 (.sym a1), .int .u64 (.sym a2), .int .u64 (.sym a3), .int .u64 (.sym b0), .int .u64 (.sym b1), .int .u64 (.sym b2), .int .u64 (.sym b3)]] (memL []) K := by
  rw [vc_o1]
  have wa : W4 a0 a1 a2 a3 = True := eq_true ha.wd
  have na : N4 a0 a1 a2 a3 = A := Vx ha
  have wb : W4 b0 b1 b2 b3 = True := eq_true hb.wd
  have nb : N4 b0 b1 b2 b3 = B := Vx hb
  have e3 : (((3 : Int) < qI)) = True := by decide
  simp only [wa, na, wb, nb, e3, ↓L4_eq, ↓B4_eq, ↓B1_eq, Z4_0, N4q, N4i, N4r, N4_0, N4_1, N4_2, N4_3, N4_4, W4l, W4_0, W4_1, W4_2, W4_3, W4_4, Vq_lt, Vi_lt, Vr_lt, V0_lt, V1_lt, V2_lt, V3_lt, V4_lt', z_lt, and_true, true_and, and_self]
  refine ⟨fun _ => (hK _).1, fun _ => ?_⟩
  rw [Vq, show ((((A * (A * A % qN) % qN : Nat) : Int) + 3) % (qN : Int)).toNat = gN A by
    unfold gN
    rw [show (3 : Int) = ((3 : Nat) : Int) from rfl, ← Int.natCast_add, ← Int.natCast_emod, Int.toNat_natCast], h, decide_eq_true (rfl : [lm (gN A) 0, lm (gN A) 1, lm (gN A) 2, lm (gN A) 3] = _)]
  exact (hK _).2
def rO1 : R0 := fun args l =>
  match args, l with
  | [.agg [.int .u64 (.sym a0), .int .u64 (.sym a1), .int .u64 (.sym a2), .int .u64 (.sym a3), .int .u64 (.sym b0), .int .u64 (.sym b1), .int .u64 (.sym b2), .int .u64 (.sym b3)]], [] => some (some (((Wd a0 ∧ Wd a1 ∧ Wd a2 ∧ Wd a3) ∧ (Wd b0 ∧ Wd b1 ∧ Wd b2 ∧ Wd b3)) ∧ (V4 b0 b1 b2 b3).toNat * (V4 b0 b1 b2 b3).toNat % qN = gN (V4 a0 a1 a2 a3).toNat), .bool (.lit true))
  | _, _ => none
theorem O1_ok (args : List SV) (l : List (Nat × Reg)) (p : Ob) (v : SV) (h : rO1 args l = some (p, v)) (hp : p.ok) : ∃ U, execF cxO1 U Tryd.f7 64 args (memL l) fun v' _ => ∀ β u, Den β v' u → Den β v u := by
  unfold rO1 at h
  split at h
  · rename_i a0 a1 a2 a3 b0 b1 b2 b3
    simp only [Option.some.injEq, Prod.mk.injEq] at h
    obtain ⟨rfl, rfl⟩ := h
    have hp : ((Wd a0 ∧ Wd a1 ∧ Wd a2 ∧ Wd a3) ∧ (Wd b0 ∧ Wd b1 ∧ Wd b2 ∧ Wd b3)) ∧ (V4 b0 b1 b2 b3).toNat * (V4 b0 b1 b2 b3).toNat % qN = gN (V4 a0 a1 a2 a3).toNat := hp
    obtain ⟨⟨wa, wb⟩, h⟩ := hp
    have A := ws_of wa.1 wa.2.1 wa.2.2.1 wa.2.2.2
    have B := ws_of wb.1 wb.2.1 wb.2.2.1 wb.2.2.2
    exact ⟨_, o1_walk A B h fun m => ⟨fun β u hu => hu, fun β u hu => hu⟩⟩
  · cases h
def cO1 : Rd Tryd.prog := mkQ mixed 7 Tryd.func7 (by decide) (by kernel_rfl) [] [.num] rO1 O1_ok
end Go.Sx

/- bCurveCoeff, Sqrt, the sign of an Element, toldP1. -/
namespace Go.Sx
open Go Go.Proofs Go.Num
set_option maxRecDepth 100000
def cxBc : Cx Tryd.prog := { rds := [], efs := [cSu], eqs := [] }
theorem vc_bc (K : SV → Mem → Prop) : (execF cxBc u9 Tryd.f25 64 [] (memL []) K) = ((Wd 3) ∧ (∀ (r0 : Nat), ((r0 = 19052624634359457937016868847204597229365286637454337178037183604060995791063) 
 → (K (SV.ptr 521 (N.lit 0)) (memL [(521, (Reg.mk Bool.false (Ct.cells [(SV.int IntKind.u64 (A.sym (lm r0 0))), (SV.int IntKind.u64 (A.sym (lm r0 1))), 
 (SV.int IntKind.u64 (A.sym (lm r0 2))), (SV.int IntKind.u64 (A.sym (lm r0 3)))])))]))))) := by kernel_rfl 
def BcR (y0 y1 y2 y3 : Int) : Prop := El y0 y1 y2 y3 (mont 3)
theorem mont3 : mont 3 = 19052624634359457937016868847204597229365286637454337178037183604060995791063 := by decide +kernel
def gBc : G0 := fun args l K =>
  match args, l with
  | [], [] => ∀ y0 y1 y2 y3, BcR y0 y1 y2 y3 → K (.ptr 521 (.lit 0)) (memL [(521, ⟨false, w4 y0 y1 y2 y3⟩)])
  | _, _ => False
theorem bc_good : Good gBc := by
  constructor
  · intro args l K K' hk h
    unfold gBc at h ⊢
    split at h
    · exact fun y0 y1 y2 y3 hy => hk _ _ (h y0 y1 y2 y3 hy)
    · exact h.elim
  · intro args l K h
    unfold gBc at h
    split at h
    · exact ⟨_, _, h _ _ _ _ (El.of (mont_lt 3))⟩
    · exact h.elim
theorem bc_ok (args : List SV) (l : List (Nat × Reg)) (K : SV → Mem → Prop) (hup : KUp K) (h : gBc args l K) : ∃ U, execF cxBc U Tryd.f25 64 args (memL l) K := by
  unfold gBc at h
  split at h
  · refine ⟨u9, ?_⟩
    rw [vc_bc]
    refine ⟨by decide, fun r hr => ?_⟩
    have := h _ _ _ _ (El.of (mont_lt 3))
    rw [hr, ← mont3]
    exact this
  · exact h.elim
def kBc : Ef Tryd.prog := mkNw mixed 25 Tryd.func25 (by decide) (by kernel_rfl) [] [] gBc bc_good bc_ok

def cxSg : Cx Tryd.prog := { rds := [cBits], efs := [], eqs := [] }
theorem vc_sg (a0 a1 a2 a3 : Int) (K : SV → Mem → Prop) : (execF cxSg u9 Tryd.f29 64 [.ptr 1 (.lit 0)] (memL [(1, ⟨true, w4 a0 a1 a2 a3⟩)]) K) = ((W4 a0 a1 a2 a3) 
 ∧ (B4 (bitsV a0 a1 a2 a3 0) (bitsV a0 a1 a2 a3 1) (bitsV a0 a1 a2 a3 2) (bitsV a0 a1 a2 a3 3) fun x0 x1 x2 x3 => B1 (Int.tmod x0 2) fun x4 => (K (U x4) 
 (memL [(1, (Reg.mk Bool.true (Ct.cells [(U a0), (U a1), (U a2), (U a3)]))), (537, (Reg.mk Bool.false (Ct.cells [(U x0), (U x1), (U x2), (U x3)])))])))) := by kernel_rfl 
def rSg : R0 := fun args l =>
  match args, l with
  | [.ptr 1 (.lit 0)], [(1, ⟨true, x⟩)] => r4 x fun a b c d => some (some (Wd a ∧ Wd b ∧ Wd c ∧ Wd d), .int .u64 (.sym ((mmul (V4 a b c d).toNat 1 % 2 : Nat) : Int)))
  | _, _ => none
theorem sg_val {a b c d : Int} : Int.tmod (bitsV a b c d 0) 2 = ((mmul (V4 a b c d).toNat 1 % 2 : Nat) : Int) := by
  unfold bitsV
  exact par (ws_q (mmul_lt _ _))
theorem sg_ok (args : List SV) (l : List (Nat × Reg)) (p : Ob) (v : SV) (h : rSg args l = some (p, v)) (hp : p.ok) : ∃ U, execF cxSg U Tryd.f29 64 args (memL l) fun v' _ => v' = v := by
  unfold rSg at h
  split at h
  · rename_i x
    obtain ⟨a, b, c, d, rfl, q⟩ := r4_ex h
    simp only [Option.some.injEq, Prod.mk.injEq] at q
    obtain ⟨rfl, rfl⟩ := q
    refine ⟨u9, ?_⟩
    rw [vc_sg]
    refine ⟨hp, ?_⟩
    rw [B4_eq, B1_eq, sg_val]
    rfl
  · cases h
def cSg : Rd Tryd.prog := mkR mixed 29 Tryd.func29 (by decide) (by kernel_rfl) [] [.ptr 4 true] rSg sg_ok
def cxSq : Cx Tryd.prog := { rds := [cEq], efs := [kEs, kSqr, kSet], eqs := [] }
theorem vc_sqt (z0 z1 z2 z3 a0 a1 a2 a3 : Int) (K : SV → Mem → Prop) : (execF cxSq u9 Tryd.f28 64 [.ptr 1 (.lit 0), .ptr 9 (.lit 0)] (memL [(1, ⟨false, w4 z0 z1 z2 z3⟩), 
 (9, ⟨true, w4 a0 a1 a2 a3⟩)]) K) = (B4 a0 a1 a2 a3 fun x0 x1 x2 x3 => (∃ (X4 : Nat), ((El x0 x1 x2 x3 (mont X4)) ∧ (∀ (y05 : Int), (∀ (y16 : Int), (∀ 
 (y27 : Int), (∀ (y38 : Int), ((EsR X4 y05 y16 y27 y38) → (∃ (x9 : Nat), (∃ (y10 : Nat), (((Ws y05 y16 y27 y38 x9) ∧ (El y05 y16 y27 y38 y10)) ∧ (∀ (r11 : Nat), 
 ((r11 = (mmul x9 y10)) → (∀ (y012 : Int), (∀ (y113 : Int), (∀ (y214 : Int), (∀ (y315 : Int), ((El y012 y113 y214 y315 r11) → (((W4 y012 y113 y214 y315) 
 ∧ (W4 a0 a1 a2 a3)) ∧ ((((decide ((V4 y012 y113 y214 y315) = (V4 a0 a1 a2 a3))) = Bool.true) → (K (SV.ptr 1 (N.lit 0)) (memL [(1, (Reg.mk Bool.false (Ct.cells [(SV.int IntKind.u64 
 (A.sym y05)), (SV.int IntKind.u64 (A.sym y16)), (SV.int IntKind.u64 (A.sym y27)), (SV.int IntKind.u64 (A.sym y38))]))), (9, (Reg.mk Bool.true (Ct.cells [(U a0), 
 (U a1), (U a2), (U a3)]))), (521, (Reg.mk Bool.false (Ct.cells [(SV.int IntKind.u64 (A.sym y05)), (SV.int IntKind.u64 (A.sym y16)), (SV.int IntKind.u64 
 (A.sym y27)), (SV.int IntKind.u64 (A.sym y38))]))), (529, (Reg.mk Bool.false (Ct.cells [(SV.int IntKind.u64 (A.sym y012)), (SV.int IntKind.u64 (A.sym y113)), 
 (SV.int IntKind.u64 (A.sym y214)), (SV.int IntKind.u64 (A.sym y315))])))]))) ∧ (((decide ((V4 y012 y113 y214 y315) = (V4 a0 a1 a2 a3))) = Bool.false) 
 → (K (SV.val (Go.Value.pointer Option.none)) (memL [(1, (Reg.mk Bool.false (Ct.cells [(U z0), (U z1), (U z2), (U z3)]))), (9, (Reg.mk Bool.true (Ct.cells [(U a0), 
 (U a1), (U a2), (U a3)]))), (521, (Reg.mk Bool.false (Ct.cells [(SV.int IntKind.u64 (A.sym y05)), (SV.int IntKind.u64 (A.sym y16)), (SV.int IntKind.u64 
 (A.sym y27)), (SV.int IntKind.u64 (A.sym y38))]))), (529, (Reg.mk Bool.false (Ct.cells [(SV.int IntKind.u64 (A.sym y012)), (SV.int IntKind.u64 (A.sym y113)), 
 (SV.int IntKind.u64 (A.sym y214)), (SV.int IntKind.u64 (A.sym y315))])))]))))))))))))))))))))))) := by kernel_rfl 
theorem sqt_eq {X : Nat} (h : sqN (X % qN) = true) : mmul (mont (X ^ e4N)) (mont (X ^ e4N)) = mont X := by
  rw [mont_mul, ← mont_mod (X ^ e4N * X ^ e4N), ← mont_mod X]
  unfold sqN at h
  have h := of_decide_eq_true h
  rw [rtN_eq, Nat.pow_mod, Nat.mod_mod, ← Nat.pow_mod, ← Nat.mul_mod] at h
  rw [h]
theorem EsR.rt {X : Nat} {a b c d : Int} (h : EsR X a b c d) : El a b c d (mont (rtN (X % qN))) := by
  have := h.el
  rw [← mont_mod, Nat.pow_mod, ← rtN_eq] at this
  exact this
def gSqt : G0 := fun args l K =>
  match args, l with
  | [.ptr 1 (.lit 0), .ptr 9 (.lit 0)], [(1, ⟨false, z⟩), (9, ⟨true, x⟩)] => c4 z fun _ _ _ _ => c4 x fun a0 a1 a2 a3 => ∃ X, (El a0 a1 a2 a3 (mont X) ∧ sqN (X % qN) = true) ∧ ∀ y0 y1 y2 y3, EsR X y0 y1 y2 y3 → K (.ptr 1 (.lit 0)) (memL [(1, ⟨false, w4 y0 y1 y2 y3⟩), (9, ⟨true, w4 a0 a1 a2 a3⟩)])
  | _, _ => False
theorem sqt_good : Good gSqt := by
  constructor
  · intro args l K K' hk h
    unfold gSqt at h ⊢
    split at h
    · exact c4_mono (fun _ _ _ _ h => c4_mono (fun _ _ _ _ h => h.elim fun X h => ⟨X, h.1, fun y0 y1 y2 y3 hy => hk _ _ (h.2 y0 y1 y2 y3 hy)⟩) h) h
    · exact h.elim
  · intro args l K h
    unfold gSqt at h
    split at h
    · obtain ⟨_, _, _, _, _, h⟩ := c4_ex h
      obtain ⟨_, _, _, _, _, h⟩ := c4_ex h
      obtain ⟨X, _, h⟩ := h
      obtain ⟨a, b, c, d, e⟩ := EsR.ex X
      exact ⟨_, _, h _ _ _ _ e⟩
    · exact h.elim
theorem sqt_ok (args : List SV) (l : List (Nat × Reg)) (K : SV → Mem → Prop) (hup : KUp K) (h : gSqt args l K) : ∃ U, execF cxSq U Tryd.f28 64 args (memL l) K := by
  unfold gSqt at h
  split at h
  · obtain ⟨z0, z1, z2, z3, rfl, q0⟩ := c4_ex h
    obtain ⟨a0, a1, a2, a3, rfl, q1⟩ := c4_ex q0
    obtain ⟨X, ⟨hx, hs⟩, hK⟩ := q1
    refine ⟨u9, ?_⟩
    rw [vc_sqt z0 z1 z2 z3 a0 a1 a2 a3, B4_eq]
    refine ⟨X, hx, fun y0 y1 y2 y3 hy => ⟨_, _, ⟨hy.el.ws, hy.el⟩, ?_⟩⟩
    rw [sqt_eq hs]
    rintro _ rfl s0 s1 s2 s3 hq
    refine ⟨⟨hq.wd, hx.wd⟩, fun _ => ?_, fun h => ?_⟩
    · exact hup.le (memL_sub [1, 9, 521, 529] rfl (by decide) (by
        intro x hx
        simp only [List.mem_cons, List.not_mem_nil, or_false] at hx ⊢
        rcases hx with hx | hx <;> simp [hx, w4, U])) (hK y0 y1 y2 y3 hy)
    · exact absurd (by rw [hq.val, hx.val]) (of_decide_eq_false h)
  · exact h.elim
def kSqt : Ef Tryd.prog := mkE mixed 28 Tryd.func28 (by decide) (by kernel_rfl) [] [.ptr 4 false, .ptr 4 true] gSqt sqt_good sqt_ok
def cxT : Cx Tryd.prog := { rds := [cBits], efs := [], eqs := [] }
theorem vc_told (a0 a1 a2 a3 b0 b1 b2 b3 : Int) (K : SV → Mem → Prop) : (execF cxT u9 Tryd.f10 64 [.agg [.int .u64 (.sym a0), .int .u64 (.sym a1), .int .u64 
 (.sym a2), .int .u64 (.sym a3), .int .u64 (.sym b0), .int .u64 (.sym b1), .int .u64 (.sym b2), .int .u64 (.sym b3)]] (memL []) K) = ((W4 a0 a1 a2 a3) 
 ∧ (L4 (mmul (N4 a0 a1 a2 a3) 1) fun x0 x1 x2 x3 => ((W4 b0 b1 b2 b3) ∧ (L4 (mmul (N4 b0 b1 b2 b3) 1) fun x4 x5 x6 x7 => (K (SV.agg [(U x0), (U x1), (U x2), 
 (U x3), (U x4), (U x5), (U x6), (U x7)]) (memL [(513, (Reg.mk Bool.false (Ct.cells [(U a0), (U a1), (U a2), (U a3), (U b0), (U b1), (U b2), (U b3)]))), 
 (521, (Reg.mk Bool.false (Ct.cells [(U x0), (U x1), (U x2), (U x3), (U x4), (U x5), (U x6), (U x7)])))])))))) := by kernel_rfl def rTold : R0 := fun args l =>
  match args, l with
  | [.agg [.int .u64 (.sym a0), .int .u64 (.sym a1), .int .u64 (.sym a2), .int .u64 (.sym a3), .int .u64 (.sym b0), .int .u64 (.sym b1), .int .u64 (.sym b2), .int .u64 (.sym b3)]], [] => some (some ((Wd a0 ∧ Wd a1 ∧ Wd a2 ∧ Wd a3) ∧ (Wd b0 ∧ Wd b1 ∧ Wd b2 ∧ Wd b3)), .agg [U (lm (mmul (V4 a0 a1 a2 a3).toNat 1) 0), U (lm (mmul (V4 a0 a1 a2 a3).toNat 1) 1), U (lm (mmul (V4 a0 a1 a2 a3).toNat 1) 2), U (lm (mmul (V4 a0 a1 a2 a3).toNat 1) 3), U (lm (mmul (V4 b0 b1 b2 b3).toNat 1) 0), U (lm (mmul (V4 b0 b1 b2 b3).toNat 1) 1), U (lm (mmul (V4 b0 b1 b2 b3).toNat 1) 2), U (lm (mmul (V4 b0 b1 b2 b3).toNat 1) 3)])
  | _, _ => none
theorem Told_ok (args : List SV) (l : List (Nat × Reg)) (p : Ob) (v : SV) (h : rTold args l = some (p, v)) (hp : p.ok) : ∃ U, execF cxT U Tryd.f10 64 args (memL l) fun v' _ => v' = v := by
  unfold rTold at h
  split at h
  · rename_i a0 a1 a2 a3 b0 b1 b2 b3
    simp only [Option.some.injEq, Prod.mk.injEq] at h
    obtain ⟨rfl, rfl⟩ := h
    have hp : (Wd a0 ∧ Wd a1 ∧ Wd a2 ∧ Wd a3) ∧ (Wd b0 ∧ Wd b1 ∧ Wd b2 ∧ Wd b3) := hp
    refine ⟨u9, ?_⟩
    rw [vc_told, L4_eq, L4_eq]
    exact ⟨hp.1, hp.2, rfl⟩
  · cases h
def cTold : Rd Tryd.prog := mkR mixed 10 Tryd.func10 (by decide) (by kernel_rfl) [] [.num] rTold Told_ok
end Go.Sx

/- Bytes and words. -/
namespace Go.Sx
open Go Go.Proofs
set_option maxRecDepth 100000
theorem fold_acc (l : List Int) : ∀ a : Nat, l.foldl (fun a b => a * 256 + b.toNat) a = a * 256 ^ l.length + l.foldl (fun a b => a * 256 + b.toNat) 0 := by
  induction l with
  | nil => intro a; simp
  | cons x l ih =>
    intro a
    rw [List.foldl_cons, List.foldl_cons, ih, ih (0 * 256 + x.toNat), List.length_cons, Nat.pow_succ, Nat.add_mul, Nat.zero_mul, Nat.zero_add, Nat.mul_assoc, Nat.mul_comm 256, Nat.add_assoc]
theorem beN_app (l m : List Int) : beN (l ++ m) = beN l * 256 ^ m.length + beN m := by
  unfold beN
  rw [List.foldl_append, fold_acc m]
theorem beN_8 (a b c d e f g h : Int) : beN [a, b, c, d, e, f, g, h] = a.toNat * 72057594037927936 + b.toNat * 281474976710656 + c.toNat * 1099511627776 + d.toNat * 4294967296 + e.toNat * 16777216 + f.toNat * 65536 + g.toNat * 256 + h.toNat := by
  unfold beN
  simp only [List.foldl]
  omega
theorem list8 {l : List Int} (h : l.length = 8) : l = [l.getD 0 0, l.getD 1 0, l.getD 2 0, l.getD 3 0, l.getD 4 0, l.getD 5 0, l.getD 6 0, l.getD 7 0] := by
  match l, h with
  | [a, b, c, d, e, f, g, h], _ => rfl
theorem p56 {k : Nat} (hk : k ≤ 56) : (2 : Int) ^ k ≤ 72057594037927936 := by
  have h : (2 : Nat) ^ k ≤ 72057594037927936 := Nat.le_trans (Nat.pow_le_pow_right (by omega) hk) (by decide)
  have e : (2 : Int) ^ k = ((2 ^ k : Nat) : Int) := by rw [Int.natCast_pow]; rfl
  rw [e]
  omega
theorem shl64 {z : Int} {k : Nat} (h0 : 0 ≤ z) (h1 : z < 256) (hk : k ≤ 56) : shlv .u64 z k = z * 2 ^ k ∧ Wd (z * 2 ^ k) := by
  have hp := p56 hk
  have hq : (0 : Int) < 2 ^ k := Int.pow_pos (by omega)
  have hl : z * 2 ^ k ≤ 255 * 2 ^ k := Int.mul_le_mul_of_nonneg_right (by omega) (by omega)
  have hn : 0 ≤ z * 2 ^ k := Int.mul_nonneg h0 (by omega)
  have w : Wd (z * 2 ^ k) := by unfold Wd; omega
  refine ⟨?_, w⟩
  unfold shlv
  rw [wu64, show min k IntKind.u64.bits = k by simp [IntKind.bits]; omega]
  unfold Wd at w
  exact Int.emod_eq_of_lt w.1 w.2
/-- One byte more, as be64 puts it. -/
theorem bstep {acc x : Int} {k : Nat} (ha : 0 ≤ acc) (hb : acc < 2 ^ k) (h0 : 0 ≤ x) (h1 : x < 256) (hk : k ≤ 56) : bor .u64 acc (shlv .u64 (IntKind.u64.wrap x) k) = acc + x * 2 ^ k := by
  rw [wu64, Int.emod_eq_of_lt h0 (by omega)]
  obtain ⟨e, w⟩ := shl64 h0 h1 hk
  have hp := p56 hk
  rw [e, (bor_eq (by unfold Wd; omega) w).1]
  obtain ⟨a, rfl⟩ := Int.eq_ofNat_of_zero_le ha
  obtain ⟨y, rfl⟩ := Int.eq_ofNat_of_zero_le h0
  have e2 : ((y : Int) * 2 ^ k).toNat = y <<< k := by
    rw [Nat.shiftLeft_eq, show (y : Int) * 2 ^ k = ((y * 2 ^ k : Nat) : Int) by rw [Int.natCast_mul, Int.natCast_pow]; rfl, Int.toNat_natCast]
  have hb' : a < 2 ^ k := by
    have e : (2 : Int) ^ k = ((2 ^ k : Nat) : Int) := by rw [Int.natCast_pow]; rfl
    rw [e] at hb
    omega
  rw [e2, Int.toNat_natCast, Nat.or_comm, ← Nat.shiftLeft_add_eq_or_of_lt hb', Nat.shiftLeft_eq]
  rw [Int.natCast_add, Int.natCast_mul, Int.natCast_pow, Int.add_comm]
  rfl
theorem byte_of {a : Int} (h : Wd a) (k : Nat) (hk : k ≤ 56) : IntKind.u8.wrap (shrv .u64 a k) = a / 2 ^ k % 256 := by
  rw [shr64 h.1 (by omega)]
  rfl
/-- Eight bytes of a word. -/
theorem word8 {a : Int} (h : Wd a) : (a / 72057594037927936 % 256).toNat * 72057594037927936 + (a / 281474976710656 % 256).toNat * 281474976710656 + (a / 1099511627776 % 256).toNat * 1099511627776 + (a / 4294967296 % 256).toNat * 4294967296 + (a / 16777216 % 256).toNat * 16777216 + (a / 65536 % 256).toNat * 65536 + (a / 256 % 256).toNat * 256 + (a / 1 % 256).toNat = a.toNat := by
  unfold Wd at h
  have e1 : a / 65536 = a / 256 / 256 := by omega
  have e2 : a / 16777216 = a / 65536 / 256 := by omega
  have e3 : a / 4294967296 = a / 16777216 / 256 := by omega
  have e4 : a / 1099511627776 = a / 4294967296 / 256 := by omega
  have e5 : a / 281474976710656 = a / 1099511627776 / 256 := by omega
  have e6 : a / 72057594037927936 = a / 281474976710656 / 256 := by omega
  have l6 : 0 ≤ a / 72057594037927936 ∧ a / 72057594037927936 < 256 := by omega
  generalize a / 72057594037927936 = q7 at *
  generalize a / 281474976710656 = q6 at *
  generalize a / 1099511627776 = q5 at *
  generalize a / 4294967296 = q4 at *
  generalize a / 16777216 = q3 at *
  generalize a / 65536 = q2 at *
  rw [Int.ediv_one]
  have f0 : 0 ≤ q6 := by omega
  have f1 : 0 ≤ q5 := by omega
  have f2 : 0 ≤ q4 := by omega
  have f3 : 0 ≤ q3 := by omega
  have f4 : 0 ≤ q2 := by omega
  have g (x : Int) : ((x % 256).toNat : Int) = x % 256 := by omega
  have h7 : q7 % 256 = q7 := by omega
  have h6 := Int.mul_ediv_add_emod q6 256
  have h5 := Int.mul_ediv_add_emod q5 256
  have h4 := Int.mul_ediv_add_emod q4 256
  have h3 := Int.mul_ediv_add_emod q3 256
  have h2 := Int.mul_ediv_add_emod q2 256
  have h1 := Int.mul_ediv_add_emod (a / 256) 256
  have h0 := Int.mul_ediv_add_emod a 256
  rw [← e6] at h6
  rw [← e5] at h5
  rw [← e4] at h4
  rw [← e3] at h3
  rw [← e2] at h2
  rw [← e1] at h1
  clear e1 e2 e3 e4 e5 e6
  have := g q7
  have := g q6
  have := g q5
  have := g q4
  have := g q3
  have := g q2
  have := g (a / 256)
  have := g a
  generalize q7 % 256 = r7 at *
  generalize q6 % 256 = r6 at *
  generalize q5 % 256 = r5 at *
  generalize q4 % 256 = r4 at *
  generalize q3 % 256 = r3 at *
  generalize q2 % 256 = r2 at *
  generalize a / 256 % 256 = r1 at *
  generalize a / 256 = q1 at *
  generalize a % 256 = r0 at *
  generalize r7.toNat = s7 at *
  generalize r6.toNat = s6 at *
  generalize r5.toNat = s5 at *
  generalize r4.toNat = s4 at *
  generalize r3.toNat = s3 at *
  generalize r2.toNat = s2 at *
  generalize r1.toNat = s1 at *
  generalize r0.toNat = s0 at *
  omega
end Go.Sx

/- toMont, be64, octets. -/
namespace Go.Sx
open Go Go.Proofs Go.Num
set_option maxRecDepth 100000
def cxTm : Cx Tryd.prog := { rds := [cRsq], efs := [kMulA], eqs := [] }
theorem vc_tm (a0 a1 a2 a3 : Int) (K : SV → Mem → Prop) : (execF cxTm u9 Tryd.f72 64 [.ptr 1 (.lit 0)] (memL [(1, ⟨false, w4 a0 a1 a2 a3⟩)]) K) = (∃ (x0 : Nat), 
 (∃ (y1 : Nat), (((Ws a0 a1 a2 a3 x0) ∧ (El 17522657719365597833 13107472804851548667 5164255478447964150 493319470278259999 y1)) ∧ (∀ (r2 : Nat), ((r2 = 
 (((x0 * y1) * 20988524275117001072002809824448087578619730785600314334253784976379291040311) % qN)) → (∀ (y03 : Int), (∀ (y14 : Int), (∀ (y25 : Int), 
 (∀ (y36 : Int), ((El y03 y14 y25 y36 r2) → (K (SV.ptr 1 (N.lit 0)) (memL [(1, (Reg.mk Bool.false (Ct.cells [(SV.int IntKind.u64 (A.sym y03)), (SV.int IntKind.u64 
 (A.sym y14)), (SV.int IntKind.u64 (A.sym y25)), (SV.int IntKind.u64 (A.sym y36))]))), (529, (Reg.mk Bool.false (Ct.cells [(SV.int IntKind.u64 (A.lit 17522657719365597833)), 
 (SV.int IntKind.u64 (A.lit 13107472804851548667)), (SV.int IntKind.u64 (A.lit 5164255478447964150)), (SV.int IntKind.u64 (A.lit 493319470278259999))])))])))))))))))) := by kernel_rfl def gTm : G0 := fun args l K =>
  match args, l with
  | [.ptr 1 (.lit 0)], [(1, ⟨false, z⟩)] => c4 z fun a0 a1 a2 a3 => ∃ X, Ws a0 a1 a2 a3 X ∧ ∀ r, r = mont X → ∀ y0 y1 y2 y3, El y0 y1 y2 y3 r → K (.ptr 1 (.lit 0)) (memL [(1, ⟨false, w4 y0 y1 y2 y3⟩)])
  | _, _ => False
theorem tm_good : Good gTm := by
  constructor
  · intro args l K K' hk h
    unfold gTm at h ⊢
    split at h
    · exact c4_mono (fun _ _ _ _ h => h.elim fun X h => ⟨X, h.1, fun r hr y0 y1 y2 y3 hy => hk _ _ (h.2 r hr y0 y1 y2 y3 hy)⟩) h
    · exact h.elim
  · intro args l K h
    unfold gTm at h
    split at h
    · obtain ⟨_, _, _, _, _, h⟩ := c4_ex h
      obtain ⟨X, _, h⟩ := h
      exact ⟨_, _, h _ rfl _ _ _ _ (El.of (mont_lt X))⟩
    · exact h.elim
theorem tm_ok (args : List SV) (l : List (Nat × Reg)) (K : SV → Mem → Prop) (hup : KUp K) (h : gTm args l K) : ∃ U, execF cxTm U Tryd.f72 64 args (memL l) K := by
  unfold gTm at h
  split at h
  · obtain ⟨a0, a1, a2, a3, rfl, q0⟩ := c4_ex h
    obtain ⟨X, hx, hK⟩ := q0
    refine ⟨u9, ?_⟩
    rw [vc_tm a0 a1 a2 a3]
    refine ⟨X, r2N, ⟨hx, r2_el⟩, fun r hr y0 y1 y2 y3 hy => ?_⟩
    exact hup.le (memL_sub [1, 529] rfl (by decide) (by
        intro x hx
        simp only [List.mem_cons, List.not_mem_nil, or_false] at hx ⊢
        simp [hx, w4, U])) (hK r hr y0 y1 y2 y3 hy)
  · exact h.elim
def kTm : Ef Tryd.prog := mkE mixed 72 Tryd.func72 (by decide) (by kernel_rfl) [] [.ptr 4 false] gTm tm_good tm_ok
theorem vc_b8 (xs : List Int) (n c : Nat) (K : SV → Mem → Prop) : (execF cxTm u9 Tryd.f71 64 [.slice 1 (.lit 0) (.sym n) (.sym c)] (memL [(1, ⟨true, .ints .u8 xs⟩)]) K) = 
 ((((0 :Int) ≤ 7) ∧ (7 < ((n : Nat) : Int))) ∧ ((8 ≤ (List.length xs)) ∧ (B1 (List.getD xs 7 0) fun x0 => B1 (IntKind.wrap IntKind.u64 x0) fun x1 => ((((0 :Int) ≤ 6) 
 ∧ (6 < ((n : Nat) : Int))) ∧ ((7 ≤ (List.length xs)) ∧ (B1 (List.getD xs 6 0) fun x2 => B1 (IntKind.wrap IntKind.u64 x2) fun x3 => B1 (shlv IntKind.u64 x3 8) fun x4 => B1 
 (bor IntKind.u64 x1 x4) fun x5 => ((((0 :Int) ≤ 5) ∧ (5 < ((n : Nat) : Int))) ∧ ((6 ≤ (List.length xs)) ∧ (B1 (List.getD xs 5 0) fun x6 => B1 (IntKind.wrap IntKind.u64 x6) fun x7 => B1 
 (shlv IntKind.u64 x7 16) fun x8 => B1 (bor IntKind.u64 x5 x8) fun x9 => ((((0 :Int) ≤ 4) ∧ (4 < ((n : Nat) : Int))) ∧ ((5 ≤ (List.length xs)) ∧ (B1 (List.getD xs 4 0) fun x10 => B1 
 (IntKind.wrap IntKind.u64 x10) fun x11 => B1 (shlv IntKind.u64 x11 24) fun x12 => B1 (bor IntKind.u64 x9 x12) fun x13 => ((((0 :Int) ≤ 3) ∧ (3 < ((n : Nat) : Int))) 
 ∧ ((4 ≤ (List.length xs)) ∧ (B1 (List.getD xs 3 0) fun x14 => B1 (IntKind.wrap IntKind.u64 x14) fun x15 => B1 (shlv IntKind.u64 x15 32) fun x16 => B1 
 (bor IntKind.u64 x13 x16) fun x17 => ((((0 :Int) ≤ 2) ∧ (2 < ((n : Nat) : Int))) ∧ ((3 ≤ (List.length xs)) ∧ (B1 (List.getD xs 2 0) fun x18 => B1 (IntKind.wrap IntKind.u64 x18) fun x19 => B1 
 (shlv IntKind.u64 x19 40) fun x20 => B1 (bor IntKind.u64 x17 x20) fun x21 => ((((0 :Int) ≤ 1) ∧ (1 < ((n : Nat) : Int))) ∧ ((2 ≤ (List.length xs)) ∧ (B1 
 (List.getD xs 1 0) fun x22 => B1 (IntKind.wrap IntKind.u64 x22) fun x23 => B1 (shlv IntKind.u64 x23 48) fun x24 => B1 (bor IntKind.u64 x21 x24) fun x25 => 
 ((((0 :Int) ≤ 0) ∧ (0 < ((n : Nat) : Int))) ∧ ((1 ≤ (List.length xs)) ∧ (B1 (List.getD xs 0 0) fun x26 => B1 (IntKind.wrap IntKind.u64 x26) fun x27 => B1 
 (shlv IntKind.u64 x27 56) fun x28 => B1 (bor IntKind.u64 x25 x28) fun x29 => (K (U x29) (memL [(1, (Reg.mk Bool.true (Ct.ints IntKind.u8 xs)))])))))))))))))))))))))))))) := by kernel_rfl 
theorem getD_byte {xs : List Int} (h : ∀ b ∈ xs, 0 ≤ b ∧ b < 256) {i : Nat} (hi : i < xs.length) : 0 ≤ xs.getD i 0 ∧ xs.getD i 0 < 256 := by
  rw [List.getD_eq_getElem?_getD, List.getElem?_eq_getElem hi, Option.getD_some]
  exact h _ (List.getElem_mem hi)
theorem b8_val {xs : List Int} (hl : xs.length = 8) (h : ∀ b ∈ xs, 0 ≤ b ∧ b < 256) : beN xs = (xs.getD 0 0).toNat * 72057594037927936 + (xs.getD 1 0).toNat * 281474976710656 + (xs.getD 2 0).toNat * 1099511627776 + (xs.getD 3 0).toNat * 4294967296 + (xs.getD 4 0).toNat * 16777216 + (xs.getD 5 0).toNat * 65536 + (xs.getD 6 0).toNat * 256 + (xs.getD 7 0).toNat := by
  rw [← beN_8, ← list8 hl]
theorem fsum {c0 c1 c2 c3 c4 c5 c6 c7 : Int} (h0 : 0 ≤ c0) (h1 : 0 ≤ c1) (h2 : 0 ≤ c2) (h3 : 0 ≤ c3) (h4 : 0 ≤ c4) (h5 : 0 ≤ c5) (h6 : 0 ≤ c6) (h7 : 0 ≤ c7) :
    c7 + c6 * 2 ^ 8 + c5 * 2 ^ 16 + c4 * 2 ^ 24 + c3 * 2 ^ 32 + c2 * 2 ^ 40 + c1 * 2 ^ 48 + c0 * 2 ^ 56 = ((c0.toNat * 72057594037927936 + c1.toNat * 281474976710656 + c2.toNat * 1099511627776 + c3.toNat * 4294967296 + c4.toNat * 16777216 + c5.toNat * 65536 + c6.toNat * 256 + c7.toNat : Nat) : Int) := by
  obtain ⟨n0, rfl⟩ := Int.eq_ofNat_of_zero_le h0
  obtain ⟨n1, rfl⟩ := Int.eq_ofNat_of_zero_le h1
  obtain ⟨n2, rfl⟩ := Int.eq_ofNat_of_zero_le h2
  obtain ⟨n3, rfl⟩ := Int.eq_ofNat_of_zero_le h3
  obtain ⟨n4, rfl⟩ := Int.eq_ofNat_of_zero_le h4
  obtain ⟨n5, rfl⟩ := Int.eq_ofNat_of_zero_le h5
  obtain ⟨n6, rfl⟩ := Int.eq_ofNat_of_zero_le h6
  obtain ⟨n7, rfl⟩ := Int.eq_ofNat_of_zero_le h7
  clear h0 h1 h2 h3 h4 h5 h6 h7
  simp only [Int.toNat_natCast, Int.reducePow]
  omega
def rB8 : R0 := fun args l =>
  match args, l with
  | [.slice 1 (.lit 0) (.sym n) (.sym c)], [(1, ⟨true, .ints .u8 xs⟩)] => some (some ((xs.length = 8 ∧ n = 8) ∧ ∀ b ∈ xs, 0 ≤ b ∧ b < 256), .int .u64 (.sym ((beN xs : Nat) : Int)))
  | _, _ => none
theorem b8_ok (args : List SV) (l : List (Nat × Reg)) (p : Ob) (v : SV) (h : rB8 args l = some (p, v)) (hp : p.ok) : ∃ U, execF cxTm U Tryd.f71 64 args (memL l) fun v' _ => v' = v := by
  unfold rB8 at h
  split at h
  · rename_i n c xs
    simp only [Option.some.injEq, Prod.mk.injEq] at h
    obtain ⟨rfl, rfl⟩ := h
    obtain ⟨⟨hl, rfl⟩, hb⟩ := (show (xs.length = 8 ∧ n = 8) ∧ ∀ b ∈ xs, 0 ≤ b ∧ b < 256 from hp)
    refine ⟨u9, ?_⟩
    rw [vc_b8]
    have g0 := getD_byte hb (i := 0) (by omega)
    have g1 := getD_byte hb (i := 1) (by omega)
    have g2 := getD_byte hb (i := 2) (by omega)
    have g3 := getD_byte hb (i := 3) (by omega)
    have g4 := getD_byte hb (i := 4) (by omega)
    have g5 := getD_byte hb (i := 5) (by omega)
    have g6 := getD_byte hb (i := 6) (by omega)
    have g7 := getD_byte hb (i := 7) (by omega)
    have e := b8_val hl hb
    have w7 : IntKind.u64.wrap (xs.getD 7 0) = xs.getD 7 0 := by rw [wu64]; omega
    have s6 := bstep (acc := xs.getD 7 0) (k := 8) g7.1 (by omega) g6.1 g6.2 (by omega)
    have s5 := bstep (acc := xs.getD 7 0 + xs.getD 6 0 * 2 ^ 8) (k := 16) (by omega) (by omega) g5.1 g5.2 (by omega)
    have s4 := bstep (acc := xs.getD 7 0 + xs.getD 6 0 * 2 ^ 8 + xs.getD 5 0 * 2 ^ 16) (k := 24) (by omega) (by omega) g4.1 g4.2 (by omega)
    have s3 := bstep (acc := xs.getD 7 0 + xs.getD 6 0 * 2 ^ 8 + xs.getD 5 0 * 2 ^ 16 + xs.getD 4 0 * 2 ^ 24) (k := 32) (by omega) (by omega) g3.1 g3.2 (by omega)
    have s2 := bstep (acc := xs.getD 7 0 + xs.getD 6 0 * 2 ^ 8 + xs.getD 5 0 * 2 ^ 16 + xs.getD 4 0 * 2 ^ 24 + xs.getD 3 0 * 2 ^ 32) (k := 40) (by omega) (by omega) g2.1 g2.2 (by omega)
    have s1 := bstep (acc := xs.getD 7 0 + xs.getD 6 0 * 2 ^ 8 + xs.getD 5 0 * 2 ^ 16 + xs.getD 4 0 * 2 ^ 24 + xs.getD 3 0 * 2 ^ 32 + xs.getD 2 0 * 2 ^ 40) (k := 48) (by omega) (by omega) g1.1 g1.2 (by omega)
    have s0 := bstep (acc := xs.getD 7 0 + xs.getD 6 0 * 2 ^ 8 + xs.getD 5 0 * 2 ^ 16 + xs.getD 4 0 * 2 ^ 24 + xs.getD 3 0 * 2 ^ 32 + xs.getD 2 0 * 2 ^ 40 + xs.getD 1 0 * 2 ^ 48) (k := 56) (by omega) (by omega) g0.1 g0.2 (by omega)
    generalize xs.getD 7 0 = c7 at *
    generalize xs.getD 6 0 = c6 at *
    generalize xs.getD 5 0 = c5 at *
    generalize xs.getD 4 0 = c4' at *
    generalize xs.getD 3 0 = c3 at *
    generalize xs.getD 2 0 = c2 at *
    generalize xs.getD 1 0 = c1 at *
    generalize xs.getD 0 0 = c0 at *
    simp only [B1_eq]
    rw [w7, s6, s5, s4, s3, s2, s1, s0]
    refine ⟨⟨by omega, by omega⟩, by omega, ⟨by omega, by omega⟩, by omega, ⟨by omega, by omega⟩, by omega, ⟨by omega, by omega⟩, by omega, ⟨by omega, by omega⟩, by omega, ⟨by omega, by omega⟩, by omega, ⟨by omega, by omega⟩, by omega, ⟨by omega, by omega⟩, by omega, ?_⟩
    have f : c7 + c6 * 2 ^ 8 + c5 * 2 ^ 16 + c4' * 2 ^ 24 + c3 * 2 ^ 32 + c2 * 2 ^ 40 + c1 * 2 ^ 48 + c0 * 2 ^ 56 = ((beN xs : Nat) : Int) := by
      rw [e]
      exact fsum g0.1 g1.1 g2.1 g3.1 g4.1 g5.1 g6.1 g7.1
    rw [f]
    clear s0 s1 s2 s3 s4 s5 s6 w7 e f g0 g1 g2 g3 g4 g5 g6 g7
    rfl
  · cases h
def cB8 : Rd Tryd.prog := mkR mixed 71 Tryd.func71 (by decide) (by kernel_rfl) [] [.sl 1 true] rB8 b8_ok
def cxOc : Cx Tryd.prog := { rds := [cBits], efs := [], eqs := [] }
theorem vc_oct (a0 a1 a2 a3 : Int) (K : SV → Mem → Prop) : (execF cxOc (fun _ => .un 40) Tryd.f17 64 [ag4 a0 a1 a2 a3] (memL []) K) = ((((0 :Int) ≤ 32) 
 ∧ (((32 :Int) ≤ 140737488355328) ∧ ((32 :Int) ≤ 140737488355328))) ∧ (B1 (shrv IntKind.u64 a3 56) fun x0 => B1 (IntKind.wrap IntKind.u8 x0) fun x1 => 
 ((0 < 32) ∧ (B1 (shrv IntKind.u64 a3 48) fun x2 => B1 (IntKind.wrap IntKind.u8 x2) fun x3 => ((1 < (List.length (List.set (List.replicate 32 0) 0 x1))) 
 ∧ (B1 (shrv IntKind.u64 a3 40) fun x4 => B1 (IntKind.wrap IntKind.u8 x4) fun x5 => ((2 < (List.length (List.set (List.set (List.replicate 32 0) 0 x1) 1 x3))) 
 ∧ (B1 (shrv IntKind.u64 a3 32) fun x6 => B1 (IntKind.wrap IntKind.u8 x6) fun x7 => ((3 < (List.length (List.set (List.set (List.set (List.replicate 32 0) 0 x1) 1 x3) 2 x5))) 
 ∧ (B1 (shrv IntKind.u64 a3 24) fun x8 => B1 (IntKind.wrap IntKind.u8 x8) fun x9 => ((4 < (List.length (List.set (List.set (List.set (List.set (List.replicate 32 0) 0 x1) 1 x3) 2 x5) 3 x7))) 
 ∧ (B1 (shrv IntKind.u64 a3 16) fun x10 => B1 (IntKind.wrap IntKind.u8 x10) fun x11 => ((5 < (List.length (List.set (List.set (List.set (List.set (List.set 
 (List.replicate 32 0) 0 x1) 1 x3) 2 x5) 3 x7) 4 x9))) ∧ (B1 (shrv IntKind.u64 a3 8) fun x12 => B1 (IntKind.wrap IntKind.u8 x12) fun x13 => ((6 < (List.length 
 (List.set (List.set (List.set (List.set (List.set (List.set (List.replicate 32 0) 0 x1) 1 x3) 2 x5) 3 x7) 4 x9) 5 x11))) ∧ (B1 (shrv IntKind.u64 a3 0) fun x14 => B1 
 (IntKind.wrap IntKind.u8 x14) fun x15 => ((7 < (List.length (List.set (List.set (List.set (List.set (List.set (List.set (List.set (List.replicate 32 0) 0 x1) 1 x3) 2 x5) 3 x7) 4 x9) 5 x11) 6 x13))) 
 ∧ (B1 (shrv IntKind.u64 a2 56) fun x16 => B1 (IntKind.wrap IntKind.u8 x16) fun x17 => ((8 < (List.length (List.set (List.set (List.set (List.set (List.set 
 (List.set (List.set (List.set (List.replicate 32 0) 0 x1) 1 x3) 2 x5) 3 x7) 4 x9) 5 x11) 6 x13) 7 x15))) ∧ (B1 (shrv IntKind.u64 a2 48) fun x18 => B1 
 (IntKind.wrap IntKind.u8 x18) fun x19 => ((9 < (List.length (List.set (List.set (List.set (List.set (List.set (List.set (List.set (List.set (List.set 
 (List.replicate 32 0) 0 x1) 1 x3) 2 x5) 3 x7) 4 x9) 5 x11) 6 x13) 7 x15) 8 x17))) ∧ (B1 (shrv IntKind.u64 a2 40) fun x20 => B1 (IntKind.wrap IntKind.u8 x20) fun x21 => 
 ((10 < (List.length (List.set (List.set (List.set (List.set (List.set (List.set (List.set (List.set (List.set (List.set (List.replicate 32 0) 0 x1) 1 x3) 2 x5) 3 x7) 4 x9) 5 x11) 6 x13) 7 x15) 8 x17) 9 x19))) 
 ∧ (B1 (shrv IntKind.u64 a2 32) fun x22 => B1 (IntKind.wrap IntKind.u8 x22) fun x23 => ((11 < (List.length (List.set (List.set (List.set (List.set (List.set 
 (List.set (List.set (List.set (List.set (List.set (List.set (List.replicate 32 0) 0 x1) 1 x3) 2 x5) 3 x7) 4 x9) 5 x11) 6 x13) 7 x15) 8 x17) 9 x19) 10 x21))) 
 ∧ (B1 (shrv IntKind.u64 a2 24) fun x24 => B1 (IntKind.wrap IntKind.u8 x24) fun x25 => ((12 < (List.length (List.set (List.set (List.set (List.set (List.set 
 (List.set (List.set (List.set (List.set (List.set (List.set (List.set (List.replicate 32 0) 0 x1) 1 x3) 2 x5) 3 x7) 4 x9) 5 x11) 6 x13) 7 x15) 8 x17) 9 x19) 10 x21) 11 x23))) 
 ∧ (B1 (shrv IntKind.u64 a2 16) fun x26 => B1 (IntKind.wrap IntKind.u8 x26) fun x27 => ((13 < (List.length (List.set (List.set (List.set (List.set (List.set 
 (List.set (List.set (List.set (List.set (List.set (List.set (List.set (List.set (List.replicate 32 0) 0 x1) 1 x3) 2 x5) 3 x7) 4 x9) 5 x11) 6 x13) 7 x15) 8 x17) 9 x19) 10 x21) 11 x23) 12 x25))) 
 ∧ (B1 (shrv IntKind.u64 a2 8) fun x28 => B1 (IntKind.wrap IntKind.u8 x28) fun x29 => ((14 < (List.length (List.set (List.set (List.set (List.set (List.set 
 (List.set (List.set (List.set (List.set (List.set (List.set (List.set (List.set (List.set (List.replicate 32 0) 0 x1) 1 x3) 2 x5) 3 x7) 4 x9) 5 x11) 6 x13) 7 x15) 8 x17) 9 x19) 10 x21) 11 x23) 12 x25) 13 x27))) 
 ∧ (B1 (shrv IntKind.u64 a2 0) fun x30 => B1 (IntKind.wrap IntKind.u8 x30) fun x31 => ((15 < (List.length (List.set (List.set (List.set (List.set (List.set 
 (List.set (List.set (List.set (List.set (List.set (List.set (List.set (List.set (List.set (List.set (List.replicate 32 0) 0 x1) 1 x3) 2 x5) 3 x7) 4 x9) 5 x11) 6 x13) 7 x15) 8 x17) 9 x19) 10 x21) 11 x23) 12 x25) 13 x27) 14 x29))) 
 ∧ (B1 (shrv IntKind.u64 a1 56) fun x32 => B1 (IntKind.wrap IntKind.u8 x32) fun x33 => ((16 < (List.length (List.set (List.set (List.set (List.set (List.set 
 (List.set (List.set (List.set (List.set (List.set (List.set (List.set (List.set (List.set (List.set (List.set (List.replicate 32 0) 0 x1) 1 x3) 2 x5) 3 x7) 4 x9) 5 x11) 6 x13) 7 x15) 8 x17) 9 x19) 10 x21) 11 x23) 12 x25) 13 x27) 14 x29) 15 x31))) 
 ∧ (B1 (shrv IntKind.u64 a1 48) fun x34 => B1 (IntKind.wrap IntKind.u8 x34) fun x35 => ((17 < (List.length (List.set (List.set (List.set (List.set (List.set 
 (List.set (List.set (List.set (List.set (List.set (List.set (List.set (List.set (List.set (List.set (List.set (List.set (List.replicate 32 0) 0 x1) 1 x3) 2 x5) 3 x7) 4 x9) 5 x11) 6 x13) 7 x15) 8 x17) 9 x19) 10 x21) 11 x23) 12 x25) 13 x27) 14 x29) 15 x31) 16 x33))) 
 ∧ (B1 (shrv IntKind.u64 a1 40) fun x36 => B1 (IntKind.wrap IntKind.u8 x36) fun x37 => ((18 < (List.length (List.set (List.set (List.set (List.set (List.set 
 (List.set (List.set (List.set (List.set (List.set (List.set (List.set (List.set (List.set (List.set (List.set (List.set (List.set (List.replicate 32 0) 0 x1) 1 x3) 2 x5) 3 x7) 4 x9) 5 x11) 6 x13) 7 x15) 8 x17) 9 x19) 10 x21) 11 x23) 12 x25) 13 x27) 14 x29) 15 x31) 16 x33) 17 x35))) 
 ∧ (B1 (shrv IntKind.u64 a1 32) fun x38 => B1 (IntKind.wrap IntKind.u8 x38) fun x39 => ((19 < (List.length (List.set (List.set (List.set (List.set (List.set 
 (List.set (List.set (List.set (List.set (List.set (List.set (List.set (List.set (List.set (List.set (List.set (List.set (List.set (List.set (List.replicate 32 0) 0 x1) 1 x3) 2 x5) 3 x7) 4 x9) 5 x11) 6 x13) 7 x15) 8 x17) 9 x19) 10 x21) 11 x23) 12 x25) 13 x27) 14 x29) 15 x31) 16 x33) 17 x35) 18 x37))) 
 ∧ (B1 (shrv IntKind.u64 a1 24) fun x40 => B1 (IntKind.wrap IntKind.u8 x40) fun x41 => ((20 < (List.length (List.set (List.set (List.set (List.set (List.set 
 (List.set (List.set (List.set (List.set (List.set (List.set (List.set (List.set (List.set (List.set (List.set (List.set (List.set (List.set (List.set 
 (List.replicate 32 0) 0 x1) 1 x3) 2 x5) 3 x7) 4 x9) 5 x11) 6 x13) 7 x15) 8 x17) 9 x19) 10 x21) 11 x23) 12 x25) 13 x27) 14 x29) 15 x31) 16 x33) 17 x35) 18 x37) 19 x39))) 
 ∧ (B1 (shrv IntKind.u64 a1 16) fun x42 => B1 (IntKind.wrap IntKind.u8 x42) fun x43 => ((21 < (List.length (List.set (List.set (List.set (List.set (List.set 
 (List.set (List.set (List.set (List.set (List.set (List.set (List.set (List.set (List.set (List.set (List.set (List.set (List.set (List.set (List.set 
 (List.set (List.replicate 32 0) 0 x1) 1 x3) 2 x5) 3 x7) 4 x9) 5 x11) 6 x13) 7 x15) 8 x17) 9 x19) 10 x21) 11 x23) 12 x25) 13 x27) 14 x29) 15 x31) 16 x33) 17 x35) 18 x37) 19 x39) 20 x41))) 
 ∧ (B1 (shrv IntKind.u64 a1 8) fun x44 => B1 (IntKind.wrap IntKind.u8 x44) fun x45 => ((22 < (List.length (List.set (List.set (List.set (List.set (List.set 
 (List.set (List.set (List.set (List.set (List.set (List.set (List.set (List.set (List.set (List.set (List.set (List.set (List.set (List.set (List.set 
 (List.set (List.set (List.replicate 32 0) 0 x1) 1 x3) 2 x5) 3 x7) 4 x9) 5 x11) 6 x13) 7 x15) 8 x17) 9 x19) 10 x21) 11 x23) 12 x25) 13 x27) 14 x29) 15 x31) 16 x33) 17 x35) 18 x37) 19 x39) 20 x41) 21 x43))) 
 ∧ (B1 (shrv IntKind.u64 a1 0) fun x46 => B1 (IntKind.wrap IntKind.u8 x46) fun x47 => ((23 < (List.length (List.set (List.set (List.set (List.set (List.set 
 (List.set (List.set (List.set (List.set (List.set (List.set (List.set (List.set (List.set (List.set (List.set (List.set (List.set (List.set (List.set 
 (List.set (List.set (List.set (List.replicate 32 0) 0 x1) 1 x3) 2 x5) 3 x7) 4 x9) 5 x11) 6 x13) 7 x15) 8 x17) 9 x19) 10 x21) 11 x23) 12 x25) 13 x27) 14 x29) 15 x31) 16 x33) 17 x35) 18 x37) 19 x39) 20 x41) 21 x43) 22 x45))) 
 ∧ (B1 (shrv IntKind.u64 a0 56) fun x48 => B1 (IntKind.wrap IntKind.u8 x48) fun x49 => ((24 < (List.length (List.set (List.set (List.set (List.set (List.set 
 (List.set (List.set (List.set (List.set (List.set (List.set (List.set (List.set (List.set (List.set (List.set (List.set (List.set (List.set (List.set 
 (List.set (List.set (List.set (List.set (List.replicate 32 0) 0 x1) 1 x3) 2 x5) 3 x7) 4 x9) 5 x11) 6 x13) 7 x15) 8 x17) 9 x19) 10 x21) 11 x23) 12 x25) 13 x27) 14 x29) 15 x31) 16 x33) 17 x35) 18 x37) 19 x39) 20 x41) 21 x43) 22 x45) 23 x47))) 
 ∧ (B1 (shrv IntKind.u64 a0 48) fun x50 => B1 (IntKind.wrap IntKind.u8 x50) fun x51 => ((25 < (List.length (List.set (List.set (List.set (List.set (List.set 
 (List.set (List.set (List.set (List.set (List.set (List.set (List.set (List.set (List.set (List.set (List.set (List.set (List.set (List.set (List.set 
 (List.set (List.set (List.set (List.set (List.set (List.replicate 32 0) 0 x1) 1 x3) 2 x5) 3 x7) 4 x9) 5 x11) 6 x13) 7 x15) 8 x17) 9 x19) 10 x21) 11 x23) 12 x25) 13 x27) 14 x29) 15 x31) 16 x33) 17 x35) 18 x37) 19 x39) 20 x41) 21 x43) 22 x45) 23 x47) 24 x49))) 
 ∧ (B1 (shrv IntKind.u64 a0 40) fun x52 => B1 (IntKind.wrap IntKind.u8 x52) fun x53 => ((26 < (List.length (List.set (List.set (List.set (List.set (List.set 
 (List.set (List.set (List.set (List.set (List.set (List.set (List.set (List.set (List.set (List.set (List.set (List.set (List.set (List.set (List.set 
 (List.set (List.set (List.set (List.set (List.set (List.set (List.replicate 32 0) 0 x1) 1 x3) 2 x5) 3 x7) 4 x9) 5 x11) 6 x13) 7 x15) 8 x17) 9 x19) 10 x21) 11 x23) 12 x25) 13 x27) 14 x29) 15 x31) 16 x33) 17 x35) 18 x37) 19 x39) 20 x41) 21 x43) 22 x45) 23 x47) 24 x49) 25 x51))) 
 ∧ (B1 (shrv IntKind.u64 a0 32) fun x54 => B1 (IntKind.wrap IntKind.u8 x54) fun x55 => ((27 < (List.length (List.set (List.set (List.set (List.set (List.set 
 (List.set (List.set (List.set (List.set (List.set (List.set (List.set (List.set (List.set (List.set (List.set (List.set (List.set (List.set (List.set 
 (List.set (List.set (List.set (List.set (List.set (List.set (List.set (List.replicate 32 0) 0 x1) 1 x3) 2 x5) 3 x7) 4 x9) 5 x11) 6 x13) 7 x15) 8 x17) 9 x19) 10 x21) 11 x23) 12 x25) 13 x27) 14 x29) 15 x31) 16 x33) 17 x35) 18 x37) 19 x39) 20 x41) 21 x43) 22 x45) 23 x47) 24 x49) 25 x51) 26 x53))) 
 ∧ (B1 (shrv IntKind.u64 a0 24) fun x56 => B1 (IntKind.wrap IntKind.u8 x56) fun x57 => ((28 < (List.length (List.set (List.set (List.set (List.set (List.set 
 (List.set (List.set (List.set (List.set (List.set (List.set (List.set (List.set (List.set (List.set (List.set (List.set (List.set (List.set (List.set 
 (List.set (List.set (List.set (List.set (List.set (List.set (List.set (List.set (List.replicate 32 0) 0 x1) 1 x3) 2 x5) 3 x7) 4 x9) 5 x11) 6 x13) 7 x15) 8 x17) 9 x19) 10 x21) 11 x23) 12 x25) 13 x27) 14 x29) 15 x31) 16 x33) 17 x35) 18 x37) 19 x39) 20 x41) 21 x43) 22 x45) 23 x47) 24 x49) 25 x51) 26 x53) 27 x55))) 
 ∧ (B1 (shrv IntKind.u64 a0 16) fun x58 => B1 (IntKind.wrap IntKind.u8 x58) fun x59 => ((29 < (List.length (List.set (List.set (List.set (List.set (List.set 
 (List.set (List.set (List.set (List.set (List.set (List.set (List.set (List.set (List.set (List.set (List.set (List.set (List.set (List.set (List.set 
 (List.set (List.set (List.set (List.set (List.set (List.set (List.set (List.set (List.set (List.replicate 32 0) 0 x1) 1 x3) 2 x5) 3 x7) 4 x9) 5 x11) 6 x13) 7 x15) 8 x17) 9 x19) 10 x21) 11 x23) 12 x25) 13 x27) 14 x29) 15 x31) 16 x33) 17 x35) 18 x37) 19 x39) 20 x41) 21 x43) 22 x45) 23 x47) 24 x49) 25 x51) 26 x53) 27 x55) 28 x57))) 
 ∧ (B1 (shrv IntKind.u64 a0 8) fun x60 => B1 (IntKind.wrap IntKind.u8 x60) fun x61 => ((30 < (List.length (List.set (List.set (List.set (List.set (List.set 
 (List.set (List.set (List.set (List.set (List.set (List.set (List.set (List.set (List.set (List.set (List.set (List.set (List.set (List.set (List.set 
 (List.set (List.set (List.set (List.set (List.set (List.set (List.set (List.set (List.set (List.set (List.replicate 32 0) 0 x1) 1 x3) 2 x5) 3 x7) 4 x9) 5 x11) 6 x13) 7 x15) 8 x17) 9 x19) 10 x21) 11 x23) 12 x25) 13 x27) 14 x29) 15 x31) 16 x33) 17 x35) 18 x37) 19 x39) 20 x41) 21 x43) 22 x45) 23 x47) 24 x49) 25 x51) 26 x53) 27 x55) 28 x57) 29 x59))) 
 ∧ (B1 (shrv IntKind.u64 a0 0) fun x62 => B1 (IntKind.wrap IntKind.u8 x62) fun x63 => ((31 < (List.length (List.set (List.set (List.set (List.set (List.set 
 (List.set (List.set (List.set (List.set (List.set (List.set (List.set (List.set (List.set (List.set (List.set (List.set (List.set (List.set (List.set 
 (List.set (List.set (List.set (List.set (List.set (List.set (List.set (List.set (List.set (List.set (List.set (List.replicate 32 0) 0 x1) 1 x3) 2 x5) 3 x7) 4 x9) 5 x11) 6 x13) 7 x15) 8 x17) 9 x19) 10 x21) 11 x23) 12 x25) 13 x27) 14 x29) 15 x31) 16 x33) 17 x35) 18 x37) 19 x39) 20 x41) 21 x43) 22 x45) 23 x47) 24 x49) 25 x51) 26 x53) 27 x55) 28 x57) 29 x59) 30 x61))) 
 ∧ (K (SV.slice 529 (N.lit 0) (N.lit 32) (N.lit 32)) (memL [(513, (Reg.mk Bool.false (Ct.cells [(U a0), (U a1), (U a2), (U a3)]))), (529, (Reg.mk Bool.false 
 (Ct.ints IntKind.u8 (List.set (List.set (List.set (List.set (List.set (List.set (List.set (List.set (List.set (List.set (List.set (List.set (List.set 
 (List.set (List.set (List.set (List.set (List.set (List.set (List.set (List.set (List.set (List.set (List.set (List.set (List.set (List.set (List.set 
 (List.set (List.set (List.set (List.set (List.replicate 32 0) 0 x1) 1 x3) 2 x5) 3 x7) 4 x9) 5 x11) 6 x13) 7 x15) 8 x17) 9 x19) 10 x21) 11 x23) 12 x25) 13 x27) 14 x29) 15 x31) 16 x33) 17 x35) 18 x37) 19 x39) 20 x41) 21 x43) 22 x45) 23 x47) 24 x49) 25 x51) 26 x53) 27 x55) 28 x57) 29 x59) 30 x61) 31 x63))))]))))))))))))))))))))))))))))))))))))))))))))))))))))))))))))))))))) := by kernel_rfl 
theorem beN_32 {a0 a1 a2 a3 : Int} {A : Nat} (h : Ws a0 a1 a2 a3 A) (l0 l1 l2 l3 : List Int) (e0 : l0.length = 8 ∧ beN l0 = a0.toNat) (e1 : l1.length = 8 ∧ beN l1 = a1.toNat) (e2 : l2.length = 8 ∧ beN l2 = a2.toNat) (e3 : l3.length = 8 ∧ beN l3 = a3.toNat) :
    beN (l3 ++ (l2 ++ (l1 ++ l0))) = A := by
  rw [beN_app, beN_app, beN_app, e0.2, e1.2, e2.2, e3.2]
  simp only [List.length_append, e0.1, e1.1, e2.1]
  have hv := h.val
  have hw := h.wd
  unfold V4 at hv
  unfold Wd at hw
  simp only [Nat.reducePow, Nat.reduceAdd]
  clear e0 e1 e2 e3 h
  obtain ⟨n0, rfl⟩ := Int.eq_ofNat_of_zero_le hw.1.1
  obtain ⟨n1, rfl⟩ := Int.eq_ofNat_of_zero_le hw.2.1.1
  obtain ⟨n2, rfl⟩ := Int.eq_ofNat_of_zero_le hw.2.2.1.1
  obtain ⟨n3, rfl⟩ := Int.eq_ofNat_of_zero_le hw.2.2.2.1
  clear hw
  simp only [Int.toNat_natCast]
  omega
def by8 (a : Int) : List Int := [a / 72057594037927936 % 256, a / 281474976710656 % 256, a / 1099511627776 % 256, a / 4294967296 % 256, a / 16777216 % 256, a / 65536 % 256, a / 256 % 256, a / 1 % 256]
theorem by8_val {a : Int} (h : Wd a) : (by8 a).length = 8 ∧ beN (by8 a) = a.toNat := ⟨rfl, by unfold by8; rw [beN_8]; exact word8 h⟩
theorem by8_byte (a : Int) : ∀ b ∈ by8 a, 0 ≤ b ∧ b < 256 := by
  intro b hb
  unfold by8 at hb
  simp only [List.mem_cons, List.not_mem_nil, or_false] at hb
  omega
theorem oct_walk {A : Nat} {a0 a1 a2 a3 : Int} {K : SV → Mem → Prop} (hup : KUp K) (h : Ws a0 a1 a2 a3 A) (hK : ∀ ys : List Int, ys.length = 32 → beN ys = A → (∀ b ∈ ys, 0 ≤ b ∧ b < 256) → K (.slice 529 (.lit 0) (.lit 32) (.lit 32)) (memL [(529, ⟨false, .ints .u8 ys⟩)])) :
    execF cxOc (fun _ => .un 40) Tryd.f17 64 [ag4 a0 a1 a2 a3] (memL []) K := by
  rw [vc_oct]
  obtain ⟨w0, w1, w2, w3⟩ := h.wd
  have b0 := byte_of w0
  have b1 := byte_of w1
  have b2 := byte_of w2
  have b3 := byte_of w3
  have K1 := hK (by8 a3 ++ (by8 a2 ++ (by8 a1 ++ by8 a0))) rfl (beN_32 h _ _ _ _ (by8_val w0) (by8_val w1) (by8_val w2) (by8_val w3)) (by
    intro b hb
    simp only [List.mem_append] at hb
    rcases hb with hb | hb | hb | hb <;> exact by8_byte _ b hb)
  simp only [↓B1_eq, byte_of w0 0 (by decide), byte_of w0 8 (by decide), byte_of w0 16 (by decide), byte_of w0 24 (by decide), byte_of w0 32 (by decide), byte_of w0 40 (by decide), byte_of w0 48 (by decide), byte_of w0 56 (by decide), byte_of w1 0 (by decide), byte_of w1 8 (by decide), byte_of w1 16 (by decide), byte_of w1 24 (by decide), byte_of w1 32 (by decide), byte_of w1 40 (by decide), byte_of w1 48 (by decide), byte_of w1 56 (by decide), byte_of w2 0 (by decide), byte_of w2 8 (by decide), byte_of w2 16 (by decide), byte_of w2 24 (by decide), byte_of w2 32 (by decide), byte_of w2 40 (by decide), byte_of w2 48 (by decide), byte_of w2 56 (by decide), byte_of w3 0 (by decide), byte_of w3 8 (by decide), byte_of w3 16 (by decide), byte_of w3 24 (by decide), byte_of w3 32 (by decide), byte_of w3 40 (by decide), byte_of w3 48 (by decide), byte_of w3 56 (by decide), List.length_set, List.length_replicate]
  simp only [Int.reducePow]
  refine ⟨by decide, by decide, by decide, by decide, by decide, by decide, by decide, by decide, by decide, by decide, by decide, by decide, by decide, by decide, by decide, by decide, by decide, by decide, by decide, by decide, by decide, by decide, by decide, by decide, by decide, by decide, by decide, by decide, by decide, by decide, by decide, by decide, by decide, ?_⟩
  refine hup.le (memL_sub [513, 529] rfl (by decide) (l := [(529, ⟨false, .ints .u8 (by8 a3 ++ (by8 a2 ++ (by8 a1 ++ by8 a0)))⟩)]) ?_) K1
  intro x hx
  simp only [List.mem_cons, List.not_mem_nil, or_false] at hx ⊢
  subst hx
  exact .inr (by kernel_rfl)
end Go.Sx
