/- Part 5 of the proof: for every message, domain and length the laws FnExpand and FnExpandRefused return true (a verified symbolic evaluator, contracts of each function reached, the laws, their rows and cards). Conditions: those of the given statements, none besides. -/
import Derived.Test.YtmghfbppanjopaaDoorRows
import Derived.Test.YtmghfbppanjopaaDoorTie
import Derived.Test.YtmghfbppanjopaaDoorCards
import Derived.ProofKit
import Derived.LaidMore
import Derived.LaidLaws
import Derived.LaidHandle
import Derived.MakeChecks
import Derived.OpenShut
import Derived.Carry
import Derived.Stop.Joined
import Derived.SevenTiedAt
import Derived.Test.YtmghfbppanjopaaDoorSx4
/- The two laws: what they compute. -/
namespace Go.Sx
open Go Go.Proofs
set_option maxRecDepth 100000
set_option maxHeartbeats 4000000
def cxL1 : Cx Tryd.prog := { rds := [], efs := [cIE, cSE], eqs := [] }
theorem vc_l1 (msg dst : List Int) (l c l2 c2 : Nat) (n : Int) (K : SV → Mem → Prop) : (execF cxL1 u0 Tryd.f3 64 [.slice 9 (.lit 0) (.sym l) (.sym c), .slice 17 (.lit 0) (.sym l2) (.sym c2), .int .i64 (.sym n)] (memL [(0, ⟨true, .ints .u32 kL⟩), (9, ⟨true, .ints .u8 msg⟩), (17, ⟨true, .ints .u8 dst⟩)]) K) =
  ((∀ (x0 : Int), ((x0 = ((l : Nat) : Int)) → ((((decide (x0 > (2147483647 : Int))) = Bool.true) → (K (Go.Sx.SV.bool (Go.Sx.B.lit Bool.true)) (Go.Sx.memL [((0 : Nat), (Go.Sx.Reg.mk Bool.true (Go.Sx.Ct.ints Go.IntKind.u32 Go.Sx.kL))), ((9 : Nat), (Go.Sx.Reg.mk Bool.true (Go.Sx.Ct.ints Go.IntKind.u8 msg))), ((17 : Nat), (Go.Sx.Reg.mk Bool.true (Go.Sx.Ct.ints Go.IntKind.u8 dst)))]))) ∧
 (((decide (x0 > (2147483647 : Int))) = Bool.false) → (∀ (x1 : Int), ((x1 = ((l2 : Nat) : Int)) → ((((decide (x1 > (2147483647 : Int))) = Bool.true) → (K (Go.Sx.SV.bool (Go.Sx.B.lit Bool.true)) (Go.Sx.memL [((0 : Nat), (Go.Sx.Reg.mk Bool.true (Go.Sx.Ct.ints Go.IntKind.u32 Go.Sx.kL))), ((9 : Nat), (Go.Sx.Reg.mk Bool.true (Go.Sx.Ct.ints Go.IntKind.u8 msg))), ((17 : Nat), (Go.Sx.Reg.mk Bool.true (Go.Sx.Ct.ints Go.IntKind.u8 dst)))]))) ∧
 (((decide (x1 > (2147483647 : Int))) = Bool.false) → (∀ (x2 : Int), ((x2 = ((l : Nat) : Int)) → ((((decide (x2 > (4096 : Int))) = Bool.true) → (K (Go.Sx.SV.bool (Go.Sx.B.lit Bool.true)) (Go.Sx.memL [((0 : Nat), (Go.Sx.Reg.mk Bool.true (Go.Sx.Ct.ints Go.IntKind.u32 Go.Sx.kL))), ((9 : Nat), (Go.Sx.Reg.mk Bool.true (Go.Sx.Ct.ints Go.IntKind.u8 msg))), ((17 : Nat), (Go.Sx.Reg.mk Bool.true (Go.Sx.Ct.ints Go.IntKind.u8 dst)))]))) ∧
 (((decide (x2 > (4096 : Int))) = Bool.false) → (∀ (x3 : Int), ((x3 = ((l2 : Nat) : Int)) → ((((x3 == (0 : Int)) = Bool.true) → (K (Go.Sx.SV.bool (Go.Sx.B.lit Bool.true)) (Go.Sx.memL [((0 : Nat), (Go.Sx.Reg.mk Bool.true (Go.Sx.Ct.ints Go.IntKind.u32 Go.Sx.kL))), ((9 : Nat), (Go.Sx.Reg.mk Bool.true (Go.Sx.Ct.ints Go.IntKind.u8 msg))), ((17 : Nat), (Go.Sx.Reg.mk Bool.true (Go.Sx.Ct.ints Go.IntKind.u8 dst)))]))) ∧
 (((x3 == (0 : Int)) = Bool.false) → (∀ (x4 : Int), ((x4 = ((l2 : Nat) : Int)) → ((((decide (x4 > (255 : Int))) = Bool.true) → (K (Go.Sx.SV.bool (Go.Sx.B.lit Bool.true)) (Go.Sx.memL [((0 : Nat), (Go.Sx.Reg.mk Bool.true (Go.Sx.Ct.ints Go.IntKind.u32 Go.Sx.kL))), ((9 : Nat), (Go.Sx.Reg.mk Bool.true (Go.Sx.Ct.ints Go.IntKind.u8 msg))), ((17 : Nat), (Go.Sx.Reg.mk Bool.true (Go.Sx.Ct.ints Go.IntKind.u8 dst)))]))) ∧
 (((decide (x4 > (255 : Int))) = Bool.false) → ((((decide (n < (32 : Int))) = Bool.true) → (K (Go.Sx.SV.bool (Go.Sx.B.lit Bool.true)) (Go.Sx.memL [((0 : Nat), (Go.Sx.Reg.mk Bool.true (Go.Sx.Ct.ints Go.IntKind.u32 Go.Sx.kL))), ((9 : Nat), (Go.Sx.Reg.mk Bool.true (Go.Sx.Ct.ints Go.IntKind.u8 msg))), ((17 : Nat), (Go.Sx.Reg.mk Bool.true (Go.Sx.Ct.ints Go.IntKind.u8 dst)))]))) ∧
 (((decide (n < (32 : Int))) = Bool.false) → ((((decide (n > (8160 : Int))) = Bool.true) → (K (Go.Sx.SV.bool (Go.Sx.B.lit Bool.true)) (Go.Sx.memL [((0 : Nat), (Go.Sx.Reg.mk Bool.true (Go.Sx.Ct.ints Go.IntKind.u32 Go.Sx.kL))), ((9 : Nat), (Go.Sx.Reg.mk Bool.true (Go.Sx.Ct.ints Go.IntKind.u8 msg))), ((17 : Nat), (Go.Sx.Reg.mk Bool.true (Go.Sx.Ct.ints Go.IntKind.u8 dst)))]))) ∧
 (((decide (n > (8160 : Int))) = Bool.false) → (((((0 : Nat) + (l * (1 : Nat))) ≤ (List.length msg)) ∧
 (((0 : Nat) + (l2 * (1 : Nat))) ≤ (List.length dst))) ∧
 (((Go.Sx.kL = Go.Sx.kL) ∧
 (((List.length (List.take (l * (1 : Nat)) (List.drop (0 : Nat) msg))) = l) ∧
 (((List.length (List.take (l2 * (1 : Nat)) (List.drop (0 : Nat) dst))) = l2) ∧
 ((Go.Sx.Bytes (List.take (l * (1 : Nat)) (List.drop (0 : Nat) msg))) ∧
 ((Go.Sx.Bytes (List.take (l2 * (1 : Nat)) (List.drop (0 : Nat) dst))) ∧
 ((l ≤ (65536 : Nat)) ∧
 ((l2 ≤ (65536 : Nat)) ∧
 (((32 : Int) ≤ n) ∧
 (n ≤ (20000 : Int)))))))))) ∧
 ((((n > (8160 : Int)) ∨
 ((List.length (List.take (l2 * (1 : Nat)) (List.drop (0 : Nat) dst))) > (255 : Nat))) → False) ∧
 ((n ≤ (8160 : Int)) → (((List.length (List.take (l2 * (1 : Nat)) (List.drop (0 : Nat) dst))) ≤ (255 : Nat)) → (∀ (ys5 : (List Int)), ((ys5 = (Go.Sx.expand (List.take (l * (1 : Nat)) (List.drop (0 : Nat) msg)) (List.take (l2 * (1 : Nat)) (List.drop (0 : Nat) dst)) (Int.toNat n))) → (∀ (ys6 : (List Int)), ((ys6 = ys5) → ((((0 : Nat) + (Int.toNat n)) ≤ (List.length ys6)) ∧
 (((((0 : Nat) + (l * (1 : Nat))) ≤ (List.length msg)) ∧
 (((0 : Nat) + (l2 * (1 : Nat))) ≤ (List.length dst))) ∧
 ((((List.length (List.take (l * (1 : Nat)) (List.drop (0 : Nat) msg))) = l) ∧
 (((List.length (List.take (l2 * (1 : Nat)) (List.drop (0 : Nat) dst))) = l2) ∧
 ((Go.Sx.Bytes (List.take (l * (1 : Nat)) (List.drop (0 : Nat) msg))) ∧
 ((Go.Sx.Bytes (List.take (l2 * (1 : Nat)) (List.drop (0 : Nat) dst))) ∧
 ((l ≤ (65536 : Nat)) ∧
 ((l2 ≤ (65536 : Nat)) ∧
 (((0 : Int) ≤ n) ∧
 (n ≤ (65536 : Int))))))))) ∧
 (∀ (ys7 : (List Int)), (∀ (cap8 : Nat), ((Go.Sx.Rw ys7 (Go.Sx.expand (List.take (l * (1 : Nat)) (List.drop (0 : Nat) msg)) (List.take (l2 * (1 : Nat)) (List.drop (0 : Nat) dst)) (Int.toNat n)) (Int.toNat n) cap8) → (∀ (ys9 : (List Int)), ((ys9 = ys7) → ((((0 : Nat) + (Int.toNat n)) ≤ (List.length ys9)) ∧
 (K (Go.Sx.SV.bool (Go.Sx.B.sym ((ByteArray.toList (Go.Sx.bytesOf (List.take (Int.toNat n) (List.drop (0 : Nat) ys6)))) == (ByteArray.toList (Go.Sx.bytesOf (List.take (Int.toNat n) (List.drop (0 : Nat) ys9))))))) (Go.Sx.memL [((0 : Nat), (Go.Sx.Reg.mk Bool.true (Go.Sx.Ct.ints Go.IntKind.u32 Go.Sx.kL))), ((9 : Nat), (Go.Sx.Reg.mk Bool.true (Go.Sx.Ct.ints Go.IntKind.u8 msg))), ((17 : Nat), (Go.Sx.Reg.mk Bool.true (Go.Sx.Ct.ints Go.IntKind.u8 dst))), ((777 : Nat), (Go.Sx.Reg.mk Bool.false (Go.Sx.Ct.ints Go.IntKind.u8 ys6))), ((881 : Nat), (Go.Sx.Reg.mk Bool.false (Go.Sx.Ct.ints Go.IntKind.u8 ys9)))]))))))))))))))))))))))))))))))))))))))))))))) := by kernel_rfl
theorem vc_l1n (dst : List Int) (l2 c2 : Nat) (n : Int) (K : SV → Mem → Prop) : (execF cxL1 u0 Tryd.f3 64 [.val (.slice none 0 0), .slice 17 (.lit 0) (.sym l2) (.sym c2), .int .i64 (.sym n)] (memL [(0, ⟨true, .ints .u32 kL⟩), (17, ⟨true, .ints .u8 dst⟩)]) K) =
  ((∀ (x0 : Int), ((x0 = ((l2 : Nat) : Int)) → ((((decide (x0 > (2147483647 : Int))) = Bool.true) → (K (Go.Sx.SV.bool (Go.Sx.B.lit Bool.true)) (Go.Sx.memL [((0 : Nat), (Go.Sx.Reg.mk Bool.true (Go.Sx.Ct.ints Go.IntKind.u32 Go.Sx.kL))), ((17 : Nat), (Go.Sx.Reg.mk Bool.true (Go.Sx.Ct.ints Go.IntKind.u8 dst)))]))) ∧
 (((decide (x0 > (2147483647 : Int))) = Bool.false) → (∀ (x1 : Int), ((x1 = ((l2 : Nat) : Int)) → ((((x1 == (0 : Int)) = Bool.true) → (K (Go.Sx.SV.bool (Go.Sx.B.lit Bool.true)) (Go.Sx.memL [((0 : Nat), (Go.Sx.Reg.mk Bool.true (Go.Sx.Ct.ints Go.IntKind.u32 Go.Sx.kL))), ((17 : Nat), (Go.Sx.Reg.mk Bool.true (Go.Sx.Ct.ints Go.IntKind.u8 dst)))]))) ∧
 (((x1 == (0 : Int)) = Bool.false) → (∀ (x2 : Int), ((x2 = ((l2 : Nat) : Int)) → ((((decide (x2 > (255 : Int))) = Bool.true) → (K (Go.Sx.SV.bool (Go.Sx.B.lit Bool.true)) (Go.Sx.memL [((0 : Nat), (Go.Sx.Reg.mk Bool.true (Go.Sx.Ct.ints Go.IntKind.u32 Go.Sx.kL))), ((17 : Nat), (Go.Sx.Reg.mk Bool.true (Go.Sx.Ct.ints Go.IntKind.u8 dst)))]))) ∧
 (((decide (x2 > (255 : Int))) = Bool.false) → ((((decide (n < (32 : Int))) = Bool.true) → (K (Go.Sx.SV.bool (Go.Sx.B.lit Bool.true)) (Go.Sx.memL [((0 : Nat), (Go.Sx.Reg.mk Bool.true (Go.Sx.Ct.ints Go.IntKind.u32 Go.Sx.kL))), ((17 : Nat), (Go.Sx.Reg.mk Bool.true (Go.Sx.Ct.ints Go.IntKind.u8 dst)))]))) ∧
 (((decide (n < (32 : Int))) = Bool.false) → ((((decide (n > (8160 : Int))) = Bool.true) → (K (Go.Sx.SV.bool (Go.Sx.B.lit Bool.true)) (Go.Sx.memL [((0 : Nat), (Go.Sx.Reg.mk Bool.true (Go.Sx.Ct.ints Go.IntKind.u32 Go.Sx.kL))), ((17 : Nat), (Go.Sx.Reg.mk Bool.true (Go.Sx.Ct.ints Go.IntKind.u8 dst)))]))) ∧
 (((decide (n > (8160 : Int))) = Bool.false) → ((((0 : Nat) + (l2 * (1 : Nat))) ≤ (List.length dst)) ∧
 (((Go.Sx.kL = Go.Sx.kL) ∧
 (((List.length (List.take (l2 * (1 : Nat)) (List.drop (0 : Nat) dst))) = l2) ∧
 ((Go.Sx.Bytes (List.take (l2 * (1 : Nat)) (List.drop (0 : Nat) dst))) ∧
 ((l2 ≤ (65536 : Nat)) ∧
 (((32 : Int) ≤ n) ∧
 (n ≤ (20000 : Int))))))) ∧
 ((((n > (8160 : Int)) ∨
 ((List.length (List.take (l2 * (1 : Nat)) (List.drop (0 : Nat) dst))) > (255 : Nat))) → False) ∧
 ((n ≤ (8160 : Int)) → (((List.length (List.take (l2 * (1 : Nat)) (List.drop (0 : Nat) dst))) ≤ (255 : Nat)) → (∀ (ys3 : (List Int)), ((ys3 = (Go.Sx.expand [] (List.take (l2 * (1 : Nat)) (List.drop (0 : Nat) dst)) (Int.toNat n))) → (∀ (ys4 : (List Int)), ((ys4 = ys3) → ((((0 : Nat) + (Int.toNat n)) ≤ (List.length ys4)) ∧
 ((((0 : Nat) + (l2 * (1 : Nat))) ≤ (List.length dst)) ∧
 ((((List.length (List.take (l2 * (1 : Nat)) (List.drop (0 : Nat) dst))) = l2) ∧
 ((Go.Sx.Bytes (List.take (l2 * (1 : Nat)) (List.drop (0 : Nat) dst))) ∧
 ((l2 ≤ (65536 : Nat)) ∧
 (((0 : Int) ≤ n) ∧
 (n ≤ (65536 : Int)))))) ∧
 (∀ (ys5 : (List Int)), (∀ (cap6 : Nat), ((Go.Sx.Rw ys5 (Go.Sx.expand [] (List.take (l2 * (1 : Nat)) (List.drop (0 : Nat) dst)) (Int.toNat n)) (Int.toNat n) cap6) → (∀ (ys7 : (List Int)), ((ys7 = ys5) → ((((0 : Nat) + (Int.toNat n)) ≤ (List.length ys7)) ∧
 (K (Go.Sx.SV.bool (Go.Sx.B.sym ((ByteArray.toList (Go.Sx.bytesOf (List.take (Int.toNat n) (List.drop (0 : Nat) ys4)))) == (ByteArray.toList (Go.Sx.bytesOf (List.take (Int.toNat n) (List.drop (0 : Nat) ys7))))))) (Go.Sx.memL [((0 : Nat), (Go.Sx.Reg.mk Bool.true (Go.Sx.Ct.ints Go.IntKind.u32 Go.Sx.kL))), ((17 : Nat), (Go.Sx.Reg.mk Bool.true (Go.Sx.Ct.ints Go.IntKind.u8 dst))), ((777 : Nat), (Go.Sx.Reg.mk Bool.false (Go.Sx.Ct.ints Go.IntKind.u8 ys4))), ((881 : Nat), (Go.Sx.Reg.mk Bool.false (Go.Sx.Ct.ints Go.IntKind.u8 ys7)))]))))))))))))))))))))))))))))))))))))) := by kernel_rfl
theorem vc_l1d (msg : List Int) (l c : Nat) (n : Int) (K : SV → Mem → Prop) : (execF cxL1 u0 Tryd.f3 64 [.slice 9 (.lit 0) (.sym l) (.sym c), .val (.slice none 0 0), .int .i64 (.sym n)] (memL [(0, ⟨true, .ints .u32 kL⟩), (9, ⟨true, .ints .u8 msg⟩)]) K) =
  ((∀ (x0 : Int), ((x0 = ((l : Nat) : Int)) → ((((decide (x0 > (2147483647 : Int))) = Bool.true) → (K (Go.Sx.SV.bool (Go.Sx.B.lit Bool.true)) (Go.Sx.memL [((0 : Nat), (Go.Sx.Reg.mk Bool.true (Go.Sx.Ct.ints Go.IntKind.u32 Go.Sx.kL))), ((9 : Nat), (Go.Sx.Reg.mk Bool.true (Go.Sx.Ct.ints Go.IntKind.u8 msg)))]))) ∧
 (((decide (x0 > (2147483647 : Int))) = Bool.false) → (∀ (x1 : Int), ((x1 = ((l : Nat) : Int)) → ((((decide (x1 > (4096 : Int))) = Bool.true) → (K (Go.Sx.SV.bool (Go.Sx.B.lit Bool.true)) (Go.Sx.memL [((0 : Nat), (Go.Sx.Reg.mk Bool.true (Go.Sx.Ct.ints Go.IntKind.u32 Go.Sx.kL))), ((9 : Nat), (Go.Sx.Reg.mk Bool.true (Go.Sx.Ct.ints Go.IntKind.u8 msg)))]))) ∧
 (((decide (x1 > (4096 : Int))) = Bool.false) → (K (Go.Sx.SV.bool (Go.Sx.B.lit Bool.true)) (Go.Sx.memL [((0 : Nat), (Go.Sx.Reg.mk Bool.true (Go.Sx.Ct.ints Go.IntKind.u32 Go.Sx.kL))), ((9 : Nat), (Go.Sx.Reg.mk Bool.true (Go.Sx.Ct.ints Go.IntKind.u8 msg)))]))))))))))) := by kernel_rfl
theorem vc_l1e (n : Int) (K : SV → Mem → Prop) : (execF cxL1 u0 Tryd.f3 64 [.val (.slice none 0 0), .val (.slice none 0 0), .int .i64 (.sym n)] (memL [(0, ⟨true, .ints .u32 kL⟩)]) K) =
  ((K (Go.Sx.SV.bool (Go.Sx.B.lit Bool.true)) (Go.Sx.memL [((0 : Nat), (Go.Sx.Reg.mk Bool.true (Go.Sx.Ct.ints Go.IntKind.u32 Go.Sx.kL)))]))) := by kernel_rfl
theorem vc_l2 (msg dst : List Int) (l c l2 c2 : Nat) (n : Int) (K : SV → Mem → Prop) : (execF cxL1 u0 Tryd.f4 64 [.slice 9 (.lit 0) (.sym l) (.sym c), .slice 17 (.lit 0) (.sym l2) (.sym c2), .int .i64 (.sym n)] (memL [(0, ⟨true, .ints .u32 kL⟩), (9, ⟨true, .ints .u8 msg⟩), (17, ⟨true, .ints .u8 dst⟩)]) K) =
  ((∀ (x0 : Int), ((x0 = ((l : Nat) : Int)) → ((((decide (x0 > (2147483647 : Int))) = Bool.true) → (K (Go.Sx.SV.bool (Go.Sx.B.lit Bool.true)) (Go.Sx.memL [((0 : Nat), (Go.Sx.Reg.mk Bool.true (Go.Sx.Ct.ints Go.IntKind.u32 Go.Sx.kL))), ((9 : Nat), (Go.Sx.Reg.mk Bool.true (Go.Sx.Ct.ints Go.IntKind.u8 msg))), ((17 : Nat), (Go.Sx.Reg.mk Bool.true (Go.Sx.Ct.ints Go.IntKind.u8 dst)))]))) ∧
 (((decide (x0 > (2147483647 : Int))) = Bool.false) → (∀ (x1 : Int), ((x1 = ((l2 : Nat) : Int)) → ((((decide (x1 > (2147483647 : Int))) = Bool.true) → (K (Go.Sx.SV.bool (Go.Sx.B.lit Bool.true)) (Go.Sx.memL [((0 : Nat), (Go.Sx.Reg.mk Bool.true (Go.Sx.Ct.ints Go.IntKind.u32 Go.Sx.kL))), ((9 : Nat), (Go.Sx.Reg.mk Bool.true (Go.Sx.Ct.ints Go.IntKind.u8 msg))), ((17 : Nat), (Go.Sx.Reg.mk Bool.true (Go.Sx.Ct.ints Go.IntKind.u8 dst)))]))) ∧
 (((decide (x1 > (2147483647 : Int))) = Bool.false) → (∀ (x2 : Int), ((x2 = ((l : Nat) : Int)) → ((((decide (x2 > (4096 : Int))) = Bool.true) → (K (Go.Sx.SV.bool (Go.Sx.B.lit Bool.true)) (Go.Sx.memL [((0 : Nat), (Go.Sx.Reg.mk Bool.true (Go.Sx.Ct.ints Go.IntKind.u32 Go.Sx.kL))), ((9 : Nat), (Go.Sx.Reg.mk Bool.true (Go.Sx.Ct.ints Go.IntKind.u8 msg))), ((17 : Nat), (Go.Sx.Reg.mk Bool.true (Go.Sx.Ct.ints Go.IntKind.u8 dst)))]))) ∧
 (((decide (x2 > (4096 : Int))) = Bool.false) → (∀ (x3 : Int), ((x3 = ((l2 : Nat) : Int)) → ((((x3 == (0 : Int)) = Bool.true) → (K (Go.Sx.SV.bool (Go.Sx.B.lit Bool.true)) (Go.Sx.memL [((0 : Nat), (Go.Sx.Reg.mk Bool.true (Go.Sx.Ct.ints Go.IntKind.u32 Go.Sx.kL))), ((9 : Nat), (Go.Sx.Reg.mk Bool.true (Go.Sx.Ct.ints Go.IntKind.u8 msg))), ((17 : Nat), (Go.Sx.Reg.mk Bool.true (Go.Sx.Ct.ints Go.IntKind.u8 dst)))]))) ∧
 (((x3 == (0 : Int)) = Bool.false) → (∀ (x4 : Int), ((x4 = ((l2 : Nat) : Int)) → ((((decide (x4 > (1000 : Int))) = Bool.true) → (K (Go.Sx.SV.bool (Go.Sx.B.lit Bool.true)) (Go.Sx.memL [((0 : Nat), (Go.Sx.Reg.mk Bool.true (Go.Sx.Ct.ints Go.IntKind.u32 Go.Sx.kL))), ((9 : Nat), (Go.Sx.Reg.mk Bool.true (Go.Sx.Ct.ints Go.IntKind.u8 msg))), ((17 : Nat), (Go.Sx.Reg.mk Bool.true (Go.Sx.Ct.ints Go.IntKind.u8 dst)))]))) ∧
 (((decide (x4 > (1000 : Int))) = Bool.false) → ((((decide (n < (32 : Int))) = Bool.true) → (K (Go.Sx.SV.bool (Go.Sx.B.lit Bool.true)) (Go.Sx.memL [((0 : Nat), (Go.Sx.Reg.mk Bool.true (Go.Sx.Ct.ints Go.IntKind.u32 Go.Sx.kL))), ((9 : Nat), (Go.Sx.Reg.mk Bool.true (Go.Sx.Ct.ints Go.IntKind.u8 msg))), ((17 : Nat), (Go.Sx.Reg.mk Bool.true (Go.Sx.Ct.ints Go.IntKind.u8 dst)))]))) ∧
 (((decide (n < (32 : Int))) = Bool.false) → ((((decide (n > (20000 : Int))) = Bool.true) → (K (Go.Sx.SV.bool (Go.Sx.B.lit Bool.true)) (Go.Sx.memL [((0 : Nat), (Go.Sx.Reg.mk Bool.true (Go.Sx.Ct.ints Go.IntKind.u32 Go.Sx.kL))), ((9 : Nat), (Go.Sx.Reg.mk Bool.true (Go.Sx.Ct.ints Go.IntKind.u8 msg))), ((17 : Nat), (Go.Sx.Reg.mk Bool.true (Go.Sx.Ct.ints Go.IntKind.u8 dst)))]))) ∧
 (((decide (n > (20000 : Int))) = Bool.false) → (∀ (x5 : Int), ((x5 = ((l2 : Nat) : Int)) → ((((decide (x5 ≤ (255 : Int))) = Bool.true) → ((((decide (n ≤ (8160 : Int))) = Bool.true) → (K (Go.Sx.SV.bool (Go.Sx.B.lit Bool.true)) (Go.Sx.memL [((0 : Nat), (Go.Sx.Reg.mk Bool.true (Go.Sx.Ct.ints Go.IntKind.u32 Go.Sx.kL))), ((9 : Nat), (Go.Sx.Reg.mk Bool.true (Go.Sx.Ct.ints Go.IntKind.u8 msg))), ((17 : Nat), (Go.Sx.Reg.mk Bool.true (Go.Sx.Ct.ints Go.IntKind.u8 dst)))]))) ∧
 (((decide (n ≤ (8160 : Int))) = Bool.false) → (((((0 : Nat) + (l * (1 : Nat))) ≤ (List.length msg)) ∧
 (((0 : Nat) + (l2 * (1 : Nat))) ≤ (List.length dst))) ∧
 (((Go.Sx.kL = Go.Sx.kL) ∧
 (((List.length (List.take (l * (1 : Nat)) (List.drop (0 : Nat) msg))) = l) ∧
 (((List.length (List.take (l2 * (1 : Nat)) (List.drop (0 : Nat) dst))) = l2) ∧
 ((Go.Sx.Bytes (List.take (l * (1 : Nat)) (List.drop (0 : Nat) msg))) ∧
 ((Go.Sx.Bytes (List.take (l2 * (1 : Nat)) (List.drop (0 : Nat) dst))) ∧
 ((l ≤ (65536 : Nat)) ∧
 ((l2 ≤ (65536 : Nat)) ∧
 (((32 : Int) ≤ n) ∧
 (n ≤ (20000 : Int)))))))))) ∧
 ((((n > (8160 : Int)) ∨
 ((List.length (List.take (l2 * (1 : Nat)) (List.drop (0 : Nat) dst))) > (255 : Nat))) → (((((0 : Nat) + (l * (1 : Nat))) ≤ (List.length msg)) ∧
 ((1 : Nat) ≤ (1 : Nat))) ∧
 (((Go.Sx.kL = Go.Sx.kL) ∧
 (((List.length (List.take (l * (1 : Nat)) (List.drop (0 : Nat) msg))) = l) ∧
 (((1 : Nat) = (1 : Nat)) ∧
 ((Go.Sx.Bytes (List.take (l * (1 : Nat)) (List.drop (0 : Nat) msg))) ∧
 ((Go.Sx.Bytes (List.take (1 : Nat) (List.drop (0 : Nat) [(1 : Int)]))) ∧
 ((l ≤ (65536 : Nat)) ∧
 (((1 : Nat) ≤ (65536 : Nat)) ∧
 (((32 : Int) ≤ (32 : Int)) ∧
 ((32 : Int) ≤ (20000 : Int)))))))))) ∧
 (((((32 : Int) > (8160 : Int)) ∨
 ((1 : Nat) > (255 : Nat))) → (K (Go.Sx.SV.bool (Go.Sx.B.lit Bool.false)) (Go.Sx.memL [((0 : Nat), (Go.Sx.Reg.mk Bool.true (Go.Sx.Ct.ints Go.IntKind.u32 Go.Sx.kL))), ((9 : Nat), (Go.Sx.Reg.mk Bool.true (Go.Sx.Ct.ints Go.IntKind.u8 msg))), ((17 : Nat), (Go.Sx.Reg.mk Bool.true (Go.Sx.Ct.ints Go.IntKind.u8 dst))), ((905 : Nat), (Go.Sx.Reg.mk Bool.false (Go.Sx.Ct.cells [(Go.Sx.SV.int Go.IntKind.u8 (Go.Sx.A.lit (1 : Int)))])))]))) ∧
 (((32 : Int) ≤ (8160 : Int)) → (((1 : Nat) ≤ (255 : Nat)) → (∀ (ys6 : (List Int)), ((ys6 = (Go.Sx.expand (List.take (l * (1 : Nat)) (List.drop (0 : Nat) msg)) (List.take (1 : Nat) (List.drop (0 : Nat) [(1 : Int)])) (32 : Nat))) → (∀ (ys7 : (List Int)), ((ys7 = ys6) → (K (Go.Sx.SV.bool (Go.Sx.B.lit Bool.true)) (Go.Sx.memL [((0 : Nat), (Go.Sx.Reg.mk Bool.true (Go.Sx.Ct.ints Go.IntKind.u32 Go.Sx.kL))), ((9 : Nat), (Go.Sx.Reg.mk Bool.true (Go.Sx.Ct.ints Go.IntKind.u8 msg))), ((17 : Nat), (Go.Sx.Reg.mk Bool.true (Go.Sx.Ct.ints Go.IntKind.u8 dst))), ((905 : Nat), (Go.Sx.Reg.mk Bool.false (Go.Sx.Ct.cells [(Go.Sx.SV.int Go.IntKind.u8 (Go.Sx.A.lit (1 : Int)))]))), ((913 : Nat), (Go.Sx.Reg.mk Bool.false (Go.Sx.Ct.ints Go.IntKind.u8 ys7)))])))))))))))) ∧
 ((n ≤ (8160 : Int)) → (((List.length (List.take (l2 * (1 : Nat)) (List.drop (0 : Nat) dst))) ≤ (255 : Nat)) → (∀ (ys8 : (List Int)), ((ys8 = (Go.Sx.expand (List.take (l * (1 : Nat)) (List.drop (0 : Nat) msg)) (List.take (l2 * (1 : Nat)) (List.drop (0 : Nat) dst)) (Int.toNat n))) → (∀ (ys9 : (List Int)), ((ys9 = ys8) → (((((0 : Nat) + (l * (1 : Nat))) ≤ (List.length msg)) ∧
 ((1 : Nat) ≤ (1 : Nat))) ∧
 (((Go.Sx.kL = Go.Sx.kL) ∧
 (((List.length (List.take (l * (1 : Nat)) (List.drop (0 : Nat) msg))) = l) ∧
 (((1 : Nat) = (1 : Nat)) ∧
 ((Go.Sx.Bytes (List.take (l * (1 : Nat)) (List.drop (0 : Nat) msg))) ∧
 ((Go.Sx.Bytes (List.take (1 : Nat) (List.drop (0 : Nat) [(1 : Int)]))) ∧
 ((l ≤ (65536 : Nat)) ∧
 (((1 : Nat) ≤ (65536 : Nat)) ∧
 (((32 : Int) ≤ (32 : Int)) ∧
 ((32 : Int) ≤ (20000 : Int)))))))))) ∧
 (((((32 : Int) > (8160 : Int)) ∨
 ((1 : Nat) > (255 : Nat))) → (K (Go.Sx.SV.bool (Go.Sx.B.lit Bool.false)) (Go.Sx.memL [((0 : Nat), (Go.Sx.Reg.mk Bool.true (Go.Sx.Ct.ints Go.IntKind.u32 Go.Sx.kL))), ((9 : Nat), (Go.Sx.Reg.mk Bool.true (Go.Sx.Ct.ints Go.IntKind.u8 msg))), ((17 : Nat), (Go.Sx.Reg.mk Bool.true (Go.Sx.Ct.ints Go.IntKind.u8 dst))), ((849 : Nat), (Go.Sx.Reg.mk Bool.false (Go.Sx.Ct.ints Go.IntKind.u8 ys9))), ((905 : Nat), (Go.Sx.Reg.mk Bool.false (Go.Sx.Ct.cells [(Go.Sx.SV.int Go.IntKind.u8 (Go.Sx.A.lit (1 : Int)))])))]))) ∧
 (((32 : Int) ≤ (8160 : Int)) → (((1 : Nat) ≤ (255 : Nat)) → (∀ (ys10 : (List Int)), ((ys10 = (Go.Sx.expand (List.take (l * (1 : Nat)) (List.drop (0 : Nat) msg)) (List.take (1 : Nat) (List.drop (0 : Nat) [(1 : Int)])) (32 : Nat))) → (∀ (ys11 : (List Int)), ((ys11 = ys10) → (K (Go.Sx.SV.bool (Go.Sx.B.lit Bool.false)) (Go.Sx.memL [((0 : Nat), (Go.Sx.Reg.mk Bool.true (Go.Sx.Ct.ints Go.IntKind.u32 Go.Sx.kL))), ((9 : Nat), (Go.Sx.Reg.mk Bool.true (Go.Sx.Ct.ints Go.IntKind.u8 msg))), ((17 : Nat), (Go.Sx.Reg.mk Bool.true (Go.Sx.Ct.ints Go.IntKind.u8 dst))), ((849 : Nat), (Go.Sx.Reg.mk Bool.false (Go.Sx.Ct.ints Go.IntKind.u8 ys9))), ((905 : Nat), (Go.Sx.Reg.mk Bool.false (Go.Sx.Ct.cells [(Go.Sx.SV.int Go.IntKind.u8 (Go.Sx.A.lit (1 : Int)))]))), ((913 : Nat), (Go.Sx.Reg.mk Bool.false (Go.Sx.Ct.ints Go.IntKind.u8 ys11)))]))))))))))))))))))))))) ∧
 (((decide (x5 ≤ (255 : Int))) = Bool.false) → (((((0 : Nat) + (l * (1 : Nat))) ≤ (List.length msg)) ∧
 (((0 : Nat) + (l2 * (1 : Nat))) ≤ (List.length dst))) ∧
 (((Go.Sx.kL = Go.Sx.kL) ∧
 (((List.length (List.take (l * (1 : Nat)) (List.drop (0 : Nat) msg))) = l) ∧
 (((List.length (List.take (l2 * (1 : Nat)) (List.drop (0 : Nat) dst))) = l2) ∧
 ((Go.Sx.Bytes (List.take (l * (1 : Nat)) (List.drop (0 : Nat) msg))) ∧
 ((Go.Sx.Bytes (List.take (l2 * (1 : Nat)) (List.drop (0 : Nat) dst))) ∧
 ((l ≤ (65536 : Nat)) ∧
 ((l2 ≤ (65536 : Nat)) ∧
 (((32 : Int) ≤ n) ∧
 (n ≤ (20000 : Int)))))))))) ∧
 ((((n > (8160 : Int)) ∨
 ((List.length (List.take (l2 * (1 : Nat)) (List.drop (0 : Nat) dst))) > (255 : Nat))) → (((((0 : Nat) + (l * (1 : Nat))) ≤ (List.length msg)) ∧
 ((1 : Nat) ≤ (1 : Nat))) ∧
 (((Go.Sx.kL = Go.Sx.kL) ∧
 (((List.length (List.take (l * (1 : Nat)) (List.drop (0 : Nat) msg))) = l) ∧
 (((1 : Nat) = (1 : Nat)) ∧
 ((Go.Sx.Bytes (List.take (l * (1 : Nat)) (List.drop (0 : Nat) msg))) ∧
 ((Go.Sx.Bytes (List.take (1 : Nat) (List.drop (0 : Nat) [(1 : Int)]))) ∧
 ((l ≤ (65536 : Nat)) ∧
 (((1 : Nat) ≤ (65536 : Nat)) ∧
 (((32 : Int) ≤ (32 : Int)) ∧
 ((32 : Int) ≤ (20000 : Int)))))))))) ∧
 (((((32 : Int) > (8160 : Int)) ∨
 ((1 : Nat) > (255 : Nat))) → (K (Go.Sx.SV.bool (Go.Sx.B.lit Bool.false)) (Go.Sx.memL [((0 : Nat), (Go.Sx.Reg.mk Bool.true (Go.Sx.Ct.ints Go.IntKind.u32 Go.Sx.kL))), ((9 : Nat), (Go.Sx.Reg.mk Bool.true (Go.Sx.Ct.ints Go.IntKind.u8 msg))), ((17 : Nat), (Go.Sx.Reg.mk Bool.true (Go.Sx.Ct.ints Go.IntKind.u8 dst))), ((905 : Nat), (Go.Sx.Reg.mk Bool.false (Go.Sx.Ct.cells [(Go.Sx.SV.int Go.IntKind.u8 (Go.Sx.A.lit (1 : Int)))])))]))) ∧
 (((32 : Int) ≤ (8160 : Int)) → (((1 : Nat) ≤ (255 : Nat)) → (∀ (ys12 : (List Int)), ((ys12 = (Go.Sx.expand (List.take (l * (1 : Nat)) (List.drop (0 : Nat) msg)) (List.take (1 : Nat) (List.drop (0 : Nat) [(1 : Int)])) (32 : Nat))) → (∀ (ys13 : (List Int)), ((ys13 = ys12) → (K (Go.Sx.SV.bool (Go.Sx.B.lit Bool.true)) (Go.Sx.memL [((0 : Nat), (Go.Sx.Reg.mk Bool.true (Go.Sx.Ct.ints Go.IntKind.u32 Go.Sx.kL))), ((9 : Nat), (Go.Sx.Reg.mk Bool.true (Go.Sx.Ct.ints Go.IntKind.u8 msg))), ((17 : Nat), (Go.Sx.Reg.mk Bool.true (Go.Sx.Ct.ints Go.IntKind.u8 dst))), ((905 : Nat), (Go.Sx.Reg.mk Bool.false (Go.Sx.Ct.cells [(Go.Sx.SV.int Go.IntKind.u8 (Go.Sx.A.lit (1 : Int)))]))), ((913 : Nat), (Go.Sx.Reg.mk Bool.false (Go.Sx.Ct.ints Go.IntKind.u8 ys13)))])))))))))))) ∧
 ((n ≤ (8160 : Int)) → (((List.length (List.take (l2 * (1 : Nat)) (List.drop (0 : Nat) dst))) ≤ (255 : Nat)) → (∀ (ys14 : (List Int)), ((ys14 = (Go.Sx.expand (List.take (l * (1 : Nat)) (List.drop (0 : Nat) msg)) (List.take (l2 * (1 : Nat)) (List.drop (0 : Nat) dst)) (Int.toNat n))) → (∀ (ys15 : (List Int)), ((ys15 = ys14) → (((((0 : Nat) + (l * (1 : Nat))) ≤ (List.length msg)) ∧
 ((1 : Nat) ≤ (1 : Nat))) ∧
 (((Go.Sx.kL = Go.Sx.kL) ∧
 (((List.length (List.take (l * (1 : Nat)) (List.drop (0 : Nat) msg))) = l) ∧
 (((1 : Nat) = (1 : Nat)) ∧
 ((Go.Sx.Bytes (List.take (l * (1 : Nat)) (List.drop (0 : Nat) msg))) ∧
 ((Go.Sx.Bytes (List.take (1 : Nat) (List.drop (0 : Nat) [(1 : Int)]))) ∧
 ((l ≤ (65536 : Nat)) ∧
 (((1 : Nat) ≤ (65536 : Nat)) ∧
 (((32 : Int) ≤ (32 : Int)) ∧
 ((32 : Int) ≤ (20000 : Int)))))))))) ∧
 (((((32 : Int) > (8160 : Int)) ∨
 ((1 : Nat) > (255 : Nat))) → (K (Go.Sx.SV.bool (Go.Sx.B.lit Bool.false)) (Go.Sx.memL [((0 : Nat), (Go.Sx.Reg.mk Bool.true (Go.Sx.Ct.ints Go.IntKind.u32 Go.Sx.kL))), ((9 : Nat), (Go.Sx.Reg.mk Bool.true (Go.Sx.Ct.ints Go.IntKind.u8 msg))), ((17 : Nat), (Go.Sx.Reg.mk Bool.true (Go.Sx.Ct.ints Go.IntKind.u8 dst))), ((849 : Nat), (Go.Sx.Reg.mk Bool.false (Go.Sx.Ct.ints Go.IntKind.u8 ys15))), ((905 : Nat), (Go.Sx.Reg.mk Bool.false (Go.Sx.Ct.cells [(Go.Sx.SV.int Go.IntKind.u8 (Go.Sx.A.lit (1 : Int)))])))]))) ∧
 (((32 : Int) ≤ (8160 : Int)) → (((1 : Nat) ≤ (255 : Nat)) → (∀ (ys16 : (List Int)), ((ys16 = (Go.Sx.expand (List.take (l * (1 : Nat)) (List.drop (0 : Nat) msg)) (List.take (1 : Nat) (List.drop (0 : Nat) [(1 : Int)])) (32 : Nat))) → (∀ (ys17 : (List Int)), ((ys17 = ys16) → (K (Go.Sx.SV.bool (Go.Sx.B.lit Bool.false)) (Go.Sx.memL [((0 : Nat), (Go.Sx.Reg.mk Bool.true (Go.Sx.Ct.ints Go.IntKind.u32 Go.Sx.kL))), ((9 : Nat), (Go.Sx.Reg.mk Bool.true (Go.Sx.Ct.ints Go.IntKind.u8 msg))), ((17 : Nat), (Go.Sx.Reg.mk Bool.true (Go.Sx.Ct.ints Go.IntKind.u8 dst))), ((849 : Nat), (Go.Sx.Reg.mk Bool.false (Go.Sx.Ct.ints Go.IntKind.u8 ys15))), ((905 : Nat), (Go.Sx.Reg.mk Bool.false (Go.Sx.Ct.cells [(Go.Sx.SV.int Go.IntKind.u8 (Go.Sx.A.lit (1 : Int)))]))), ((913 : Nat), (Go.Sx.Reg.mk Bool.false (Go.Sx.Ct.ints Go.IntKind.u8 ys17)))]))))))))))))))))))))))))))))))))))))))))))))))))) := by kernel_rfl
theorem vc_l2n (dst : List Int) (l2 c2 : Nat) (n : Int) (K : SV → Mem → Prop) : (execF cxL1 u0 Tryd.f4 64 [.val (.slice none 0 0), .slice 17 (.lit 0) (.sym l2) (.sym c2), .int .i64 (.sym n)] (memL [(0, ⟨true, .ints .u32 kL⟩), (17, ⟨true, .ints .u8 dst⟩)]) K) =
  ((∀ (x0 : Int), ((x0 = ((l2 : Nat) : Int)) → ((((decide (x0 > (2147483647 : Int))) = Bool.true) → (K (Go.Sx.SV.bool (Go.Sx.B.lit Bool.true)) (Go.Sx.memL [((0 : Nat), (Go.Sx.Reg.mk Bool.true (Go.Sx.Ct.ints Go.IntKind.u32 Go.Sx.kL))), ((17 : Nat), (Go.Sx.Reg.mk Bool.true (Go.Sx.Ct.ints Go.IntKind.u8 dst)))]))) ∧
 (((decide (x0 > (2147483647 : Int))) = Bool.false) → (∀ (x1 : Int), ((x1 = ((l2 : Nat) : Int)) → ((((x1 == (0 : Int)) = Bool.true) → (K (Go.Sx.SV.bool (Go.Sx.B.lit Bool.true)) (Go.Sx.memL [((0 : Nat), (Go.Sx.Reg.mk Bool.true (Go.Sx.Ct.ints Go.IntKind.u32 Go.Sx.kL))), ((17 : Nat), (Go.Sx.Reg.mk Bool.true (Go.Sx.Ct.ints Go.IntKind.u8 dst)))]))) ∧
 (((x1 == (0 : Int)) = Bool.false) → (∀ (x2 : Int), ((x2 = ((l2 : Nat) : Int)) → ((((decide (x2 > (1000 : Int))) = Bool.true) → (K (Go.Sx.SV.bool (Go.Sx.B.lit Bool.true)) (Go.Sx.memL [((0 : Nat), (Go.Sx.Reg.mk Bool.true (Go.Sx.Ct.ints Go.IntKind.u32 Go.Sx.kL))), ((17 : Nat), (Go.Sx.Reg.mk Bool.true (Go.Sx.Ct.ints Go.IntKind.u8 dst)))]))) ∧
 (((decide (x2 > (1000 : Int))) = Bool.false) → ((((decide (n < (32 : Int))) = Bool.true) → (K (Go.Sx.SV.bool (Go.Sx.B.lit Bool.true)) (Go.Sx.memL [((0 : Nat), (Go.Sx.Reg.mk Bool.true (Go.Sx.Ct.ints Go.IntKind.u32 Go.Sx.kL))), ((17 : Nat), (Go.Sx.Reg.mk Bool.true (Go.Sx.Ct.ints Go.IntKind.u8 dst)))]))) ∧
 (((decide (n < (32 : Int))) = Bool.false) → ((((decide (n > (20000 : Int))) = Bool.true) → (K (Go.Sx.SV.bool (Go.Sx.B.lit Bool.true)) (Go.Sx.memL [((0 : Nat), (Go.Sx.Reg.mk Bool.true (Go.Sx.Ct.ints Go.IntKind.u32 Go.Sx.kL))), ((17 : Nat), (Go.Sx.Reg.mk Bool.true (Go.Sx.Ct.ints Go.IntKind.u8 dst)))]))) ∧
 (((decide (n > (20000 : Int))) = Bool.false) → (∀ (x3 : Int), ((x3 = ((l2 : Nat) : Int)) → ((((decide (x3 ≤ (255 : Int))) = Bool.true) → ((((decide (n ≤ (8160 : Int))) = Bool.true) → (K (Go.Sx.SV.bool (Go.Sx.B.lit Bool.true)) (Go.Sx.memL [((0 : Nat), (Go.Sx.Reg.mk Bool.true (Go.Sx.Ct.ints Go.IntKind.u32 Go.Sx.kL))), ((17 : Nat), (Go.Sx.Reg.mk Bool.true (Go.Sx.Ct.ints Go.IntKind.u8 dst)))]))) ∧
 (((decide (n ≤ (8160 : Int))) = Bool.false) → ((((0 : Nat) + (l2 * (1 : Nat))) ≤ (List.length dst)) ∧
 (((Go.Sx.kL = Go.Sx.kL) ∧
 (((List.length (List.take (l2 * (1 : Nat)) (List.drop (0 : Nat) dst))) = l2) ∧
 ((Go.Sx.Bytes (List.take (l2 * (1 : Nat)) (List.drop (0 : Nat) dst))) ∧
 ((l2 ≤ (65536 : Nat)) ∧
 (((32 : Int) ≤ n) ∧
 (n ≤ (20000 : Int))))))) ∧
 ((((n > (8160 : Int)) ∨
 ((List.length (List.take (l2 * (1 : Nat)) (List.drop (0 : Nat) dst))) > (255 : Nat))) → (((1 : Nat) ≤ (1 : Nat)) ∧
 (((Go.Sx.kL = Go.Sx.kL) ∧
 (((1 : Nat) = (1 : Nat)) ∧
 ((Go.Sx.Bytes (List.take (1 : Nat) (List.drop (0 : Nat) [(1 : Int)]))) ∧
 (((1 : Nat) ≤ (65536 : Nat)) ∧
 (((32 : Int) ≤ (32 : Int)) ∧
 ((32 : Int) ≤ (20000 : Int))))))) ∧
 (((((32 : Int) > (8160 : Int)) ∨
 ((1 : Nat) > (255 : Nat))) → (K (Go.Sx.SV.bool (Go.Sx.B.lit Bool.false)) (Go.Sx.memL [((0 : Nat), (Go.Sx.Reg.mk Bool.true (Go.Sx.Ct.ints Go.IntKind.u32 Go.Sx.kL))), ((17 : Nat), (Go.Sx.Reg.mk Bool.true (Go.Sx.Ct.ints Go.IntKind.u8 dst))), ((905 : Nat), (Go.Sx.Reg.mk Bool.false (Go.Sx.Ct.cells [(Go.Sx.SV.int Go.IntKind.u8 (Go.Sx.A.lit (1 : Int)))])))]))) ∧
 (((32 : Int) ≤ (8160 : Int)) → (((1 : Nat) ≤ (255 : Nat)) → (∀ (ys4 : (List Int)), ((ys4 = (Go.Sx.expand [] (List.take (1 : Nat) (List.drop (0 : Nat) [(1 : Int)])) (32 : Nat))) → (∀ (ys5 : (List Int)), ((ys5 = ys4) → (K (Go.Sx.SV.bool (Go.Sx.B.lit Bool.true)) (Go.Sx.memL [((0 : Nat), (Go.Sx.Reg.mk Bool.true (Go.Sx.Ct.ints Go.IntKind.u32 Go.Sx.kL))), ((17 : Nat), (Go.Sx.Reg.mk Bool.true (Go.Sx.Ct.ints Go.IntKind.u8 dst))), ((905 : Nat), (Go.Sx.Reg.mk Bool.false (Go.Sx.Ct.cells [(Go.Sx.SV.int Go.IntKind.u8 (Go.Sx.A.lit (1 : Int)))]))), ((913 : Nat), (Go.Sx.Reg.mk Bool.false (Go.Sx.Ct.ints Go.IntKind.u8 ys5)))])))))))))))) ∧
 ((n ≤ (8160 : Int)) → (((List.length (List.take (l2 * (1 : Nat)) (List.drop (0 : Nat) dst))) ≤ (255 : Nat)) → (∀ (ys6 : (List Int)), ((ys6 = (Go.Sx.expand [] (List.take (l2 * (1 : Nat)) (List.drop (0 : Nat) dst)) (Int.toNat n))) → (∀ (ys7 : (List Int)), ((ys7 = ys6) → (((1 : Nat) ≤ (1 : Nat)) ∧
 (((Go.Sx.kL = Go.Sx.kL) ∧
 (((1 : Nat) = (1 : Nat)) ∧
 ((Go.Sx.Bytes (List.take (1 : Nat) (List.drop (0 : Nat) [(1 : Int)]))) ∧
 (((1 : Nat) ≤ (65536 : Nat)) ∧
 (((32 : Int) ≤ (32 : Int)) ∧
 ((32 : Int) ≤ (20000 : Int))))))) ∧
 (((((32 : Int) > (8160 : Int)) ∨
 ((1 : Nat) > (255 : Nat))) → (K (Go.Sx.SV.bool (Go.Sx.B.lit Bool.false)) (Go.Sx.memL [((0 : Nat), (Go.Sx.Reg.mk Bool.true (Go.Sx.Ct.ints Go.IntKind.u32 Go.Sx.kL))), ((17 : Nat), (Go.Sx.Reg.mk Bool.true (Go.Sx.Ct.ints Go.IntKind.u8 dst))), ((849 : Nat), (Go.Sx.Reg.mk Bool.false (Go.Sx.Ct.ints Go.IntKind.u8 ys7))), ((905 : Nat), (Go.Sx.Reg.mk Bool.false (Go.Sx.Ct.cells [(Go.Sx.SV.int Go.IntKind.u8 (Go.Sx.A.lit (1 : Int)))])))]))) ∧
 (((32 : Int) ≤ (8160 : Int)) → (((1 : Nat) ≤ (255 : Nat)) → (∀ (ys8 : (List Int)), ((ys8 = (Go.Sx.expand [] (List.take (1 : Nat) (List.drop (0 : Nat) [(1 : Int)])) (32 : Nat))) → (∀ (ys9 : (List Int)), ((ys9 = ys8) → (K (Go.Sx.SV.bool (Go.Sx.B.lit Bool.false)) (Go.Sx.memL [((0 : Nat), (Go.Sx.Reg.mk Bool.true (Go.Sx.Ct.ints Go.IntKind.u32 Go.Sx.kL))), ((17 : Nat), (Go.Sx.Reg.mk Bool.true (Go.Sx.Ct.ints Go.IntKind.u8 dst))), ((849 : Nat), (Go.Sx.Reg.mk Bool.false (Go.Sx.Ct.ints Go.IntKind.u8 ys7))), ((905 : Nat), (Go.Sx.Reg.mk Bool.false (Go.Sx.Ct.cells [(Go.Sx.SV.int Go.IntKind.u8 (Go.Sx.A.lit (1 : Int)))]))), ((913 : Nat), (Go.Sx.Reg.mk Bool.false (Go.Sx.Ct.ints Go.IntKind.u8 ys9)))]))))))))))))))))))))))) ∧
 (((decide (x3 ≤ (255 : Int))) = Bool.false) → ((((0 : Nat) + (l2 * (1 : Nat))) ≤ (List.length dst)) ∧
 (((Go.Sx.kL = Go.Sx.kL) ∧
 (((List.length (List.take (l2 * (1 : Nat)) (List.drop (0 : Nat) dst))) = l2) ∧
 ((Go.Sx.Bytes (List.take (l2 * (1 : Nat)) (List.drop (0 : Nat) dst))) ∧
 ((l2 ≤ (65536 : Nat)) ∧
 (((32 : Int) ≤ n) ∧
 (n ≤ (20000 : Int))))))) ∧
 ((((n > (8160 : Int)) ∨
 ((List.length (List.take (l2 * (1 : Nat)) (List.drop (0 : Nat) dst))) > (255 : Nat))) → (((1 : Nat) ≤ (1 : Nat)) ∧
 (((Go.Sx.kL = Go.Sx.kL) ∧
 (((1 : Nat) = (1 : Nat)) ∧
 ((Go.Sx.Bytes (List.take (1 : Nat) (List.drop (0 : Nat) [(1 : Int)]))) ∧
 (((1 : Nat) ≤ (65536 : Nat)) ∧
 (((32 : Int) ≤ (32 : Int)) ∧
 ((32 : Int) ≤ (20000 : Int))))))) ∧
 (((((32 : Int) > (8160 : Int)) ∨
 ((1 : Nat) > (255 : Nat))) → (K (Go.Sx.SV.bool (Go.Sx.B.lit Bool.false)) (Go.Sx.memL [((0 : Nat), (Go.Sx.Reg.mk Bool.true (Go.Sx.Ct.ints Go.IntKind.u32 Go.Sx.kL))), ((17 : Nat), (Go.Sx.Reg.mk Bool.true (Go.Sx.Ct.ints Go.IntKind.u8 dst))), ((905 : Nat), (Go.Sx.Reg.mk Bool.false (Go.Sx.Ct.cells [(Go.Sx.SV.int Go.IntKind.u8 (Go.Sx.A.lit (1 : Int)))])))]))) ∧
 (((32 : Int) ≤ (8160 : Int)) → (((1 : Nat) ≤ (255 : Nat)) → (∀ (ys10 : (List Int)), ((ys10 = (Go.Sx.expand [] (List.take (1 : Nat) (List.drop (0 : Nat) [(1 : Int)])) (32 : Nat))) → (∀ (ys11 : (List Int)), ((ys11 = ys10) → (K (Go.Sx.SV.bool (Go.Sx.B.lit Bool.true)) (Go.Sx.memL [((0 : Nat), (Go.Sx.Reg.mk Bool.true (Go.Sx.Ct.ints Go.IntKind.u32 Go.Sx.kL))), ((17 : Nat), (Go.Sx.Reg.mk Bool.true (Go.Sx.Ct.ints Go.IntKind.u8 dst))), ((905 : Nat), (Go.Sx.Reg.mk Bool.false (Go.Sx.Ct.cells [(Go.Sx.SV.int Go.IntKind.u8 (Go.Sx.A.lit (1 : Int)))]))), ((913 : Nat), (Go.Sx.Reg.mk Bool.false (Go.Sx.Ct.ints Go.IntKind.u8 ys11)))])))))))))))) ∧
 ((n ≤ (8160 : Int)) → (((List.length (List.take (l2 * (1 : Nat)) (List.drop (0 : Nat) dst))) ≤ (255 : Nat)) → (∀ (ys12 : (List Int)), ((ys12 = (Go.Sx.expand [] (List.take (l2 * (1 : Nat)) (List.drop (0 : Nat) dst)) (Int.toNat n))) → (∀ (ys13 : (List Int)), ((ys13 = ys12) → (((1 : Nat) ≤ (1 : Nat)) ∧
 (((Go.Sx.kL = Go.Sx.kL) ∧
 (((1 : Nat) = (1 : Nat)) ∧
 ((Go.Sx.Bytes (List.take (1 : Nat) (List.drop (0 : Nat) [(1 : Int)]))) ∧
 (((1 : Nat) ≤ (65536 : Nat)) ∧
 (((32 : Int) ≤ (32 : Int)) ∧
 ((32 : Int) ≤ (20000 : Int))))))) ∧
 (((((32 : Int) > (8160 : Int)) ∨
 ((1 : Nat) > (255 : Nat))) → (K (Go.Sx.SV.bool (Go.Sx.B.lit Bool.false)) (Go.Sx.memL [((0 : Nat), (Go.Sx.Reg.mk Bool.true (Go.Sx.Ct.ints Go.IntKind.u32 Go.Sx.kL))), ((17 : Nat), (Go.Sx.Reg.mk Bool.true (Go.Sx.Ct.ints Go.IntKind.u8 dst))), ((849 : Nat), (Go.Sx.Reg.mk Bool.false (Go.Sx.Ct.ints Go.IntKind.u8 ys13))), ((905 : Nat), (Go.Sx.Reg.mk Bool.false (Go.Sx.Ct.cells [(Go.Sx.SV.int Go.IntKind.u8 (Go.Sx.A.lit (1 : Int)))])))]))) ∧
 (((32 : Int) ≤ (8160 : Int)) → (((1 : Nat) ≤ (255 : Nat)) → (∀ (ys14 : (List Int)), ((ys14 = (Go.Sx.expand [] (List.take (1 : Nat) (List.drop (0 : Nat) [(1 : Int)])) (32 : Nat))) → (∀ (ys15 : (List Int)), ((ys15 = ys14) → (K (Go.Sx.SV.bool (Go.Sx.B.lit Bool.false)) (Go.Sx.memL [((0 : Nat), (Go.Sx.Reg.mk Bool.true (Go.Sx.Ct.ints Go.IntKind.u32 Go.Sx.kL))), ((17 : Nat), (Go.Sx.Reg.mk Bool.true (Go.Sx.Ct.ints Go.IntKind.u8 dst))), ((849 : Nat), (Go.Sx.Reg.mk Bool.false (Go.Sx.Ct.ints Go.IntKind.u8 ys13))), ((905 : Nat), (Go.Sx.Reg.mk Bool.false (Go.Sx.Ct.cells [(Go.Sx.SV.int Go.IntKind.u8 (Go.Sx.A.lit (1 : Int)))]))), ((913 : Nat), (Go.Sx.Reg.mk Bool.false (Go.Sx.Ct.ints Go.IntKind.u8 ys15)))]))))))))))))))))))))))))))))))))))))))))) := by kernel_rfl
theorem vc_l2d (msg : List Int) (l c : Nat) (n : Int) (K : SV → Mem → Prop) : (execF cxL1 u0 Tryd.f4 64 [.slice 9 (.lit 0) (.sym l) (.sym c), .val (.slice none 0 0), .int .i64 (.sym n)] (memL [(0, ⟨true, .ints .u32 kL⟩), (9, ⟨true, .ints .u8 msg⟩)]) K) =
  ((∀ (x0 : Int), ((x0 = ((l : Nat) : Int)) → ((((decide (x0 > (2147483647 : Int))) = Bool.true) → (K (Go.Sx.SV.bool (Go.Sx.B.lit Bool.true)) (Go.Sx.memL [((0 : Nat), (Go.Sx.Reg.mk Bool.true (Go.Sx.Ct.ints Go.IntKind.u32 Go.Sx.kL))), ((9 : Nat), (Go.Sx.Reg.mk Bool.true (Go.Sx.Ct.ints Go.IntKind.u8 msg)))]))) ∧
 (((decide (x0 > (2147483647 : Int))) = Bool.false) → (∀ (x1 : Int), ((x1 = ((l : Nat) : Int)) → ((((decide (x1 > (4096 : Int))) = Bool.true) → (K (Go.Sx.SV.bool (Go.Sx.B.lit Bool.true)) (Go.Sx.memL [((0 : Nat), (Go.Sx.Reg.mk Bool.true (Go.Sx.Ct.ints Go.IntKind.u32 Go.Sx.kL))), ((9 : Nat), (Go.Sx.Reg.mk Bool.true (Go.Sx.Ct.ints Go.IntKind.u8 msg)))]))) ∧
 (((decide (x1 > (4096 : Int))) = Bool.false) → (K (Go.Sx.SV.bool (Go.Sx.B.lit Bool.true)) (Go.Sx.memL [((0 : Nat), (Go.Sx.Reg.mk Bool.true (Go.Sx.Ct.ints Go.IntKind.u32 Go.Sx.kL))), ((9 : Nat), (Go.Sx.Reg.mk Bool.true (Go.Sx.Ct.ints Go.IntKind.u8 msg)))]))))))))))) := by kernel_rfl
theorem vc_l2e (n : Int) (K : SV → Mem → Prop) : (execF cxL1 u0 Tryd.f4 64 [.val (.slice none 0 0), .val (.slice none 0 0), .int .i64 (.sym n)] (memL [(0, ⟨true, .ints .u32 kL⟩)]) K) =
  ((K (Go.Sx.SV.bool (Go.Sx.B.lit Bool.true)) (Go.Sx.memL [((0 : Nat), (Go.Sx.Reg.mk Bool.true (Go.Sx.Ct.ints Go.IntKind.u32 Go.Sx.kL)))]))) := by kernel_rfl

theorem cut_bytes {xs : List Int} {l : Nat} (h : l ≤ xs.length) (hb : Bytes xs) : ∃ ys, List.take (l * 1) (List.drop 0 xs) = ys ∧ ys.length = l ∧ Bytes ys :=
  ⟨_, rfl, by simp; omega, (hb.drop 0).take _⟩
theorem bytes_one : Bytes (List.take 1 (List.drop 0 [1])) := by simp [Bytes]
theorem same_text {a b : List Int} (h : a = b) : ((bytesOf a).toList == (bytesOf b).toList) = true := by rw [h]; simp
theorem Rw.same {xs : List Int} {ys zs : List Int} {n cap : Nat} (h1 : ys = xs) (h2 : Rw zs xs n cap) : List.take n (List.drop 0 ys) = List.take n (List.drop 0 zs) := by
  rw [List.drop_zero, List.drop_zero, h2.row, h1, List.take_of_length_le (by rw [h2.xl]; exact Nat.le_refl _)]
theorem lenA {m d a b : List Int} {k : Nat} (h1 : b = a) (h2 : a = expand m d k) : 0 + k ≤ b.length := by
  rw [h1, h2, expand_length]
  omega
theorem lenB {xs a b : List Int} {k cap : Nat} (h1 : b = a) (h2 : Rw a xs k cap) : 0 + k ≤ b.length := by
  rw [h1, h2.len]
  have := h2.le
  omega
theorem textS {K : SV → Mem → Prop} (hS : ∀ b m, b = true → K (.bool (.sym b)) m) {xs a b c d : List Int} {k cap : Nat} {m : Mem} (h1 : b = a) (h2 : a = xs) (h3 : d = c) (h4 : Rw c xs k cap) :
    K (.bool (.sym ((bytesOf (List.take k (List.drop 0 b))).toList == (bytesOf (List.take k (List.drop 0 d))).toList))) m :=
  hS _ _ (same_text (Rw.same (h1.trans h2) (h3 ▸ h4)))
theorem l1_walk (msg dst : List Int) (l c l2 c2 : Nat) (n : Int) (K : SV → Mem → Prop) (hm : l ≤ msg.length) (hd : l2 ≤ dst.length) (hmb : Bytes msg) (hdb : Bytes dst) (hT : ∀ m, K (.bool (.lit true)) m) (hS : ∀ b m, b = true → K (.bool (.sym b)) m) :
    execF cxL1 u0 Tryd.f3 64 [.slice 9 (.lit 0) (.sym l) (.sym c), .slice 17 (.lit 0) (.sym l2) (.sym c2), .int .i64 (.sym n)] (memL [(0, ⟨true, .ints .u32 kL⟩), (9, ⟨true, .ints .u8 msg⟩), (17, ⟨true, .ints .u8 dst⟩)]) K := by
  rw [vc_l1]
  obtain ⟨m1, em, ml, mb⟩ := cut_bytes hm hmb
  obtain ⟨d1, ed, dl, db⟩ := cut_bytes hd hdb
  rw [em, ed]
  have hb1 := bytes_one
  repeat' first
    | exact hT _
    | assumption
    | apply And.intro
    | intro _
  all_goals (try simp only [decide_eq_true_eq, decide_eq_false_iff_not, beq_iff_eq, beq_eq_false_iff_ne, ne_eq] at *)
  all_goals first
    | omega
    | trivial
    | rfl
    | exact lenA (by assumption) (by assumption)
    | exact lenB (by assumption) (by assumption)
    | exact textS hS (by assumption) (by assumption) (by assumption) (by assumption)
theorem l1n_walk (dst : List Int) (l2 c2 : Nat) (n : Int) (K : SV → Mem → Prop) (hd : l2 ≤ dst.length) (hdb : Bytes dst) (hT : ∀ m, K (.bool (.lit true)) m) (hS : ∀ b m, b = true → K (.bool (.sym b)) m) :
    execF cxL1 u0 Tryd.f3 64 [.val (.slice none 0 0), .slice 17 (.lit 0) (.sym l2) (.sym c2), .int .i64 (.sym n)] (memL [(0, ⟨true, .ints .u32 kL⟩), (17, ⟨true, .ints .u8 dst⟩)]) K := by
  rw [vc_l1n]
  obtain ⟨d1, ed, dl, db⟩ := cut_bytes hd hdb
  rw [ed]
  have hb1 := bytes_one
  repeat' first
    | exact hT _
    | assumption
    | apply And.intro
    | intro _
  all_goals (try simp only [decide_eq_true_eq, decide_eq_false_iff_not, beq_iff_eq, beq_eq_false_iff_ne, ne_eq] at *)
  all_goals first
    | omega
    | trivial
    | rfl
    | exact lenA (by assumption) (by assumption)
    | exact lenB (by assumption) (by assumption)
    | exact textS hS (by assumption) (by assumption) (by assumption) (by assumption)
theorem l1d_walk (msg : List Int) (l c : Nat) (n : Int) (K : SV → Mem → Prop)  (hT : ∀ m, K (.bool (.lit true)) m) (hS : ∀ b m, b = true → K (.bool (.sym b)) m) :
    execF cxL1 u0 Tryd.f3 64 [.slice 9 (.lit 0) (.sym l) (.sym c), .val (.slice none 0 0), .int .i64 (.sym n)] (memL [(0, ⟨true, .ints .u32 kL⟩), (9, ⟨true, .ints .u8 msg⟩)]) K := by
  rw [vc_l1d]
  have hb1 := bytes_one
  repeat' first
    | exact hT _
    | assumption
    | apply And.intro
    | intro _
theorem l1e_walk (n : Int) (K : SV → Mem → Prop)  (hT : ∀ m, K (.bool (.lit true)) m) (hS : ∀ b m, b = true → K (.bool (.sym b)) m) :
    execF cxL1 u0 Tryd.f3 64 [.val (.slice none 0 0), .val (.slice none 0 0), .int .i64 (.sym n)] (memL [(0, ⟨true, .ints .u32 kL⟩)]) K := by
  rw [vc_l1e]
  have hb1 := bytes_one
  repeat' first
    | exact hT _
    | assumption
    | apply And.intro
    | intro _
theorem l2_walk (msg dst : List Int) (l c l2 c2 : Nat) (n : Int) (K : SV → Mem → Prop) (hm : l ≤ msg.length) (hd : l2 ≤ dst.length) (hmb : Bytes msg) (hdb : Bytes dst) (hT : ∀ m, K (.bool (.lit true)) m) (hS : ∀ b m, b = true → K (.bool (.sym b)) m) :
    execF cxL1 u0 Tryd.f4 64 [.slice 9 (.lit 0) (.sym l) (.sym c), .slice 17 (.lit 0) (.sym l2) (.sym c2), .int .i64 (.sym n)] (memL [(0, ⟨true, .ints .u32 kL⟩), (9, ⟨true, .ints .u8 msg⟩), (17, ⟨true, .ints .u8 dst⟩)]) K := by
  rw [vc_l2]
  obtain ⟨m1, em, ml, mb⟩ := cut_bytes hm hmb
  obtain ⟨d1, ed, dl, db⟩ := cut_bytes hd hdb
  rw [em, ed]
  have hb1 := bytes_one
  repeat' first
    | exact hT _
    | assumption
    | apply And.intro
    | intro _
  all_goals (try simp only [decide_eq_true_eq, decide_eq_false_iff_not, beq_iff_eq, beq_eq_false_iff_ne, ne_eq] at *)
  all_goals first
    | omega
    | trivial
    | rfl
    | exact lenA (by assumption) (by assumption)
    | exact lenB (by assumption) (by assumption)
    | exact textS hS (by assumption) (by assumption) (by assumption) (by assumption)
theorem l2n_walk (dst : List Int) (l2 c2 : Nat) (n : Int) (K : SV → Mem → Prop) (hd : l2 ≤ dst.length) (hdb : Bytes dst) (hT : ∀ m, K (.bool (.lit true)) m) (hS : ∀ b m, b = true → K (.bool (.sym b)) m) :
    execF cxL1 u0 Tryd.f4 64 [.val (.slice none 0 0), .slice 17 (.lit 0) (.sym l2) (.sym c2), .int .i64 (.sym n)] (memL [(0, ⟨true, .ints .u32 kL⟩), (17, ⟨true, .ints .u8 dst⟩)]) K := by
  rw [vc_l2n]
  obtain ⟨d1, ed, dl, db⟩ := cut_bytes hd hdb
  rw [ed]
  have hb1 := bytes_one
  repeat' first
    | exact hT _
    | assumption
    | apply And.intro
    | intro _
  all_goals (try simp only [decide_eq_true_eq, decide_eq_false_iff_not, beq_iff_eq, beq_eq_false_iff_ne, ne_eq] at *)
  all_goals first
    | omega
    | trivial
    | rfl
    | exact lenA (by assumption) (by assumption)
    | exact lenB (by assumption) (by assumption)
    | exact textS hS (by assumption) (by assumption) (by assumption) (by assumption)
theorem l2d_walk (msg : List Int) (l c : Nat) (n : Int) (K : SV → Mem → Prop)  (hT : ∀ m, K (.bool (.lit true)) m) (hS : ∀ b m, b = true → K (.bool (.sym b)) m) :
    execF cxL1 u0 Tryd.f4 64 [.slice 9 (.lit 0) (.sym l) (.sym c), .val (.slice none 0 0), .int .i64 (.sym n)] (memL [(0, ⟨true, .ints .u32 kL⟩), (9, ⟨true, .ints .u8 msg⟩)]) K := by
  rw [vc_l2d]
  have hb1 := bytes_one
  repeat' first
    | exact hT _
    | assumption
    | apply And.intro
    | intro _
theorem l2e_walk (n : Int) (K : SV → Mem → Prop)  (hT : ∀ m, K (.bool (.lit true)) m) (hS : ∀ b m, b = true → K (.bool (.sym b)) m) :
    execF cxL1 u0 Tryd.f4 64 [.val (.slice none 0 0), .val (.slice none 0 0), .int .i64 (.sym n)] (memL [(0, ⟨true, .ints .u32 kL⟩)]) K := by
  rw [vc_l2e]
  have hb1 := bytes_one
  repeat' first
    | exact hT _
    | assumption
    | apply And.intro
    | intro _
end Go.Sx

/- From the world of a call to the laws' walks. -/
namespace Go.Sx
open Go Go.Proofs Go.RowKit
set_option maxRecDepth 100000

theorem Fr.same (T : Nat → Nat → Prop) (w : World) : Fr T w w := ⟨rfl, rfl, rfl, Nat.le_refl _, fun _ _ => ObjFr.refl _ _⟩
theorem Fr.below {w w' : World} (h : Fr noT w w') : Below w.heap.size w w' := by
  refine ⟨h.os, h.tape, h.output, h.size, fun k hk => ?_⟩
  have := h.blk k hk
  unfold ObjFr at this
  split at this
  · rename_i c t f he
    obtain ⟨c', h1, h2, h3⟩ := this
    rw [h1, he]
    have : c' = c := Array.ext_getElem? fun i => h3 i (by unfold noT; simp)
    rw [this]
  · exact this

/-- A slice of bytes as the world holds it. -/
def BSl (W : World) (v : Value) : Prop :=
  v = .slice none 0 0 ∨ ∃ (b o len cap : Nat) (zs : List Int) (arr : Array Value) (t : TypeId) (fz : Nat × Nat), v = .slice (some ⟨b, o, none⟩) len cap ∧ W.heap[b]? = some (.cells arr t fz) ∧ zs.length = cap ∧ len ≤ cap ∧ Bytes zs ∧
    ∀ i u, (zs.map (Value.int .u8))[i]? = some u → arr[o + i]? = some u
def KRow (W : World) : Prop := ∃ (arr : Array Value) (t : TypeId) (fz : Nat × Nat), W.heap[0]? = some (.cells arr t fz) ∧ ∀ i u, (kL.map (Value.int .u32))[i]? = some u → arr[0 + i]? = some u

def env2 (b1 o1 b2 o2 : Nat) : Env := fun r => if r % 2 = 0 then some (r / 2, 0) else if r = 9 then some (b1, o1) else if r = 17 then some (b2, o2) else none
theorem env2_gid (b1 o1 b2 o2 g : Nat) : env2 b1 o1 b2 o2 (gid g) = some (g, 0) := by
  unfold env2 gid
  rw [if_pos (by omega)]
  simp
theorem env2_fresh (b1 o1 b2 o2 : Nat) : ∀ n, 64 ≤ n → Fresh (env2 b1 o1 b2 o2) n := fun n hn j hj => by
  unfold env2 rid
  rw [if_neg (by omega), if_neg (by omega), if_neg (by omega)]

/-- A memory of read-only regions holds where each of them lies in the world. -/
theorem holds_ro {β : Env} {W : World} {l : List (Nat × Reg)} (h : ∀ x ∈ l, x.2.ro = true ∧ RegOk β W.heap.size noT W x.1 x.2) : Holds β noT (memL l) W W := by
  have hm : ∀ r g, (memL l).get r = some g → (r, g) ∈ l := fun r g hg => by
    rcases get_fold_set l _ hg with hg | hg
    · exact hg
    · rw [Tr.get_leaf] at hg; cases hg
  refine ⟨Fr.same _ _, fun r g hg => (h _ (hm r g hg)).2, fun r s g k _ hg hk hro => ?_⟩
  rcases hro with hro | hro
  · have := (h _ (hm r g hg)).1
    simp only at this
    rw [hro] at this; cases this
  · have := (h _ (hm s k hk)).1
    simp only at this
    rw [hro] at this; cases this
theorem regOk_ints {β : Env} {B : Nat} {W : World} {r b o : Nat} {k : IntKind} {xs : List Int} {arr : Array Value} {t : TypeId} {fz : Nat × Nat} (hβ : β r = some (b, o)) (hb : W.heap[b]? = some (.cells arr t fz))
    (hc : ∀ i u, (xs.map (Value.int k))[i]? = some u → arr[o + i]? = some u) : RegOk β B noT W r ⟨true, .ints k xs⟩ :=
  ⟨⟨b, o, arr, t, fz, _, hβ, hb, rfl, hc, fun h => by cases h⟩⟩

def isTrue : SV → Mem → Prop := fun sv _ => ∃ b : B, sv = .bool b ∧ b.val = true
theorem isTrue_lit (m : Mem) : isTrue (.bool (.lit true)) m := ⟨_, rfl, rfl⟩
theorem isTrue_sym (b : Bool) (m : Mem) (h : b = true) : isTrue (.bool (.sym b)) m := ⟨_, rfl, h⟩

/-- What is asked of a law's walk: at both slices, at one, at none. -/
structure Walks (fn : Func) : Prop where
  both : ∀ (msg dst : List Int) (l c l2 c2 : Nat) (n : Int), l ≤ msg.length → l2 ≤ dst.length → Bytes msg → Bytes dst →
    execF cxL1 u0 fn 64 [.slice 9 (.lit 0) (.sym l) (.sym c), .slice 17 (.lit 0) (.sym l2) (.sym c2), .int .i64 (.sym n)] (memL [(0, ⟨true, .ints .u32 kL⟩), (9, ⟨true, .ints .u8 msg⟩), (17, ⟨true, .ints .u8 dst⟩)]) isTrue
  dst : ∀ (dst : List Int) (l2 c2 : Nat) (n : Int), l2 ≤ dst.length → Bytes dst →
    execF cxL1 u0 fn 64 [.val (.slice none 0 0), .slice 17 (.lit 0) (.sym l2) (.sym c2), .int .i64 (.sym n)] (memL [(0, ⟨true, .ints .u32 kL⟩), (17, ⟨true, .ints .u8 dst⟩)]) isTrue
  msg : ∀ (msg : List Int) (l c : Nat) (n : Int),
    execF cxL1 u0 fn 64 [.slice 9 (.lit 0) (.sym l) (.sym c), .val (.slice none 0 0), .int .i64 (.sym n)] (memL [(0, ⟨true, .ints .u32 kL⟩), (9, ⟨true, .ints .u8 msg⟩)]) isTrue
  none : ∀ n : Int, execF cxL1 u0 fn 64 [.val (.slice none 0 0), .val (.slice none 0 0), .int .i64 (.sym n)] (memL [(0, ⟨true, .ints .u32 kL⟩)]) isTrue
theorem walks3 : Walks Tryd.f3 where
  both := fun msg dst l c l2 c2 n h1 h2 h3 h4 => l1_walk msg dst l c l2 c2 n _ h1 h2 h3 h4 isTrue_lit isTrue_sym
  dst := fun dst l2 c2 n h2 h4 => l1n_walk dst l2 c2 n _ h2 h4 isTrue_lit isTrue_sym
  msg := fun msg l c n => l1d_walk msg l c n _ isTrue_lit isTrue_sym
  none := fun n => l1e_walk n _ isTrue_lit isTrue_sym
theorem walks4 : Walks Tryd.f4 where
  both := fun msg dst l c l2 c2 n h1 h2 h3 h4 => l2_walk msg dst l c l2 c2 n _ h1 h2 h3 h4 isTrue_lit isTrue_sym
  dst := fun dst l2 c2 n h2 h4 => l2n_walk dst l2 c2 n _ h2 h4 isTrue_lit isTrue_sym
  msg := fun msg l c n => l2d_walk msg l c n _ isTrue_lit isTrue_sym
  none := fun n => l2e_walk n _ isTrue_lit isTrue_sym

theorem done_true {β : Env} {W : World} {e : Ending} {w' : World} (h : Done β noT W isTrue e w') : e = .returned (.bool true) ∧ Below W.heap.size W w' := by
  obtain ⟨β', v, sv, m', _, rfl, hd, hH, b, rfl, hb⟩ := h
  refine ⟨?_, hH.fr.below⟩
  simp only [Den] at hd
  rw [hd, hb]
theorem run_law {f : FuncId} {fn : Func} (hfn : Tryd.prog.funcs[f]? = some fn) (hw : Walks fn) {W : World} {v0 v1 : Value} {n : Int} (hK : KRow W) (h0 : BSl W v0) (h1 : BSl W v1) :
    Calls Tryd.prog f #[v0, v1, .int .i64 n] W fun e W' => e = .returned (.bool true) ∧ Below W.heap.size W W' := by
  obtain ⟨karr, kt, kfz, hk1, hk2⟩ := hK
  have dn : ∀ β : Env, Den β (.val (.slice none 0 0)) (.slice none 0 0) := fun β => by simp [Den]
  have di : ∀ β : Env, Den β (.int .i64 (.sym n)) (.int .i64 n) := fun β => by simp [Den, A.val]
  have d3 : ∀ {β : Env} {a b c : SV} {u v w : Value}, Den β a u → Den β b v → Den β c w → DenL β [a, b, c] [u, v, w] := fun {β} {a b c} {u v w} h1 h2 h3 =>
    ⟨u, [v, w], h1, ⟨v, [w], h2, ⟨w, [], h3, rfl, rfl⟩, rfl⟩, rfl⟩
  rcases h0 with rfl | ⟨b1, o1, len1, cap1, zs1, arr1, t1, fz1, rfl, a1, a2, a3, a4, a5⟩ <;> rcases h1 with rfl | ⟨b2, o2, len2, cap2, zs2, arr2, t2, fz2, rfl, c1, c2, c3, c4, c5⟩
  · have hH : Holds (env2 0 0 0 0) noT (memL [(0, ⟨true, .ints .u32 kL⟩)]) W W := holds_ro (by
      intro x hx
      simp only [List.mem_cons, List.not_mem_nil, or_false] at hx
      subst hx
      exact ⟨rfl, regOk_ints (env2_gid _ _ _ _ 0) hk1 hk2⟩)
    exact (execF_sound mixed hfn hH (d3 (dn _) (dn _) (di _)) (env2_gid _ _ _ _) (env2_fresh _ _ _ _) (hw.none n)).mono fun e w' h => done_true h
  · have hH : Holds (env2 0 0 b2 o2) noT (memL [(0, ⟨true, .ints .u32 kL⟩), (17, ⟨true, .ints .u8 zs2⟩)]) W W := holds_ro (by
      intro x hx
      simp only [List.mem_cons, List.not_mem_nil, or_false] at hx
      rcases hx with rfl | rfl
      · exact ⟨rfl, regOk_ints (env2_gid _ _ _ _ 0) hk1 hk2⟩
      · exact ⟨rfl, regOk_ints (by simp [env2]) c1 c5⟩)
    exact (execF_sound mixed hfn hH (d3 (dn _) (by simp only [Den]; exact ⟨b2, o2, rfl, rfl⟩) (di _)) (env2_gid _ _ _ _) (env2_fresh _ _ _ _) (hw.dst zs2 len2 cap2 n (by omega) c4)).mono fun e w' h => done_true h
  · have hH : Holds (env2 b1 o1 0 0) noT (memL [(0, ⟨true, .ints .u32 kL⟩), (9, ⟨true, .ints .u8 zs1⟩)]) W W := holds_ro (by
      intro x hx
      simp only [List.mem_cons, List.not_mem_nil, or_false] at hx
      rcases hx with rfl | rfl
      · exact ⟨rfl, regOk_ints (env2_gid _ _ _ _ 0) hk1 hk2⟩
      · exact ⟨rfl, regOk_ints (by simp [env2]) a1 a5⟩)
    exact (execF_sound mixed hfn hH (d3 (by simp only [Den]; exact ⟨b1, o1, rfl, rfl⟩) (dn _) (di _)) (env2_gid _ _ _ _) (env2_fresh _ _ _ _) (hw.msg zs1 len1 cap1 n)).mono fun e w' h => done_true h
  · have hH : Holds (env2 b1 o1 b2 o2) noT (memL [(0, ⟨true, .ints .u32 kL⟩), (9, ⟨true, .ints .u8 zs1⟩), (17, ⟨true, .ints .u8 zs2⟩)]) W W := holds_ro (by
      intro x hx
      simp only [List.mem_cons, List.not_mem_nil, or_false] at hx
      rcases hx with rfl | rfl | rfl
      · exact ⟨rfl, regOk_ints (env2_gid _ _ _ _ 0) hk1 hk2⟩
      · exact ⟨rfl, regOk_ints (by simp [env2]) a1 a5⟩
      · exact ⟨rfl, regOk_ints (by simp [env2]) c1 c5⟩)
    exact (execF_sound mixed hfn hH (d3 (by simp only [Den]; exact ⟨b1, o1, rfl, rfl⟩) (by simp only [Den]; exact ⟨b2, o2, rfl, rfl⟩) (di _)) (env2_gid _ _ _ _) (env2_fresh _ _ _ _) (hw.both zs1 zs2 len1 cap1 len2 cap2 n (by omega) (by omega) a4 c4)).mono fun e w' h => done_true h
#print axioms run_law
end Go.Sx

/- The rows of the two laws. -/
namespace Go.Proofs.YtmghfbppanjopaaDoor
open Go Go.Sx Go.ChangeShapes Go.WideShapes Go.RowKit
set_option maxRecDepth 100000
set_option maxHeartbeats 4000000

theorem own : ownKnob Tryd.prog.godebug = none := by kernel_rfl
theorem laidOut : laidOutB Tryd.prog = true := by kernel_rfl
theorem cells5 : Tryd.prog.cellsOf 5 = 1 := by kernel_rfl
theorem cells41 : Tryd.prog.cellsOf 41 = 1 := by kernel_rfl
theorem cells54 : Tryd.prog.cellsOf 54 = 64 := by kernel_rfl
theorem gK : Tryd.prog.globalNamed "loop.example/pub-g03347/pub/sha256._K" = some 0 := by kernel_rfl
theorem tK : (Tryd.prog.globals[0]?).map (·.type) = some 54 := by kernel_rfl
def laidK : List (String × DataW Unit) := [("loop.example/pub-g03347/pub/sha256._K", Rows.laid_loop_example_pub_g03347_pub_sha256_K)]

theorem bsl_of {H : Type} {enc : TypeId × Value → H} {W : World} {base : Nat} {v : Value} {d : DataW H} {ps : List MemPlace} (hval : Value.okWide Tryd.prog W .any base 22 v)
    (h : DataW.Trod enc Tryd.prog W 0 (fun _ => true) true 22 v d ps) : BSl W v := by
  obtain ⟨a, len, cap, rfl⟩ := okWide_slice Tryd.underlying22 hval
  obtain ⟨fuel, hf⟩ := h
  rcases open_ints Tryd.underlying22 Tryd.underlying5 cells5 hf with ⟨hc, _⟩ | ⟨a', len', cap', zs, hc, _, hle, _, hzl, _, hcells, hwf⟩
  · left
    simpa [Value.cells] using hc
  · right
    simp only [Value.cells, List.cons.injEq, and_true, Value.slice.injEq] at hc
    obtain ⟨rfl, rfl, rfl⟩ := hc
    simp only [Value.okWide, Tryd.underlying22, Cell.okWide, Cell.ok] at hval
    obtain ⟨_, _, _, hspot, row, cells, hsh, _⟩ := hval
    obtain ⟨b, o, sp⟩ := a'
    simp only at hspot
    subst hspot
    simp only [if_true] at hzl
    have hb : ∃ arr t fz, W.heap[b]? = some (.cells arr t fz) := by
      unfold World.shape? at hsh
      split at hsh
      · rename_i c t fz he
        exact ⟨c, t, fz, he⟩
      · cases hsh
    obtain ⟨arr, t, fz, he⟩ := hb
    refine ⟨b, o, len, cap, zs, arr, t, fz, rfl, he, hzl, hle, fun x hx => ?_, fun i u hu => ?_⟩
    · have := bounds_u8 (hwf x hx)
      omega
    · rw [List.getElem?_map] at hu
      cases hz : zs[i]? with
      | none => rw [hz] at hu; cases hu
      | some z =>
        rw [hz] at hu
        have hi : i < zs.length := (List.getElem?_eq_some_iff.1 hz).1
        have := hcells i hi
        have hz2 : zs.getD i 0 = z := by simp [List.getD_eq_getElem?_getD, hz]
        rw [hz2] at this
        have hadd : (⟨b, o, none⟩ : Addr).add i = ⟨b, o + i, none⟩ := by
          unfold Addr.add
          split
          · rename_i h0; subst h0; rfl
          · rfl
        rw [hadd] at this
        unfold World.cell? at this
        simp only [he] at this
        rw [← hu]
        exact this

theorem krow_of {W : World} (h : laidMetH Tryd.prog laidK W) : KRow W := by
  rw [MakeChecks.laidMetH_plain _ _ _ (by kernel_rfl)] at h
  obtain ⟨ps, ⟨g0, t0, cs0, f0, p0, q0, hg0, ht0, hv0, hd0, _, _⟩, _, _⟩ := h
  obtain rfl := Option.some.inj (gK.symm.trans hg0)
  obtain rfl := Option.some.inj (tK.symm.trans ht0)
  have hb : ∃ t fz, W.heap[0]? = some (.cells cs0 t fz) := by
    unfold World.var? at hv0
    rw [gK] at hv0
    simp only [Option.bind_some] at hv0
    split at hv0
    · rename_i c t fz he
      exact ⟨t, fz, by rw [he, Option.some.inj hv0]⟩
    · cases hv0
  obtain ⟨t, fz, he⟩ := hb
  refine ⟨cs0, t, fz, he, fun i u hu => ?_⟩
  obtain ⟨xs, m, _, hx, hlen, hn, hel⟩ := DataW.trod_array Tryd.underlying54 hd0
  rw [cells54] at hlen
  rw [List.getElem?_map] at hu
  cases hz : kL[i]? with
  | none => rw [hz] at hu; cases hu
  | some z =>
    rw [hz] at hu
    have hu : Value.int .u32 z = u := Option.some.inj hu
    have hi : i < 64 := (List.getElem?_eq_some_iff.1 hz).1
    have h1 := hel i hi
    rw [cells41, Nat.mul_one] at h1
    obtain ⟨y, hy⟩ : ∃ y, xs[i]? = some y := ⟨xs[i], List.getElem?_eq_getElem (by omega)⟩
    rw [hy] at h1
    obtain ⟨k, e1, e2, _⟩ := DataW.trod_int Tryd.underlying41 h1
    have hc : cs0.toList[i]? = some (.int .u32 k) := by
      have : ((cs0.toList.drop i).take 1)[0]? = some (.int .u32 k) := by rw [e1]; rfl
      simpa using this
    have hd : Rows.laid_loop_example_pub_g03347_pub_sha256_K (H := Unit) = .agg (kL.map fun x => .lit (.int .u32 x)) := rfl
    simp only [Prod.mk.injEq] at hx
    rw [hd] at hx
    have hxx := DataW.agg.inj hx.1
    have h2 : (kL.map fun x => (DataW.lit (.int .u32 x) : DataW Unit))[i]? = (xs.map (·.1))[i]? := by rw [hxx]
    rw [List.getElem?_map, List.getElem?_map, hz, hy, e2] at h2
    have h3 : z = k := by simpa using h2
    rw [Nat.zero_add, ← hu, h3]
    simpa using hc

theorem door_met (os : Os) (args : Array Value) : laidMetH Tryd.prog laidK ((World.doorLaid Tryd.prog 2000 os).forCall (fun _ _ => 0) ⟨#[], args, []⟩).memory :=
  laidMetH_of_parts3 (fuel := 8) (laidMet_of_run' 8 (by kernel_rfl) (by kernel_rfl)) (by kernel_rfl) (by kernel_rfl)

/-- The one named variable reads behind the call as it did. -/
theorem var_stays {H : Type} {enc : TypeId × Value → H} {W W' : World} {d : DataW H} {q : List MemPlace} (hb : Below W.heap.size W W') (hlt : ∀ x ∈ q, x.block < W.heap.size)
    (h : DataW.TrodVars enc Tryd.prog W (fun _ => true) ["loop.example/pub-g03347/pub/sha256._K"] [d] q) : DataW.TrodVars enc Tryd.prog W' (fun b => decide (b < W.heap.size)) ["loop.example/pub-g03347/pub/sha256._K"] [d] q := by
  obtain ⟨g, t, cs, fuel, p, r, h1, h2, h3, h4, hs, e⟩ := h
  obtain rfl := Option.some.inj (gK.symm.trans h1)
  obtain rfl := Option.some.inj (tK.symm.trans h2)
  have hp : ∀ x ∈ p, x.block < W.heap.size := fun x hx => hlt x (by rw [e]; simp [hx])
  obtain ⟨fuel', h4'⟩ := Below.trod (v := .agg cs) laidOut (by kernel_rfl) (of_decide_eq_true (by kernel_rfl)) ⟨fuel, h4⟩ hb hp
  have h3' : W'.var? Tryd.prog "loop.example/pub-g03347/pub/sha256._K" = some cs := by
    unfold World.var? at h3 ⊢
    rw [gK] at h3 ⊢
    simp only [Option.bind_some] at h3 ⊢
    have h0 : 0 < W.heap.size := by
      cases hh : W.heap[0]? with
      | none => rw [hh] at h3; cases h3
      | some o => exact (Array.getElem?_eq_some_iff.1 hh).1
    rw [hb.block 0 h0]
    exact h3
  exact ⟨0, 54, cs, fuel', p, r, gK, tK, h3', h4', hs, e⟩

theorem post_law {H : Type} {enc : TypeId × Value → H} {fn : Func} {s : ChangeSpec} {W W' : World} {args : Array Value} {ds gs : List (DataW H)} {before : List MemPlace}
    (hp : fn.params = #[22, 22, 3]) (hr : fn.resultTypes = #[4]) (hv : s.vars = ["loop.example/pub-g03347/pub/sha256._K"])
    (hs : ∀ d1 d2 d3 g1 : DataW H, s.fn H [d1, d2, d3, g1] = { results := [.lit (.bool true)], args := [d1, d2, d3], vars := [g1] })
    (hW : DataW.Whole enc Tryd.prog fn.params.toList s.vars false W args.toList ds gs before) (hb : Below W.heap.size W W') :
    s.post enc Tryd.prog fn false true false false W args (.bool true) W' := by
  have hlt := hW.lt
  have hW' := hW
  obtain ⟨p, q, hA, hV, rfl, hfz, hnd⟩ := hW
  have hA' : DataW.TrodAll enc Tryd.prog W 0 (fun _ => true) true fn.params.toList args.toList ds p := hA
  have hV' : DataW.TrodVars enc Tryd.prog W (fun _ => true) s.vars gs q := hV
  rw [hp] at hA'
  obtain ⟨v0, v1, v2, d0, d1, d2, p0, p1, p2, rfl, rfl, rfl, h0, h1, h2⟩ := trodAll_three hA'
  obtain ⟨g, rfl⟩ : ∃ g, gs = [g] := by
    rw [hv] at hV'
    obtain ⟨_, _, _, _, d, _, rfl, _⟩ := trodVars_one hV'
    exact ⟨d, rfl⟩
  have e : s.fn H ([d0, d1, d2] ++ [g]) = { results := [.lit (.bool true)], args := [d0, d1, d2], vars := [g] } := hs _ _ _ _
  have l0 : ∀ x ∈ p0, x.block < W.heap.size := fun x hx => by simpa using hlt x (by simp [hx])
  have l1 : ∀ x ∈ p1, x.block < W.heap.size := fun x hx => by simpa using hlt x (by simp [hx])
  have l2 : ∀ x ∈ p2, x.block < W.heap.size := fun x hx => by simpa using hlt x (by simp [hx])
  refine ⟨_, _, _, [], p0 ++ (p1 ++ p2), q, hW', ?_, ?_, ?_, Below.frame hb _, fun h => by cases h⟩
  · rw [e, hr]
    exact trodAll_mk1 (shut_bool Tryd.underlying4 true)
  · rw [e, hp]
    exact trodAll_mk3 (Below.trod laidOut (by kernel_rfl) (of_decide_eq_true (by kernel_rfl)) h0 hb l0) (Below.trod laidOut (by kernel_rfl) (of_decide_eq_true (by kernel_rfl)) h1 hb l1)
      (Below.trod laidOut (by kernel_rfl) (of_decide_eq_true (by kernel_rfl)) h2 hb l2)
  · rw [e]
    rw [hv] at hV' ⊢
    exact var_stays hb (fun x hx => by simpa using hlt x (by simp [hx])) hV'

theorem lifted3 (os : Os) (started : os.Started) (H : Type) (enc : TypeId × Value → H) :
    ReturnsInHanded {} Tryd.checked os 3 .any (fun w args => (Rows.fnExpandSpec.pre enc Tryd.prog Tryd.f3 [] false w args ∧ laidMetH Tryd.prog laidK w) ∧ sizedMet enc Tryd.prog Tryd.f3 (OpenSpec.ofChange Rows.fnExpandSpec) false w args)
      (Rows.fnExpandSpec.post enc Tryd.prog Tryd.f3 false true false false) := by
  refine returnsInHanded_of_change_and (C := Tryd.checked) (X := fun w _ => laidMetH Tryd.prog laidK w) (fun _ _ _ hh h => h.of_heap hh) own started (by kernel_rfl) Tryd.func3
    (ChangeSpec.witness_shaped (enc := enc) (C := Tryd.checked) (os := os) (X := fun w _ => laidMetH Tryd.prog laidK w) false (World.doorLaid Tryd.prog 2000 os) #[.slice none 0 0, .slice none 0 0, .int .i64 0] 8 rfl (World.shaped_of_RefB (by kernel_rfl) (by kernel_rfl)) (by kernel_rfl) (by kernel_rfl) (by kernel_rfl) (door_met os _)) ?_
  intro W base args ds gs before hval hW _ _ hL _
  have hW' := hW
  obtain ⟨p, q, hA0, _, _, _, _⟩ := hW
  have hA : DataW.TrodAll enc Tryd.prog W 0 (fun _ => true) true Tryd.f3.params.toList args.toList ds p := hA0
  rw [Tryd.params3] at hA hval
  obtain ⟨v0, v1, v2, d0, d1, d2, p0, p1, p2, rfl, rfl, rfl, h0, h1, h2⟩ := trodAll_three hA
  obtain ⟨n, rfl, rfl, rfl, _⟩ := open_int Tryd.underlying3 (hval 2 3 v2 rfl rfl) h2
  refine (run_law Tryd.func3 walks3 (krow_of hL) (bsl_of (hval 0 22 v0 rfl rfl) h0) (bsl_of (hval 1 22 v1 rfl rfl) h1)).mono fun e W' ⟨he, hb⟩ => ?_
  exact ⟨_, he, post_law Tryd.params3 rfl rfl (fun _ _ _ _ => rfl) hW' hb⟩
theorem lifted4 (os : Os) (started : os.Started) (H : Type) (enc : TypeId × Value → H) :
    ReturnsInHanded {} Tryd.checked os 4 .any (fun w args => (Rows.fnExpandRefusedSpec.pre enc Tryd.prog Tryd.f4 [] false w args ∧ laidMetH Tryd.prog laidK w) ∧ sizedMet enc Tryd.prog Tryd.f4 (OpenSpec.ofChange Rows.fnExpandRefusedSpec) false w args)
      (Rows.fnExpandRefusedSpec.post enc Tryd.prog Tryd.f4 false true false false) := by
  refine returnsInHanded_of_change_and (C := Tryd.checked) (X := fun w _ => laidMetH Tryd.prog laidK w) (fun _ _ _ hh h => h.of_heap hh) own started (by kernel_rfl) Tryd.func4
    (ChangeSpec.witness_shaped (enc := enc) (C := Tryd.checked) (os := os) (X := fun w _ => laidMetH Tryd.prog laidK w) false (World.doorLaid Tryd.prog 2000 os) #[.slice none 0 0, .slice none 0 0, .int .i64 0] 8 rfl (World.shaped_of_RefB (by kernel_rfl) (by kernel_rfl)) (by kernel_rfl) (by kernel_rfl) (by kernel_rfl) (door_met os _)) ?_
  intro W base args ds gs before hval hW _ _ hL _
  have hW' := hW
  obtain ⟨p, q, hA0, _, _, _, _⟩ := hW
  have hA : DataW.TrodAll enc Tryd.prog W 0 (fun _ => true) true Tryd.f4.params.toList args.toList ds p := hA0
  rw [Tryd.params4] at hA hval
  obtain ⟨v0, v1, v2, d0, d1, d2, p0, p1, p2, rfl, rfl, rfl, h0, h1, h2⟩ := trodAll_three hA
  obtain ⟨n, rfl, rfl, rfl, _⟩ := open_int Tryd.underlying3 (hval 2 3 v2 rfl rfl) h2
  refine (run_law Tryd.func4 walks4 (krow_of hL) (bsl_of (hval 0 22 v0 rfl rfl) h0) (bsl_of (hval 1 22 v1 rfl rfl) h1)).mono fun e W' ⟨he, hb⟩ => ?_
  exact ⟨_, he, post_law Tryd.params4 rfl rfl (fun _ _ _ _ => rfl) hW' hb⟩

theorem fnExpand_holds : Rows.FnExpandSaid :=
  OpenClaim.holds_of_wide 3 Tryd.f3 rfl rfl rfl rfl rfl rfl rfl ⟨rfl, rfl, rfl, rfl, rfl⟩ rfl rfl rfl rfl rfl (by kernel_rfl) Tryd.func3 (by kernel_rfl)
    (of_decide_eq_true (by kernel_rfl)) (by unfold Func.isWrapper; first | (rw [if_pos (by decide +kernel)]; kernel_rfl) | (rw [if_neg (by decide +kernel)]; exact ⟨rfl, rfl⟩))
    (fun os started H enc _ => lifted3 os started H enc)
theorem fnExpand_card_holds : Rows.FnExpandCardSaid :=
  Claim7.holds_tied_plain_at .later [] [.data] true (true, "6fa6262414605f00fd1ccea2b0046058da8f59e34f610e56da727e9ccdbd4875") false
    fnExpand_holds (fun _ h => by cases h) (by kernel_rfl) (fun _ h => by cases h) fnExpand_row_tie rfl ⟨rfl, rfl⟩ (by kernel_rfl) rfl
    (fun f fn hf hfn => by
      obtain rfl : f = 3 := Option.some.inj ((show Tryd.prog.funcNamed "loop.example/pub-g03347/laws.FnExpand" = some 3 by kernel_rfl).symm.trans hf) |>.symm
      obtain rfl : fn = Tryd.f3 := (Option.some.inj (Tryd.func3.symm.trans hfn)).symm
      exact ⟨by kernel_rfl, fun j t ht => by
        rw [Tryd.params3] at ht
        have hm : t ∈ [22, 22, 3] := by simpa using Array.mem_of_getElem? ht
        have hall : ([22, 22, 3].all fun u => !Tryd.prog.wantsStandIn u) = true := by kernel_rfl
        exact (show Tryd.prog.wantsStandIn t = false by simpa using List.all_eq_true.1 hall t hm)⟩)
    (by kernel_rfl)
#print axioms fnExpand_card_holds

theorem fnExpandRefused_holds : Rows.FnExpandRefusedSaid :=
  OpenClaim.holds_of_wide 4 Tryd.f4 rfl rfl rfl rfl rfl rfl rfl ⟨rfl, rfl, rfl, rfl, rfl⟩ rfl rfl rfl rfl rfl (by kernel_rfl) Tryd.func4 (by kernel_rfl)
    (of_decide_eq_true (by kernel_rfl)) (by unfold Func.isWrapper; first | (rw [if_pos (by decide +kernel)]; kernel_rfl) | (rw [if_neg (by decide +kernel)]; exact ⟨rfl, rfl⟩))
    (fun os started H enc _ => lifted4 os started H enc)
theorem fnExpandRefused_card_holds : Rows.FnExpandRefusedCardSaid :=
  Claim7.holds_tied_plain_at .later [] [.data] true (true, "6fa6262414605f00fd1ccea2b0046058da8f59e34f610e56da727e9ccdbd4875") false
    fnExpandRefused_holds (fun _ h => by cases h) (by kernel_rfl) (fun _ h => by cases h) fnExpandRefused_row_tie rfl ⟨rfl, rfl⟩ (by kernel_rfl) rfl
    (fun f fn hf hfn => by
      obtain rfl : f = 4 := Option.some.inj ((show Tryd.prog.funcNamed "loop.example/pub-g03347/laws.FnExpandRefused" = some 4 by kernel_rfl).symm.trans hf) |>.symm
      obtain rfl : fn = Tryd.f4 := (Option.some.inj (Tryd.func4.symm.trans hfn)).symm
      exact ⟨by kernel_rfl, fun j t ht => by
        rw [Tryd.params4] at ht
        have hm : t ∈ [22, 22, 3] := by simpa using Array.mem_of_getElem? ht
        have hall : ([22, 22, 3].all fun u => !Tryd.prog.wantsStandIn u) = true := by kernel_rfl
        exact (show Tryd.prog.wantsStandIn t = false by simpa using List.all_eq_true.1 hall t hm)⟩)
    (by kernel_rfl)
#print axioms fnExpandRefused_card_holds
end Go.Proofs.YtmghfbppanjopaaDoor
