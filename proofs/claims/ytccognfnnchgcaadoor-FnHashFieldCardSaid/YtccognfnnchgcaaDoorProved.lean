/- Part 5 of the proof: for every message, domain and count the law FnHashField returns true (a verified symbolic evaluator, contracts of each function reached, the law, its row and card). Conditions: those of the given statement, none besides. -/
import Derived.Laws.StructEq
import Derived.Laws.Tables
import Derived.Laws.Cover2
import Derived.Test.YtccognfnnchgcaaDoorRows
import Derived.Test.YtccognfnnchgcaaDoorTie
import Derived.Test.YtccognfnnchgcaaDoorCards
import Derived.ProofKit
import Derived.LaidMore
import Derived.LaidLaws
import Derived.LaidHandle
import Derived.MakeChecks
import Derived.OpenShut
import Derived.Carry
import Derived.Stop.Joined
import Derived.SevenTiedAt
import Derived.Test.YtccognfnnchgcaaDoorSx4
/- The walk of MulMod. -/
namespace Go.Sx
open Go Go.Proofs
set_option maxRecDepth 100000
theorem vc_mm (X Y M : Nat) (a0 a1 a2 a3 b0 b1 b2 b3 m0 m1 m2 m3 : Int) (K : SV → Mem → Prop) : (execF cxMm (uMm [a0,a1,a2,a3] [b0,b1,b2,b3] X Y M) Tryd.f19 64 [ag4 a0 a1 a2 a3, ag4 b0 b1 b2 b3, ag4 m0 m1 m2 m3] (memL []) K) =
  (((∃ (i00 : Go.Sx.MoI), ((((Go.Sx.MoI.i i00) ≤ (8 : Nat)) ∧
 ((Go.Sx.digs (Go.Sx.MoI.d i00) ((Go.Sx.MoI.i i00) + (8 : Nat))) ∧
 ((Go.Sx.dv (Go.Sx.MoI.d i00)) = ((Go.Sx.lowD X (Go.Sx.MoI.i i00)) * ((Y : Nat) : Int))))) ∧
 (((0 : Int) = (((Go.Sx.MoI.i i00) : Nat) : Int)) ∧
 (((m0 = m0) ∧
 ((m1 = m1) ∧
 ((m2 = m2) ∧
 (m3 = m3)))) ∧
 (([a0, a1, a2, a3] = [a0, a1, a2, a3]) ∧
 (([b0, b1, b2, b3] = [b0, b1, b2, b3]) ∧
 ([(0 : Int), (0 : Int), (0 : Int), (0 : Int), (0 : Int), (0 : Int), (0 : Int), (0 : Int), (0 : Int), (0 : Int), (0 : Int), (0 : Int), (0 : Int), (0 : Int), (0 : Int), (0 : Int), (0 : Int)] = (Go.Sx.MoI.d i00)))))))) ∧
 (∀ (i1 : Go.Sx.MoI), ((((Go.Sx.MoI.i i1) ≤ (8 : Nat)) ∧
 ((Go.Sx.digs (Go.Sx.MoI.d i1) ((Go.Sx.MoI.i i1) + (8 : Nat))) ∧
 ((Go.Sx.dv (Go.Sx.MoI.d i1)) = ((Go.Sx.lowD X (Go.Sx.MoI.i i1)) * ((Y : Nat) : Int))))) → ((((decide ((((Go.Sx.MoI.i i1) : Nat) : Int) < (8 : Int))) = Bool.true) → (∀ (x2 : Int), ((x2 = (Go.IntKind.wrap Go.IntKind.i64 (Int.tdiv (((Go.Sx.MoI.i i1) : Nat) : Int) (2 : Int)))) → ((((0 : Int) ≤ x2) ∧
 (x2 < (4 : Int))) ∧
 (((((Int.toNat x2) * (1 : Nat)) + (1 : Nat)) ≤ (List.length [a0, a1, a2, a3])) ∧
 (∀ (x3 : Int), ((x3 = (List.getD [a0, a1, a2, a3] ((Int.toNat x2) * (1 : Nat)) (0 : Int))) → (∀ (x4 : Int), ((x4 = (Int.tmod (((Go.Sx.MoI.i i1) : Nat) : Int) (2 : Int))) → (∀ (x5 : Int), ((x5 = (Go.IntKind.wrap Go.IntKind.i64 ((32 : Int) * x4))) → (((0 : Int) ≤ x5) ∧
 (∀ (x6 : Int), ((x6 = (Go.Sx.shrv Go.IntKind.u64 x3 (Int.toNat x5))) → (∀ (x7 : Int), ((x7 = (Int.tmod x6 (4294967296 : Int))) → ((∃ (i08 : Go.Sx.MiI), ((((Go.Sx.MiI.k i08) ≤ (8 : Nat)) ∧
 ((Go.Sx.digs (Go.Sx.MiI.d i08) ((Int.toNat (((Go.Sx.MoI.i i1) : Nat) : Int)) + (8 : Nat))) ∧
 (((0 : Int) ≤ (Go.Sx.MiI.c i08)) ∧
 (((Go.Sx.MiI.c i08) < (4294967296 : Int)) ∧
 (((Go.Sx.dv (Go.Sx.MiI.d i08)) + ((Go.Sx.MiI.c i08) * ((4294967296 : Int) ^ ((Int.toNat (((Go.Sx.MoI.i i1) : Nat) : Int)) + (Go.Sx.MiI.k i08))))) = ((Go.Sx.dv (Go.Sx.MoI.d i1)) + ((x7 * (Go.Sx.lowD Y (Go.Sx.MiI.k i08))) * ((4294967296 : Int) ^ (Int.toNat (((Go.Sx.MoI.i i1) : Nat) : Int)))))))))) ∧
 ((((((Go.Sx.MoI.i i1) : Nat) : Int) = (((Go.Sx.MoI.i i1) : Nat) : Int)) ∧
 ((x7 = x7) ∧
 (((0 : Int) = (Go.Sx.MiI.c i08)) ∧
 ((0 : Int) = (((Go.Sx.MiI.k i08) : Nat) : Int))))) ∧
 (([a0, a1, a2, a3] = [a0, a1, a2, a3]) ∧
 (([b0, b1, b2, b3] = [b0, b1, b2, b3]) ∧
 (((m0 = m0) ∧
 ((m1 = m1) ∧
 ((m2 = m2) ∧
 (m3 = m3)))) ∧
 ((Go.Sx.MoI.d i1) = (Go.Sx.MiI.d i08)))))))) ∧
 (∀ (i9 : Go.Sx.MiI), ((((Go.Sx.MiI.k i9) ≤ (8 : Nat)) ∧
 ((Go.Sx.digs (Go.Sx.MiI.d i9) ((Int.toNat (((Go.Sx.MoI.i i1) : Nat) : Int)) + (8 : Nat))) ∧
 (((0 : Int) ≤ (Go.Sx.MiI.c i9)) ∧
 (((Go.Sx.MiI.c i9) < (4294967296 : Int)) ∧
 (((Go.Sx.dv (Go.Sx.MiI.d i9)) + ((Go.Sx.MiI.c i9) * ((4294967296 : Int) ^ ((Int.toNat (((Go.Sx.MoI.i i1) : Nat) : Int)) + (Go.Sx.MiI.k i9))))) = ((Go.Sx.dv (Go.Sx.MoI.d i1)) + ((x7 * (Go.Sx.lowD Y (Go.Sx.MiI.k i9))) * ((4294967296 : Int) ^ (Int.toNat (((Go.Sx.MoI.i i1) : Nat) : Int)))))))))) → ((((decide ((((Go.Sx.MiI.k i9) : Nat) : Int) < (8 : Int))) = Bool.true) → (∀ (x10 : Int), ((x10 = (Go.IntKind.wrap Go.IntKind.i64 (Int.tdiv (((Go.Sx.MiI.k i9) : Nat) : Int) (2 : Int)))) → ((((0 : Int) ≤ x10) ∧
 (x10 < (4 : Int))) ∧
 (((((Int.toNat x10) * (1 : Nat)) + (1 : Nat)) ≤ (List.length [b0, b1, b2, b3])) ∧
 (∀ (x11 : Int), ((x11 = (List.getD [b0, b1, b2, b3] ((Int.toNat x10) * (1 : Nat)) (0 : Int))) → (∀ (x12 : Int), ((x12 = (Int.tmod (((Go.Sx.MiI.k i9) : Nat) : Int) (2 : Int))) → (∀ (x13 : Int), ((x13 = (Go.IntKind.wrap Go.IntKind.i64 ((32 : Int) * x12))) → (((0 : Int) ≤ x13) ∧
 (∀ (x14 : Int), ((x14 = (Go.Sx.shrv Go.IntKind.u64 x11 (Int.toNat x13))) → (∀ (x15 : Int), ((x15 = (Int.tmod x14 (4294967296 : Int))) → (∀ (x16 : Int), ((x16 = (Go.IntKind.wrap Go.IntKind.i64 ((((Go.Sx.MoI.i i1) : Nat) : Int) + (((Go.Sx.MiI.k i9) : Nat) : Int)))) → ((((0 : Int) ≤ x16) ∧
 (x16 < (17 : Int))) ∧
 (((((Int.toNat x16) * (1 : Nat)) + (1 : Nat)) ≤ (List.length (Go.Sx.MiI.d i9))) ∧
 (∀ (x17 : Int), ((x17 = (List.getD (Go.Sx.MiI.d i9) ((Int.toNat x16) * (1 : Nat)) (0 : Int))) → (∀ (x18 : Int), ((x18 = (Go.IntKind.wrap Go.IntKind.u64 (x7 * x15))) → (∀ (x19 : Int), ((x19 = (Go.IntKind.wrap Go.IntKind.u64 (x17 + x18))) → (∀ (x20 : Int), ((x20 = (Go.IntKind.wrap Go.IntKind.u64 (x19 + (Go.Sx.MiI.c i9)))) → (∀ (x21 : Int), ((x21 = (Go.IntKind.wrap Go.IntKind.i64 ((((Go.Sx.MoI.i i1) : Nat) : Int) + (((Go.Sx.MiI.k i9) : Nat) : Int)))) → (∀ (x22 : Int), ((x22 = (Int.tmod x20 (4294967296 : Int))) → ((((0 : Int) ≤ x21) ∧
 (x21 < (17 : Int))) ∧
 ((((Int.toNat x21) * (1 : Nat)) < (List.length (Go.Sx.MiI.d i9))) ∧
 (∀ (x23 : Int), ((x23 = (Go.IntKind.wrap Go.IntKind.u64 (Int.tdiv x20 (4294967296 : Int)))) → (∀ (x24 : Int), ((x24 = (Go.IntKind.wrap Go.IntKind.i64 ((((Go.Sx.MiI.k i9) : Nat) : Int) + (1 : Int)))) → (∃ (x25 : Go.Sx.MiI), ((((Go.Sx.MiI.k x25) ≤ (8 : Nat)) ∧
 ((Go.Sx.digs (Go.Sx.MiI.d x25) ((Int.toNat (((Go.Sx.MoI.i i1) : Nat) : Int)) + (8 : Nat))) ∧
 (((0 : Int) ≤ (Go.Sx.MiI.c x25)) ∧
 (((Go.Sx.MiI.c x25) < (4294967296 : Int)) ∧
 (((Go.Sx.dv (Go.Sx.MiI.d x25)) + ((Go.Sx.MiI.c x25) * ((4294967296 : Int) ^ ((Int.toNat (((Go.Sx.MoI.i i1) : Nat) : Int)) + (Go.Sx.MiI.k x25))))) = ((Go.Sx.dv (Go.Sx.MoI.d i1)) + ((x7 * (Go.Sx.lowD Y (Go.Sx.MiI.k x25))) * ((4294967296 : Int) ^ (Int.toNat (((Go.Sx.MoI.i i1) : Nat) : Int)))))))))) ∧
 (((((((Go.Sx.MoI.i i1) : Nat) : Int) = (((Go.Sx.MoI.i i1) : Nat) : Int)) ∧
 ((x7 = x7) ∧
 ((x23 = (Go.Sx.MiI.c x25)) ∧
 (x24 = (((Go.Sx.MiI.k x25) : Nat) : Int))))) ∧
 (([a0, a1, a2, a3] = [a0, a1, a2, a3]) ∧
 (([b0, b1, b2, b3] = [b0, b1, b2, b3]) ∧
 (((m0 = m0) ∧
 ((m1 = m1) ∧
 ((m2 = m2) ∧
 (m3 = m3)))) ∧
 ((List.set (Go.Sx.MiI.d i9) ((Int.toNat x21) * (1 : Nat)) x22) = (Go.Sx.MiI.d x25)))))) ∧
 (((8 : Nat) - (Go.Sx.MiI.k x25)) < ((8 : Nat) - (Go.Sx.MiI.k i9)))))))))))))))))))))))))))))))))))))))))))) ∧
 (((decide ((((Go.Sx.MiI.k i9) : Nat) : Int) < (8 : Int))) = Bool.false) → (∀ (x26 : Int), ((x26 = (Go.IntKind.wrap Go.IntKind.i64 ((((Go.Sx.MoI.i i1) : Nat) : Int) + (8 : Int)))) → ((((0 : Int) ≤ x26) ∧
 (x26 < (17 : Int))) ∧
 ((((Int.toNat x26) * (1 : Nat)) < (List.length (Go.Sx.MiI.d i9))) ∧
 (∀ (x27 : Int), ((x27 = (Go.IntKind.wrap Go.IntKind.i64 ((((Go.Sx.MoI.i i1) : Nat) : Int) + (1 : Int)))) → (∃ (x28 : Go.Sx.MoI), ((((Go.Sx.MoI.i x28) ≤ (8 : Nat)) ∧
 ((Go.Sx.digs (Go.Sx.MoI.d x28) ((Go.Sx.MoI.i x28) + (8 : Nat))) ∧
 ((Go.Sx.dv (Go.Sx.MoI.d x28)) = ((Go.Sx.lowD X (Go.Sx.MoI.i x28)) * ((Y : Nat) : Int))))) ∧
 (((x27 = (((Go.Sx.MoI.i x28) : Nat) : Int)) ∧
 (((m0 = m0) ∧
 ((m1 = m1) ∧
 ((m2 = m2) ∧
 (m3 = m3)))) ∧
 (([a0, a1, a2, a3] = [a0, a1, a2, a3]) ∧
 (([b0, b1, b2, b3] = [b0, b1, b2, b3]) ∧
 ((List.set (Go.Sx.MiI.d i9) ((Int.toNat x26) * (1 : Nat)) (Go.Sx.MiI.c i9)) = (Go.Sx.MoI.d x28)))))) ∧
 (((8 : Nat) - (Go.Sx.MoI.i x28)) < ((8 : Nat) - (Go.Sx.MoI.i i1))))))))))))))))))))))))))))))))) ∧
 (((decide ((((Go.Sx.MoI.i i1) : Nat) : Int) < (8 : Int))) = Bool.false) → ((∃ (i029 : Go.Sx.MsI), ((((Go.Sx.MsI.n i029) ≤ (512 : Nat)) ∧
 ((Go.Sx.MsI.r i029) = (((Int.toNat (Go.Sx.dv (Go.Sx.MoI.d i1))) / ((2 : Nat) ^ (Go.Sx.MsI.n i029))) % M))) ∧
 (((511 : Int) = ((((Go.Sx.MsI.n i029) : Nat) : Int) - (1 : Int))) ∧
 (((m0 = m0) ∧
 ((m1 = m1) ∧
 ((m2 = m2) ∧
 (m3 = m3)))) ∧
 (((Go.Sx.MoI.d i1) = (Go.Sx.MoI.d i1)) ∧
 (((0 : Int) = (Go.Sx.lm (Go.Sx.MsI.r i029) (0 : Nat))) ∧
 (((0 : Int) = (Go.Sx.lm (Go.Sx.MsI.r i029) (1 : Nat))) ∧
 (((0 : Int) = (Go.Sx.lm (Go.Sx.MsI.r i029) (2 : Nat))) ∧
 ((0 : Int) = (Go.Sx.lm (Go.Sx.MsI.r i029) (3 : Nat))))))))))) ∧
 (∀ (i30 : Go.Sx.MsI), ((((Go.Sx.MsI.n i30) ≤ (512 : Nat)) ∧
 ((Go.Sx.MsI.r i30) = (((Int.toNat (Go.Sx.dv (Go.Sx.MoI.d i1))) / ((2 : Nat) ^ (Go.Sx.MsI.n i30))) % M))) → ((((decide (((((Go.Sx.MsI.n i30) : Nat) : Int) - (1 : Int)) ≥ (0 : Int))) = Bool.true) → (∀ (x31 : Int), ((x31 = (Go.Sx.shrv Go.IntKind.u64 (Go.Sx.lm (Go.Sx.MsI.r i30) (3 : Nat)) (63 : Nat))) → (∀ (x32 : Int), ((x32 = (Go.Sx.shlv Go.IntKind.u64 (Go.Sx.lm (Go.Sx.MsI.r i30) (3 : Nat)) (1 : Nat))) → (∀ (x33 : Int), ((x33 = (Go.Sx.shrv Go.IntKind.u64 (Go.Sx.lm (Go.Sx.MsI.r i30) (2 : Nat)) (63 : Nat))) → (∀ (x34 : Int), ((x34 = (Go.IntKind.wrap Go.IntKind.u64 (x32 + x33))) → (∀ (x35 : Int), ((x35 = (Go.Sx.shlv Go.IntKind.u64 (Go.Sx.lm (Go.Sx.MsI.r i30) (2 : Nat)) (1 : Nat))) → (∀ (x36 : Int), ((x36 = (Go.Sx.shrv Go.IntKind.u64 (Go.Sx.lm (Go.Sx.MsI.r i30) (1 : Nat)) (63 : Nat))) → (∀ (x37 : Int), ((x37 = (Go.IntKind.wrap Go.IntKind.u64 (x35 + x36))) → (∀ (x38 : Int), ((x38 = (Go.Sx.shlv Go.IntKind.u64 (Go.Sx.lm (Go.Sx.MsI.r i30) (1 : Nat)) (1 : Nat))) → (∀ (x39 : Int), ((x39 = (Go.Sx.shrv Go.IntKind.u64 (Go.Sx.lm (Go.Sx.MsI.r i30) (0 : Nat)) (63 : Nat))) → (∀ (x40 : Int), ((x40 = (Go.IntKind.wrap Go.IntKind.u64 (x38 + x39))) → (∀ (x41 : Int), ((x41 = (Go.Sx.shlv Go.IntKind.u64 (Go.Sx.lm (Go.Sx.MsI.r i30) (0 : Nat)) (1 : Nat))) → (∀ (x42 : Int), ((x42 = (Go.IntKind.wrap Go.IntKind.i64 (Int.tdiv ((((Go.Sx.MsI.n i30) : Nat) : Int) - (1 : Int)) (32 : Int)))) → ((((0 : Int) ≤ x42) ∧
 (x42 < (17 : Int))) ∧
 (((((Int.toNat x42) * (1 : Nat)) + (1 : Nat)) ≤ (List.length (Go.Sx.MoI.d i1))) ∧
 (∀ (x43 : Int), ((x43 = (List.getD (Go.Sx.MoI.d i1) ((Int.toNat x42) * (1 : Nat)) (0 : Int))) → (∀ (x44 : Int), ((x44 = (Int.tmod ((((Go.Sx.MsI.n i30) : Nat) : Int) - (1 : Int)) (32 : Int))) → (((0 : Int) ≤ x44) ∧
 (∀ (x45 : Int), ((x45 = (Go.Sx.shrv Go.IntKind.u64 x43 (Int.toNat x44))) → (∀ (x46 : Int), ((x46 = (Int.tmod x45 (2 : Int))) → (∀ (x47 : Int), ((x47 = (Go.IntKind.wrap Go.IntKind.u64 (x41 + x46))) → ((((x31 == (1 : Int)) = Bool.true) → (∀ (x48 : Int), ((x48 = x47) → (∀ (x49 : Int), ((x49 = x40) → (∀ (x50 : Int), ((x50 = x37) → (∀ (x51 : Int), ((x51 = x34) → (∀ (x52 : Int), ((x52 = m0) → (∀ (x53 : Int), ((x53 = m1) → (∀ (x54 : Int), ((x54 = m2) → (∀ (x55 : Int), ((x55 = m3) → ((((Go.Sx.Wd x48) ∧
 ((Go.Sx.Wd x49) ∧
 ((Go.Sx.Wd x50) ∧
 (Go.Sx.Wd x51)))) ∧
 ((Go.Sx.Wd x52) ∧
 ((Go.Sx.Wd x53) ∧
 ((Go.Sx.Wd x54) ∧
 (Go.Sx.Wd x55))))) ∧
 (∀ (x56 : Int), ((x56 = (Go.Sx.lm (Go.Sx.w256 ((Go.Sx.V4 x48 x49 x50 x51) - (Go.Sx.V4 x52 x53 x54 x55))) (0 : Nat))) → (∀ (x57 : Int), ((x57 = (Go.Sx.lm (Go.Sx.w256 ((Go.Sx.V4 x48 x49 x50 x51) - (Go.Sx.V4 x52 x53 x54 x55))) (1 : Nat))) → (∀ (x58 : Int), ((x58 = (Go.Sx.lm (Go.Sx.w256 ((Go.Sx.V4 x48 x49 x50 x51) - (Go.Sx.V4 x52 x53 x54 x55))) (2 : Nat))) → (∀ (x59 : Int), ((x59 = (Go.Sx.lm (Go.Sx.w256 ((Go.Sx.V4 x48 x49 x50 x51) - (Go.Sx.V4 x52 x53 x54 x55))) (3 : Nat))) → (∀ (x60 : Int), ((x60 = (Go.IntKind.wrap Go.IntKind.i64 (((((Go.Sx.MsI.n i30) : Nat) : Int) - (1 : Int)) - (1 : Int)))) → (∃ (x61 : Go.Sx.MsI), ((((Go.Sx.MsI.n x61) ≤ (512 : Nat)) ∧
 ((Go.Sx.MsI.r x61) = (((Int.toNat (Go.Sx.dv (Go.Sx.MoI.d i1))) / ((2 : Nat) ^ (Go.Sx.MsI.n x61))) % M))) ∧
 (((x60 = ((((Go.Sx.MsI.n x61) : Nat) : Int) - (1 : Int))) ∧
 (((m0 = m0) ∧
 ((m1 = m1) ∧
 ((m2 = m2) ∧
 (m3 = m3)))) ∧
 (((Go.Sx.MoI.d i1) = (Go.Sx.MoI.d i1)) ∧
 ((x56 = (Go.Sx.lm (Go.Sx.MsI.r x61) (0 : Nat))) ∧
 ((x57 = (Go.Sx.lm (Go.Sx.MsI.r x61) (1 : Nat))) ∧
 ((x58 = (Go.Sx.lm (Go.Sx.MsI.r x61) (2 : Nat))) ∧
 (x59 = (Go.Sx.lm (Go.Sx.MsI.r x61) (3 : Nat))))))))) ∧
 ((Go.Sx.MsI.n x61) < (Go.Sx.MsI.n i30))))))))))))))))))))))))))))))))) ∧
 (((x31 == (1 : Int)) = Bool.false) → (∀ (x62 : Int), ((x62 = x47) → (∀ (x63 : Int), ((x63 = x40) → (∀ (x64 : Int), ((x64 = x37) → (∀ (x65 : Int), ((x65 = x34) → (∀ (x66 : Int), ((x66 = m0) → (∀ (x67 : Int), ((x67 = m1) → (∀ (x68 : Int), ((x68 = m2) → (∀ (x69 : Int), ((x69 = m3) → ((((Go.Sx.Wd x62) ∧
 ((Go.Sx.Wd x63) ∧
 ((Go.Sx.Wd x64) ∧
 (Go.Sx.Wd x65)))) ∧
 ((Go.Sx.Wd x66) ∧
 ((Go.Sx.Wd x67) ∧
 ((Go.Sx.Wd x68) ∧
 (Go.Sx.Wd x69))))) ∧
 ((((Bool.not (decide ((Go.Sx.V4 x62 x63 x64 x65) < (Go.Sx.V4 x66 x67 x68 x69)))) = Bool.true) → (∀ (x70 : Int), ((x70 = x47) → (∀ (x71 : Int), ((x71 = x40) → (∀ (x72 : Int), ((x72 = x37) → (∀ (x73 : Int), ((x73 = x34) → (∀ (x74 : Int), ((x74 = m0) → (∀ (x75 : Int), ((x75 = m1) → (∀ (x76 : Int), ((x76 = m2) → (∀ (x77 : Int), ((x77 = m3) → ((((Go.Sx.Wd x70) ∧
 ((Go.Sx.Wd x71) ∧
 ((Go.Sx.Wd x72) ∧
 (Go.Sx.Wd x73)))) ∧
 ((Go.Sx.Wd x74) ∧
 ((Go.Sx.Wd x75) ∧
 ((Go.Sx.Wd x76) ∧
 (Go.Sx.Wd x77))))) ∧
 (∀ (x78 : Int), ((x78 = (Go.Sx.lm (Go.Sx.w256 ((Go.Sx.V4 x70 x71 x72 x73) - (Go.Sx.V4 x74 x75 x76 x77))) (0 : Nat))) → (∀ (x79 : Int), ((x79 = (Go.Sx.lm (Go.Sx.w256 ((Go.Sx.V4 x70 x71 x72 x73) - (Go.Sx.V4 x74 x75 x76 x77))) (1 : Nat))) → (∀ (x80 : Int), ((x80 = (Go.Sx.lm (Go.Sx.w256 ((Go.Sx.V4 x70 x71 x72 x73) - (Go.Sx.V4 x74 x75 x76 x77))) (2 : Nat))) → (∀ (x81 : Int), ((x81 = (Go.Sx.lm (Go.Sx.w256 ((Go.Sx.V4 x70 x71 x72 x73) - (Go.Sx.V4 x74 x75 x76 x77))) (3 : Nat))) → (∀ (x82 : Int), ((x82 = (Go.IntKind.wrap Go.IntKind.i64 (((((Go.Sx.MsI.n i30) : Nat) : Int) - (1 : Int)) - (1 : Int)))) → (∃ (x83 : Go.Sx.MsI), ((((Go.Sx.MsI.n x83) ≤ (512 : Nat)) ∧
 ((Go.Sx.MsI.r x83) = (((Int.toNat (Go.Sx.dv (Go.Sx.MoI.d i1))) / ((2 : Nat) ^ (Go.Sx.MsI.n x83))) % M))) ∧
 (((x82 = ((((Go.Sx.MsI.n x83) : Nat) : Int) - (1 : Int))) ∧
 (((m0 = m0) ∧
 ((m1 = m1) ∧
 ((m2 = m2) ∧
 (m3 = m3)))) ∧
 (((Go.Sx.MoI.d i1) = (Go.Sx.MoI.d i1)) ∧
 ((x78 = (Go.Sx.lm (Go.Sx.MsI.r x83) (0 : Nat))) ∧
 ((x79 = (Go.Sx.lm (Go.Sx.MsI.r x83) (1 : Nat))) ∧
 ((x80 = (Go.Sx.lm (Go.Sx.MsI.r x83) (2 : Nat))) ∧
 (x81 = (Go.Sx.lm (Go.Sx.MsI.r x83) (3 : Nat))))))))) ∧
 ((Go.Sx.MsI.n x83) < (Go.Sx.MsI.n i30))))))))))))))))))))))))))))))))) ∧
 (((Bool.not (decide ((Go.Sx.V4 x62 x63 x64 x65) < (Go.Sx.V4 x66 x67 x68 x69)))) = Bool.false) → (∀ (x84 : Int), ((x84 = (Go.IntKind.wrap Go.IntKind.i64 (((((Go.Sx.MsI.n i30) : Nat) : Int) - (1 : Int)) - (1 : Int)))) → (∃ (x85 : Go.Sx.MsI), ((((Go.Sx.MsI.n x85) ≤ (512 : Nat)) ∧
 ((Go.Sx.MsI.r x85) = (((Int.toNat (Go.Sx.dv (Go.Sx.MoI.d i1))) / ((2 : Nat) ^ (Go.Sx.MsI.n x85))) % M))) ∧
 (((x84 = ((((Go.Sx.MsI.n x85) : Nat) : Int) - (1 : Int))) ∧
 (((m0 = m0) ∧
 ((m1 = m1) ∧
 ((m2 = m2) ∧
 (m3 = m3)))) ∧
 (((Go.Sx.MoI.d i1) = (Go.Sx.MoI.d i1)) ∧
 ((x47 = (Go.Sx.lm (Go.Sx.MsI.r x85) (0 : Nat))) ∧
 ((x40 = (Go.Sx.lm (Go.Sx.MsI.r x85) (1 : Nat))) ∧
 ((x37 = (Go.Sx.lm (Go.Sx.MsI.r x85) (2 : Nat))) ∧
 (x34 = (Go.Sx.lm (Go.Sx.MsI.r x85) (3 : Nat))))))))) ∧
 ((Go.Sx.MsI.n x85) < (Go.Sx.MsI.n i30)))))))))))))))))))))))))))))))))))))))))))))))))))))))))))))))))) ∧
 (((decide (((((Go.Sx.MsI.n i30) : Nat) : Int) - (1 : Int)) ≥ (0 : Int))) = Bool.false) → (∀ (x86 : Int), ((x86 = (Go.Sx.lm (Go.Sx.MsI.r i30) (0 : Nat))) → (∀ (x87 : Int), ((x87 = (Go.Sx.lm (Go.Sx.MsI.r i30) (1 : Nat))) → (∀ (x88 : Int), ((x88 = (Go.Sx.lm (Go.Sx.MsI.r i30) (2 : Nat))) → (∀ (x89 : Int), ((x89 = (Go.Sx.lm (Go.Sx.MsI.r i30) (3 : Nat))) → (K (Go.Sx.SV.agg [(Go.Sx.SV.int Go.IntKind.u64 (Go.Sx.A.sym x86)), (Go.Sx.SV.int Go.IntKind.u64 (Go.Sx.A.sym x87)), (Go.Sx.SV.int Go.IntKind.u64 (Go.Sx.A.sym x88)), (Go.Sx.SV.int Go.IntKind.u64 (Go.Sx.A.sym x89))]) (Go.Sx.memL [((529 : Nat), (Go.Sx.Reg.mk Bool.false (Go.Sx.Ct.cells [(Go.Sx.SV.int Go.IntKind.u64 (Go.Sx.A.sym m0)), (Go.Sx.SV.int Go.IntKind.u64 (Go.Sx.A.sym m1)), (Go.Sx.SV.int Go.IntKind.u64 (Go.Sx.A.sym m2)), (Go.Sx.SV.int Go.IntKind.u64 (Go.Sx.A.sym m3))]))), ((537 : Nat), (Go.Sx.Reg.mk Bool.false (Go.Sx.Ct.cells [(Go.Sx.SV.int Go.IntKind.u64 (Go.Sx.A.sym x86)), (Go.Sx.SV.int Go.IntKind.u64 (Go.Sx.A.sym x87)), (Go.Sx.SV.int Go.IntKind.u64 (Go.Sx.A.sym x88)), (Go.Sx.SV.int Go.IntKind.u64 (Go.Sx.A.sym x89))]))), ((553 : Nat), (Go.Sx.Reg.mk Bool.false (Go.Sx.Ct.ints Go.IntKind.u64 (Go.Sx.MoI.d i1)))), ((601 : Nat), (Go.Sx.Reg.mk Bool.false (Go.Sx.Ct.cells [(Go.Sx.SV.int Go.IntKind.u64 (Go.Sx.A.sym (Go.Sx.lm (Go.Sx.MsI.r i30) (0 : Nat)))), (Go.Sx.SV.int Go.IntKind.u64 (Go.Sx.A.sym (Go.Sx.lm (Go.Sx.MsI.r i30) (1 : Nat)))), (Go.Sx.SV.int Go.IntKind.u64 (Go.Sx.A.sym (Go.Sx.lm (Go.Sx.MsI.r i30) (2 : Nat)))), (Go.Sx.SV.int Go.IntKind.u64 (Go.Sx.A.sym (Go.Sx.lm (Go.Sx.MsI.r i30) (3 : Nat))))])))]))))))))))))))))))))) := by kernel_rfl

theorem mm_walk (X Y M : Nat) (a0 a1 a2 a3 b0 b1 b2 b3 m0 m1 m2 m3 : Int) (K : SV → Mem → Prop) (ha : Ws a0 a1 a2 a3 X) (hb : Ws b0 b1 b2 b3 Y) (hm : Ws m0 m1 m2 m3 M) (hM : 0 < M)
    (hK : ∀ r m', r = X * Y % M → K (ag4 (lm r 0) (lm r 1) (lm r 2) (lm r 3)) m') :
    execF cxMm (uMm [a0,a1,a2,a3] [b0,b1,b2,b3] X Y M) Tryd.f19 64 [ag4 a0 a1 a2 a3, ag4 b0 b1 b2 b3, ag4 m0 m1 m2 m3] (memL []) K := by
  obtain ⟨rfl, rfl, rfl, rfl, hX⟩ := ha
  obtain ⟨rfl, rfl, rfl, rfl, hY⟩ := hb
  rw [vc_mm]
  refine ⟨⟨⟨0, List.replicate 17 0⟩, ?_⟩, ?_⟩
  · refine ⟨⟨Nat.zero_le _, ⟨by simp, ?_, ?_⟩, ?_⟩, rfl, ⟨rfl, rfl, rfl, rfl⟩, rfl, rfl, rfl⟩
    · intro x hx
      rw [List.eq_of_mem_replicate hx]
      decide
    · intro j _
      rw [List.getD_eq_getElem?_getD, List.getElem?_replicate]
      split <;> rfl
    · rw [lowD_zero, Int.zero_mul]
      rfl
  rintro ⟨i, d⟩ ⟨hi, hd, e⟩
  dsimp only at hi hd e ⊢
  refine ⟨fun h => ?_, fun h => ?_⟩
  · simp only [decide_eq_true_eq] at h
    have hi' : i < 8 := by omega
    rintro x2 h2
    have q2 := h2
    rw [Int.tdiv_eq_ediv_of_nonneg (by omega), wrap64 (by omega) (by omega)] at q2
    refine ⟨by omega, by simp only [List.length_cons, List.length_nil]; omega, ?_⟩
    rintro x3 h3 x4 h4 x5 h5
    have q := fun x6 x7 h6 h7 => dig_of (X := X) hi' (x6 := x6) (x7 := x7) h2 h3 h4 h5 h6 h7
    refine ⟨(q _ _ rfl rfl).2.1, ?_⟩
    rintro x6 h6 x7 h7
    have hx7 := (q _ _ h6 h7).2.2
    refine ⟨⟨⟨0, 0, d⟩, ?_⟩, ?_⟩
    · refine ⟨⟨Nat.zero_le _, by rw [Int.toNat_natCast]; exact hd, Int.le_refl _, by show (0 : Int) < 4294967296; decide, by rw [lowD_zero]; simp⟩, ⟨rfl, rfl, rfl, rfl⟩, rfl, rfl, ⟨rfl, rfl, rfl, rfl⟩, rfl⟩
    rintro ⟨k, c, d'⟩ ⟨hk, hd', hc0, hc1, e'⟩
    dsimp only at hk hd' hc0 hc1 e' ⊢
    rw [Int.toNat_natCast] at hd' e'
    simp only [Int.toNat_natCast]
    refine ⟨fun h => ?_, fun h => ?_⟩
    · simp only [decide_eq_true_eq] at h
      have hk' : k < 8 := by omega
      rintro x10 h10
      have q10 := h10
      rw [Int.tdiv_eq_ediv_of_nonneg (by omega), wrap64 (by omega) (by omega)] at q10
      refine ⟨by omega, by simp only [List.length_cons, List.length_nil]; omega, ?_⟩
      rintro x11 h11 x12 h12 x13 h13
      have r := fun x14 x15 h14 h15 => dig_of (X := Y) hk' (x6 := x14) (x7 := x15) h10 h11 h12 h13 h14 h15
      refine ⟨(r _ _ rfl rfl).2.1, ?_⟩
      rintro x14 h14 x15 h15
      have hx15 := (r _ _ h14 h15).2.2
      have st := fun x16 x17 x18 x19 x20 x21 x22 x23 h16 h17 h18 h19 h20 h21 h22 h23 => in_step (x16 := x16) (x17 := x17) (x18 := x18) (x19 := x19) (x20 := x20) (x21 := x21) (x22 := x22) (x23 := x23) hd' rfl hi' hk' hc0 hc1 (by rw [hx7]; omega) hx15 e' h16 h17 h18 h19 h20 h21 h22 h23
      rintro x16 h16
      have s0 := st x16 _ _ _ _ x16 _ _ h16 rfl rfl rfl rfl h16 rfl rfl
      refine ⟨s0.1, s0.2.1, ?_⟩
      rintro x17 h17 x18 h18 x19 h19 x20 h20 x21 h21 x22 h22
      have s1 := st x16 x17 x18 x19 x20 x21 x22 _ h16 h17 h18 h19 h20 h21 h22 rfl
      refine ⟨s1.2.2.1, s1.2.2.2.1, ?_⟩
      rintro x23 h23 x24 h24
      rw [wrap64 (by omega) (by omega)] at h24
      obtain ⟨_, _, _, _, u1, u2, u3, u4⟩ := st x16 x17 x18 x19 x20 x21 x22 x23 h16 h17 h18 h19 h20 h21 h22 h23
      refine ⟨⟨k + 1, x23, d'.set (x21.toNat * 1) x22⟩, ⟨hk', u1, u2, u3, u4⟩, ?_⟩
      repeat' apply And.intro
      all_goals first | rfl | trivial | (simp only; omega)
    · simp only [decide_eq_false_iff_not] at h
      have hk' : k = 8 := by omega
      rintro x26 h26
      rw [wrap64 (by omega) (by omega)] at h26
      have e26 : x26.toNat = i + 8 := by omega
      have hl := hd'.1
      refine ⟨by omega, by omega, ?_⟩
      rintro x27 h27
      rw [wrap64 (by omega) (by omega)] at h27
      rw [e26, Nat.mul_one]
      refine ⟨⟨i + 1, d'.set (i + 8) c⟩, ⟨hi', ?_, ?_⟩, ?_⟩
      · exact digs_set ⟨hd'.1, hd'.2.1, fun j hj => hd'.2.2 j (by simp only at hj; omega)⟩ ⟨hc0, hc1⟩ (by simp only; omega)
      · show dv (d'.set (i + 8) c) = lowD X (i + 1) * (Y : Int)
        rw [dv_set d' (i + 8) c (by omega), hd'.2.2 (i + 8) (Nat.le_refl _), Int.sub_zero, lowD_succ, ← hx7, Int.add_mul, ← e]
        rw [hk', lowD_all hY] at e'
        rw [e', Int.mul_right_comm]
      · repeat' apply And.intro
        all_goals first | rfl | trivial | (simp only; omega)
  · simp only [decide_eq_false_iff_not] at h
    have h8 : i = 8 := by omega
    rw [h8, lowD_all hX] at e
    have hD : (dv d).toNat = X * Y := by rw [e, ← Int.natCast_mul, Int.toNat_natCast]
    have hlt : X * Y < 2 ^ 512 := Nat.lt_of_lt_of_le (Nat.mul_lt_mul'' hX hY) (by decide +kernel)
    have mw := hm.wd
    have mv := hm.val
    have ml := hm.lt
    refine ⟨⟨⟨512, 0⟩, ⟨Nat.le_refl _, ?_⟩, rfl, ⟨rfl, rfl, rfl, rfl⟩, rfl, ?_⟩, ?_⟩
    · dsimp only
      rw [hD, Nat.div_eq_of_lt hlt, Nat.zero_mod]
    · have z0 : ∀ i, lm 0 i = 0 := fun i => by
        unfold lm
        simp
      simp only [z0]
      exact ⟨trivial, trivial, trivial, trivial⟩
    rintro ⟨n, r⟩ ⟨hn, hr⟩
    dsimp only at hn hr ⊢
    refine ⟨fun h => ?_, fun h => ?_⟩
    · simp only [decide_eq_true_eq] at h
      have hr' := hr
      obtain ⟨p, rfl⟩ : ∃ p, n = p + 1 := ⟨n - 1, by omega⟩
      have hlt : r < M := by rw [hr]; exact Nat.mod_lt _ hM
      rintro x31 h31 x32 h32 x33 h33 x34 h34 x35 h35 x36 h36 x37 h37 x38 h38 x39 h39 x40 h40 x41 h41 x42 h42
      have bf := fun x43 x44 x45 x46 => bit_fetch (x43 := x43) (x44 := x44) (x45 := x45) (x46 := x46) hd.2.1 (by omega) hn h42
      have b0 := (bf _ _ _ _ rfl rfl rfl rfl).1
      refine ⟨b0, by have := hd.1; omega, ?_⟩
      rintro x43 h43 x44 h44
      refine ⟨(bf x43 x44 _ _ h43 h44 rfl rfl).2.1, ?_⟩
      rintro x45 h45 x46 h46 x47 h47
      obtain ⟨_, _, e46⟩ := bf x43 x44 x45 x46 h43 h44 h45 h46
      rw [shl1] at h32 h35 h38 h41
      rw [shr63 (lm_wd _ _).1] at h31 h33 h36 h39
      rw [wu64] at h34 h37 h40 h47
      subst h32 h33 h35 h36 h38 h39 h41
      have hb : 0 ≤ x46 ∧ x46 < 2 := by rw [e46]; omega
      obtain ⟨yw, yh, ye⟩ := dbl_eq (lm_wd _ _) (lm_wd _ _) (lm_wd _ _) (lm_wd _ _) hb h47 h40 h37 h34 h31
      rw [lm_val (by omega), e46, Nat.add_sub_cancel, hD] at ye
      rw [hD] at hr
      obtain ⟨s1, s2⟩ := ms_step hM ml hr yw yh ye
      have mval : V4 m0 m1 m2 m3 = (M : Int) := mv
      have fin : ∀ z0 z1 z2 z3 x : Int, x = IntKind.i64.wrap (((((p + 1 : Nat)) : Int) - 1) - 1) → z0 = lm (X * Y / 2 ^ p % M) 0 → z1 = lm (X * Y / 2 ^ p % M) 1 → z2 = lm (X * Y / 2 ^ p % M) 2 → z3 = lm (X * Y / 2 ^ p % M) 3 →
          ∃ w : MsI, (w.n ≤ 512 ∧ w.r = (dv d).toNat / 2 ^ w.n % M) ∧ ((x = ((w.n : Nat) : Int) - 1 ∧ (m0 = m0 ∧ m1 = m1 ∧ m2 = m2 ∧ m3 = m3) ∧ d = d ∧ z0 = lm w.r 0 ∧ z1 = lm w.r 1 ∧ z2 = lm w.r 2 ∧ z3 = lm w.r 3) ∧ w.n < p + 1) := by
        intro z0 z1 z2 z3 x hx e0 e1 e2 e3
        rw [wrap64 (by omega) (by omega)] at hx
        exact ⟨⟨p, X * Y / 2 ^ p % M⟩, ⟨by simp only; omega, by simp only; rw [hD]⟩, ⟨by simp only; omega, ⟨rfl, rfl, rfl, rfl⟩, rfl, e0, e1, e2, e3⟩, by simp only; omega⟩
      refine ⟨fun hh => ?_, fun hh => ?_⟩
      · rintro x48 h48 x49 h49 x50 h50 x51 h51 x52 h52 x53 h53 x54 h54 x55 h55
        rw [h48, h49, h50, h51, h52, h53, h54, h55]
        refine ⟨⟨yw, mw⟩, ?_⟩
        rintro x56 h56 x57 h57 x58 h58 x59 h59 x60 h60
        have q := s1 (.inl (by simpa using hh))
        rw [mval, q] at h56 h57 h58 h59
        exact fin _ _ _ _ _ h60 h56 h57 h58 h59
      · rintro x48 h48 x49 h49 x50 h50 x51 h51 x52 h52 x53 h53 x54 h54 x55 h55
        rw [h48, h49, h50, h51, h52, h53, h54, h55]
        refine ⟨⟨yw, mw⟩, fun hq => ?_, fun hq => ?_⟩
        · rintro x48 h48 x49 h49 x50 h50 x51 h51 x52 h52 x53 h53 x54 h54 x55 h55
          rw [h48, h49, h50, h51, h52, h53, h54, h55]
          refine ⟨⟨yw, mw⟩, ?_⟩
          rintro x56 h56 x57 h57 x58 h58 x59 h59 x60 h60
          have q := s1 (.inr (by rw [← mval]; simpa using hq))
          rw [mval, q] at h56 h57 h58 h59
          exact fin _ _ _ _ _ h60 h56 h57 h58 h59
        · rintro x60 h60
          have h0 : x31 = 0 := by
            have : ¬ x31 = 1 := by simpa using hh
            omega
          obtain ⟨e0, e1, e2, e3⟩ := s2 h0 (by rw [← mval]; simpa using hq)
          exact fin _ _ _ _ _ h60 e0 e1 e2 e3
    · simp only [decide_eq_false_iff_not] at h
      have hn0 : n = 0 := by omega
      rintro _ rfl _ rfl _ rfl _ rfl
      exact hK r _ (by rw [hr, hn0, hD, Nat.pow_zero, Nat.div_one])
end Go.Sx

/- The contract of spec.MulMod. -/
namespace Go.Sx
open Go Go.Proofs
set_option maxRecDepth 100000
theorem Ws.of {a b c d : Int} (h : Wd a ∧ Wd b ∧ Wd c ∧ Wd d) : Ws a b c d (V4 a b c d).toNat := by
  obtain ⟨h0, h1, h2, h3⟩ := h
  have n0 := V4_nonneg h0 h1 h2 h3
  have n1 := V4_lt h0 h1 h2 h3
  obtain ⟨e0, e1, e2, e3⟩ := lm_of h0 h1 h2 h3 (x := (V4 a b c d).toNat) (by omega)
  exact ⟨e0, e1, e2, e3, by omega⟩
def rMm : R0 := fun args l =>
  match args, l with
  | [.agg [.int .u64 (.sym a0), .int .u64 (.sym a1), .int .u64 (.sym a2), .int .u64 (.sym a3)], .agg [.int .u64 (.sym b0), .int .u64 (.sym b1), .int .u64 (.sym b2), .int .u64 (.sym b3)], .agg [.int .u64 (.sym m0), .int .u64 (.sym m1), .int .u64 (.sym m2), .int .u64 (.sym m3)]], [] =>
    some (some (((Wd a0 ∧ Wd a1 ∧ Wd a2 ∧ Wd a3) ∧ (Wd b0 ∧ Wd b1 ∧ Wd b2 ∧ Wd b3) ∧ (Wd m0 ∧ Wd m1 ∧ Wd m2 ∧ Wd m3)) ∧ 0 < V4 m0 m1 m2 m3),
      ag4 (lm ((V4 a0 a1 a2 a3).toNat * (V4 b0 b1 b2 b3).toNat % (V4 m0 m1 m2 m3).toNat) 0) (lm ((V4 a0 a1 a2 a3).toNat * (V4 b0 b1 b2 b3).toNat % (V4 m0 m1 m2 m3).toNat) 1) (lm ((V4 a0 a1 a2 a3).toNat * (V4 b0 b1 b2 b3).toNat % (V4 m0 m1 m2 m3).toNat) 2) (lm ((V4 a0 a1 a2 a3).toNat * (V4 b0 b1 b2 b3).toNat % (V4 m0 m1 m2 m3).toNat) 3))
  | _, _ => none
theorem mm_ok (args : List SV) (l : List (Nat × Reg)) (p : Ob) (v : SV) (h : rMm args l = some (p, v)) (hp : p.ok) : ∃ U, execF cxMm U Tryd.f19 64 args (memL l) fun v' _ => v' = v := by
  unfold rMm at h
  split at h
  · rename_i a0 a1 a2 a3 b0 b1 b2 b3 m0 m1 m2 m3
    simp only [Option.some.injEq, Prod.mk.injEq] at h
    obtain ⟨rfl, rfl⟩ := h
    obtain ⟨⟨ha, hb, hm⟩, hM⟩ : ((Wd a0 ∧ Wd a1 ∧ Wd a2 ∧ Wd a3) ∧ (Wd b0 ∧ Wd b1 ∧ Wd b2 ∧ Wd b3) ∧ (Wd m0 ∧ Wd m1 ∧ Wd m2 ∧ Wd m3)) ∧ 0 < V4 m0 m1 m2 m3 := hp
    refine ⟨_, mm_walk _ _ _ a0 a1 a2 a3 b0 b1 b2 b3 m0 m1 m2 m3 _ (Ws.of ha) (Ws.of hb) (Ws.of hm) (by omega) fun r m' hr => ?_⟩
    rw [hr]
  · cases h
def cMm : Rd Tryd.prog := mkR mixed 19 Tryd.func19 (by decide) (by kernel_rfl) [] [.num, .num, .num] rMm mm_ok
def cxMl : Cx Tryd.prog := { rds := [cPP, cMm], efs := [], eqs := [] }
end Go.Sx

/- The contract of spec.mul. -/
namespace Go.Sx
open Go Go.Proofs
set_option maxRecDepth 100000
theorem vc_ml (a0 a1 a2 a3 b0 b1 b2 b3 : Int) (K : SV → Mem → Prop) : (execF cxMl u9 Tryd.f11 64 [ag4 a0 a1 a2 a3, ag4 b0 b1 b2 b3] (memL []) K) =
  ((∀ (x0 : Int), ((x0 = a0) → (∀ (x1 : Int), ((x1 = a1) → (∀ (x2 : Int), ((x2 = a2) → (∀ (x3 : Int), ((x3 = a3) → (∀ (x4 : Int), ((x4 = b0) → (∀ (x5 : Int), ((x5 = b1) → (∀ (x6 : Int), ((x6 = b2) → (∀ (x7 : Int), ((x7 = b3) → (((((Go.Sx.Wd x0) ∧
 ((Go.Sx.Wd x1) ∧
 ((Go.Sx.Wd x2) ∧
 (Go.Sx.Wd x3)))) ∧
 (((Go.Sx.Wd x4) ∧
 ((Go.Sx.Wd x5) ∧
 ((Go.Sx.Wd x6) ∧
 (Go.Sx.Wd x7)))) ∧
 ((Go.Sx.Wd (4332616871279656263 : Int)) ∧
 ((Go.Sx.Wd (10917124144477883021 : Int)) ∧
 ((Go.Sx.Wd (13281191951274694749 : Int)) ∧
 (Go.Sx.Wd (3486998266802970665 : Int))))))) ∧
 ((0 : Int) < (21888242871839275222246405745257275088696311157297823662689037894645226208583 : Int))) ∧
 (∀ (x8 : Int), ((x8 = (Go.Sx.lm (((Int.toNat (Go.Sx.V4 x0 x1 x2 x3)) * (Int.toNat (Go.Sx.V4 x4 x5 x6 x7))) % (21888242871839275222246405745257275088696311157297823662689037894645226208583 : Nat)) (0 : Nat))) → (∀ (x9 : Int), ((x9 = (Go.Sx.lm (((Int.toNat (Go.Sx.V4 x0 x1 x2 x3)) * (Int.toNat (Go.Sx.V4 x4 x5 x6 x7))) % (21888242871839275222246405745257275088696311157297823662689037894645226208583 : Nat)) (1 : Nat))) → (∀ (x10 : Int), ((x10 = (Go.Sx.lm (((Int.toNat (Go.Sx.V4 x0 x1 x2 x3)) * (Int.toNat (Go.Sx.V4 x4 x5 x6 x7))) % (21888242871839275222246405745257275088696311157297823662689037894645226208583 : Nat)) (2 : Nat))) → (∀ (x11 : Int), ((x11 = (Go.Sx.lm (((Int.toNat (Go.Sx.V4 x0 x1 x2 x3)) * (Int.toNat (Go.Sx.V4 x4 x5 x6 x7))) % (21888242871839275222246405745257275088696311157297823662689037894645226208583 : Nat)) (3 : Nat))) → (K (Go.Sx.SV.agg [(Go.Sx.SV.int Go.IntKind.u64 (Go.Sx.A.sym x8)), (Go.Sx.SV.int Go.IntKind.u64 (Go.Sx.A.sym x9)), (Go.Sx.SV.int Go.IntKind.u64 (Go.Sx.A.sym x10)), (Go.Sx.SV.int Go.IntKind.u64 (Go.Sx.A.sym x11))]) (Go.Sx.memL [((513 : Nat), (Go.Sx.Reg.mk Bool.false (Go.Sx.Ct.cells [(Go.Sx.SV.int Go.IntKind.u64 (Go.Sx.A.sym a0)), (Go.Sx.SV.int Go.IntKind.u64 (Go.Sx.A.sym a1)), (Go.Sx.SV.int Go.IntKind.u64 (Go.Sx.A.sym a2)), (Go.Sx.SV.int Go.IntKind.u64 (Go.Sx.A.sym a3))]))), ((521 : Nat), (Go.Sx.Reg.mk Bool.false (Go.Sx.Ct.cells [(Go.Sx.SV.int Go.IntKind.u64 (Go.Sx.A.sym b0)), (Go.Sx.SV.int Go.IntKind.u64 (Go.Sx.A.sym b1)), (Go.Sx.SV.int Go.IntKind.u64 (Go.Sx.A.sym b2)), (Go.Sx.SV.int Go.IntKind.u64 (Go.Sx.A.sym b3))]))), ((529 : Nat), (Go.Sx.Reg.mk Bool.false (Go.Sx.Ct.cells [(Go.Sx.SV.int Go.IntKind.u64 (Go.Sx.A.sym x8)), (Go.Sx.SV.int Go.IntKind.u64 (Go.Sx.A.sym x9)), (Go.Sx.SV.int Go.IntKind.u64 (Go.Sx.A.sym x10)), (Go.Sx.SV.int Go.IntKind.u64 (Go.Sx.A.sym x11))])))])))))))))))))))))))))))))))) := by kernel_rfl

def rMl : R0 := fun args l =>
  match args, l with
  | [.agg [.int .u64 (.sym a0), .int .u64 (.sym a1), .int .u64 (.sym a2), .int .u64 (.sym a3)], .agg [.int .u64 (.sym b0), .int .u64 (.sym b1), .int .u64 (.sym b2), .int .u64 (.sym b3)]], [] =>
    some (some ((Wd a0 ∧ Wd a1 ∧ Wd a2 ∧ Wd a3) ∧ (Wd b0 ∧ Wd b1 ∧ Wd b2 ∧ Wd b3)),
      ag4 (lm ((V4 a0 a1 a2 a3).toNat * (V4 b0 b1 b2 b3).toNat % 21888242871839275222246405745257275088696311157297823662689037894645226208583) 0) (lm ((V4 a0 a1 a2 a3).toNat * (V4 b0 b1 b2 b3).toNat % 21888242871839275222246405745257275088696311157297823662689037894645226208583) 1) (lm ((V4 a0 a1 a2 a3).toNat * (V4 b0 b1 b2 b3).toNat % 21888242871839275222246405745257275088696311157297823662689037894645226208583) 2) (lm ((V4 a0 a1 a2 a3).toNat * (V4 b0 b1 b2 b3).toNat % 21888242871839275222246405745257275088696311157297823662689037894645226208583) 3))
  | _, _ => none
theorem ml_ok (args : List SV) (l : List (Nat × Reg)) (p : Ob) (v : SV) (h : rMl args l = some (p, v)) (hp : p.ok) : ∃ U, execF cxMl U Tryd.f11 64 args (memL l) fun v' _ => v' = v := by
  unfold rMl at h
  split at h
  · rename_i a0 a1 a2 a3 b0 b1 b2 b3
    simp only [Option.some.injEq, Prod.mk.injEq] at h
    obtain ⟨rfl, rfl⟩ := h
    obtain ⟨ha, hb⟩ : (Wd a0 ∧ Wd a1 ∧ Wd a2 ∧ Wd a3) ∧ (Wd b0 ∧ Wd b1 ∧ Wd b2 ∧ Wd b3) := hp
    refine ⟨u9, ?_⟩
    have := vc_ml a0 a1 a2 a3 b0 b1 b2 b3 fun v' _ => v' = ag4 (lm ((V4 a0 a1 a2 a3).toNat * (V4 b0 b1 b2 b3).toNat % 21888242871839275222246405745257275088696311157297823662689037894645226208583) 0) (lm ((V4 a0 a1 a2 a3).toNat * (V4 b0 b1 b2 b3).toNat % 21888242871839275222246405745257275088696311157297823662689037894645226208583) 1) (lm ((V4 a0 a1 a2 a3).toNat * (V4 b0 b1 b2 b3).toNat % 21888242871839275222246405745257275088696311157297823662689037894645226208583) 2) (lm ((V4 a0 a1 a2 a3).toNat * (V4 b0 b1 b2 b3).toNat % 21888242871839275222246405745257275088696311157297823662689037894645226208583) 3)
    unfold ag4 at this
    refine this.mpr ?_
    clear this
    rintro _ rfl _ rfl _ rfl _ rfl _ rfl _ rfl _ rfl _ rfl
    refine ⟨⟨⟨ha, hb, wdq0, wdq1, wdq2, wdq3⟩, by decide⟩, ?_⟩
    rintro _ rfl _ rfl _ rfl _ rfl
    rfl
  · cases h
def cMl : Rd Tryd.prog := mkR mixed 11 Tryd.func11 (by decide) (by kernel_rfl) [] [.num, .num] rMl ml_ok
end Go.Sx

/- The loops of spec.HashField: two. -/
namespace Go.Sx
open Go Go.Proofs
set_option maxRecDepth 100000
def cxHf : Cx Tryd.prog := { rds := [cMl, cAd], efs := [cSE], eqs := [] }
structure HfI where
  i : Nat
  o : List Int
  cap : Nat
def spN (ys : List Int) (j : Nat) : Nat := chN ys j % qN
def liHf (ys : List Int) (n : Nat) : LI where
  ι := HfI
  keep := [2, 7]
  keepR := [553]
  F := fun s => ⟨[(8, .slice 593 (.lit 0) (.sym s.i) (.sym s.cap)), (9, i64n s.i)], [(593, ⟨false, .ints .u64 s.o⟩)]⟩
  I := fun _ s => s.i ≤ n ∧ s.i ≤ s.cap ∧ s.o.length = s.cap * 4 ∧ s.o.take (4 * s.i) = hfW (spN ys) s.i
  μ := fun s => n - s.i
  k := 1
structure HgI where
  k : Nat
  r : Nat
def liHg : LI where
  ι := HgI
  keep := [2, 7, 8, 9, 10]
  keepR := [553, 593]
  F := fun s => ⟨[(11, i64n s.k)], [(633, ⟨false, e4 s.r⟩)]⟩
  I := fun st s => s.k ≤ 48 ∧ s.r = beN (((st.reg 553).drop (48 * (st.int 9).toNat)).take s.k) % qN
  μ := fun s => 48 - s.k
def uHf (ys : List Int) (n : Nat) : Nat → Lp := fun b => match b with | 0 => .inv (liHf ys n) | 2 => .inv liHg | _ => .un 0
end Go.Sx

/- A byte more of a number of 48 bytes. -/
namespace Go.Sx
open Go
set_option maxRecDepth 100000
theorem drop_getD (ys : List Int) (s k : Nat) : (ys.drop s).getD k 0 = ys.getD (s + k) 0 := by
  rw [List.getD_eq_getElem?_getD, List.getElem?_drop, List.getD_eq_getElem?_getD]
theorem hg_step {ys : List Int} {s k r : Nat} (hk : s + k < ys.length) (hr : r = beN ((ys.drop s).take k) % qN) {b : Int} (hb : b = ys.getD (s + k) 0) (h0 : 0 ≤ b) :
    ((((r * 256 % 21888242871839275222246405745257275088696311157297823662689037894645226208583 : Nat) : Int) + b) % 21888242871839275222246405745257275088696311157297823662689037894645226208583).toNat = beN ((ys.drop s).take (k + 1)) % qN := by
  rw [beN_take (by rw [List.length_drop]; omega), drop_getD, ← hb, hr]
  generalize beN ((ys.drop s).take k) = x
  obtain ⟨c, rfl⟩ : ∃ c : Nat, b = c := ⟨b.toNat, by omega⟩
  rw [Int.toNat_natCast, ← Int.natCast_add, show (21888242871839275222246405745257275088696311157297823662689037894645226208583 : Int) = ((qN : Nat) : Int) from rfl, ← Int.natCast_emod, Int.toNat_natCast,
    show (21888242871839275222246405745257275088696311157297823662689037894645226208583 : Nat) = qN from rfl]
  rw [Nat.add_mod, Nat.mod_mod, Nat.mul_mod, Nat.mod_mod, ← Nat.mul_mod, ← Nat.add_mod]
theorem chN_row {ys xs : List Int} {n cap j : Nat} (h : Rw ys xs n cap) (hj : 48 * (j + 1) ≤ n) : (ys.drop (48 * j)).take 48 = (xs.drop (48 * j)).take 48 := by
  rw [← h.row, List.drop_take, List.take_take, Nat.min_eq_left (by omega)]
theorem w4_drop {o : List Int} {i n : Nat} {f : Nat → Nat} {ys : List Int} {r : Nat} (ho : o.take (4 * i) = hfW f i) (hr : r = f i)
    (h : (i + 1) ≤ n ∧ ys.length = n * 4 ∧ ys.take ((i + 1) * 4) = List.take (i * 4) (List.drop 0 o) ++ List.take 4 (List.drop 0 [lm r 0, lm r 1, lm r 2, lm r 3])) :
    ys.take (4 * (i + 1)) = hfW f (i + 1) := by
  rw [Nat.mul_comm 4, h.2.2, List.drop_zero, Nat.mul_comm i 4, ho, hr]
  rfl
theorem hfW_length (f : Nat → Nat) : ∀ n, (hfW f n).length = 4 * n
  | 0 => rfl
  | n + 1 => by
    show (hfW f n ++ elW (f n)).length = _
    rw [List.length_append, hfW_length f n]
    show 4 * n + 4 = _
    omega
theorem V4_lm {r : Nat} (h : r < qN) : V4 (lm r 0) (lm r 1) (lm r 2) (lm r 3) = (r : Int) := lm_val (by unfold qN at h; omega)
theorem V4_one (b : Int) : V4 b 0 0 0 = b := by unfold V4; omega
end Go.Sx

/- The contract of spec.HashField. -/
namespace Go.Sx
open Go Go.Proofs
set_option maxRecDepth 100000
theorem vc_hf (ex msg dst : List Int) (l c l2 c2 : Nat) (n : Int) (K : SV → Mem → Prop) : (execF cxHf (uHf ex n.toNat) Tryd.f5 64 [.slice 1 (.lit 0) (.sym l) (.sym c), .slice 9 (.lit 0) (.sym l2) (.sym c2), .int .i64 (.sym n)] (memL [(1, ⟨true, .ints .u8 msg⟩), (9, ⟨true, .ints .u8 dst⟩)]) K) =
  ((∀ (x0 : Int), ((x0 = (Go.IntKind.wrap Go.IntKind.i64 ((48 : Int) * n))) → (((((0 : Nat) + (l * (1 : Nat))) ≤ (List.length msg)) ∧
 (((0 : Nat) + (l2 * (1 : Nat))) ≤ (List.length dst))) ∧
 ((((List.length (List.take (l * (1 : Nat)) (List.drop (0 : Nat) msg))) = l) ∧
 (((List.length (List.take (l2 * (1 : Nat)) (List.drop (0 : Nat) dst))) = l2) ∧
 ((Go.Sx.Bytes (List.take (l * (1 : Nat)) (List.drop (0 : Nat) msg))) ∧
 ((Go.Sx.Bytes (List.take (l2 * (1 : Nat)) (List.drop (0 : Nat) dst))) ∧
 ((l ≤ (65536 : Nat)) ∧
 ((l2 ≤ (65536 : Nat)) ∧
 (((0 : Int) ≤ x0) ∧
 (x0 ≤ (65536 : Int))))))))) ∧
 (∀ (ys1 : (List Int)), (∀ (cap2 : Nat), ((Go.Sx.Rw ys1 (Go.Sx.expand (List.take (l * (1 : Nat)) (List.drop (0 : Nat) msg)) (List.take (l2 * (1 : Nat)) (List.drop (0 : Nat) dst)) (Int.toNat x0)) (Int.toNat x0) cap2) → (∀ (ys3 : (List Int)), ((ys3 = ys1) → ((∃ (i04 : Go.Sx.HfI), ((((Go.Sx.HfI.i i04) ≤ (Int.toNat n)) ∧
 (((Go.Sx.HfI.i i04) ≤ (Go.Sx.HfI.cap i04)) ∧
 (((List.length (Go.Sx.HfI.o i04)) = ((Go.Sx.HfI.cap i04) * (4 : Nat))) ∧
 ((List.take ((4 : Nat) * (Go.Sx.HfI.i i04)) (Go.Sx.HfI.o i04)) = (Go.Sx.hfW (Go.Sx.spN ex) (Go.Sx.HfI.i i04)))))) ∧
 (((n = n) ∧
 ((((Int.toNat x0) = (Int.toNat x0)) ∧
 (cap2 = cap2)) ∧
 ((((0 : Nat) = (Go.Sx.HfI.i i04)) ∧
 ((0 : Nat) = (Go.Sx.HfI.cap i04))) ∧
 ((0 : Int) = (((Go.Sx.HfI.i i04) : Nat) : Int))))) ∧
 ((ys3 = ys3) ∧
 ([] = (Go.Sx.HfI.o i04)))))) ∧
 (∀ (i5 : Go.Sx.HfI), ((((Go.Sx.HfI.i i5) ≤ (Int.toNat n)) ∧
 (((Go.Sx.HfI.i i5) ≤ (Go.Sx.HfI.cap i5)) ∧
 (((List.length (Go.Sx.HfI.o i5)) = ((Go.Sx.HfI.cap i5) * (4 : Nat))) ∧
 ((List.take ((4 : Nat) * (Go.Sx.HfI.i i5)) (Go.Sx.HfI.o i5)) = (Go.Sx.hfW (Go.Sx.spN ex) (Go.Sx.HfI.i i5)))))) → ((((decide ((((Go.Sx.HfI.i i5) : Nat) : Int) < n)) = Bool.true) → ((∃ (i06 : Go.Sx.HgI), ((((Go.Sx.HgI.k i06) ≤ (48 : Nat)) ∧
 ((Go.Sx.HgI.r i06) = ((Go.Sx.beN (List.take (Go.Sx.HgI.k i06) (List.drop ((48 : Nat) * (Int.toNat (((Go.Sx.HfI.i i5) : Nat) : Int))) ys3))) % (21888242871839275222246405745257275088696311157297823662689037894645226208583 : Nat)))) ∧
 (((n = n) ∧
 ((((Int.toNat x0) = (Int.toNat x0)) ∧
 (cap2 = cap2)) ∧
 ((((Go.Sx.HfI.i i5) = (Go.Sx.HfI.i i5)) ∧
 ((Go.Sx.HfI.cap i5) = (Go.Sx.HfI.cap i5))) ∧
 (((((Go.Sx.HfI.i i5) : Nat) : Int) = (((Go.Sx.HfI.i i5) : Nat) : Int)) ∧
 ((0 : Int) = (((Go.Sx.HgI.k i06) : Nat) : Int)))))) ∧
 ((ys3 = ys3) ∧
 (((Go.Sx.HfI.o i5) = (Go.Sx.HfI.o i5)) ∧
 (((0 : Int) = (Go.Sx.lm (Go.Sx.HgI.r i06) (0 : Nat))) ∧
 (((0 : Int) = (Go.Sx.lm (Go.Sx.HgI.r i06) (1 : Nat))) ∧
 (((0 : Int) = (Go.Sx.lm (Go.Sx.HgI.r i06) (2 : Nat))) ∧
 ((0 : Int) = (Go.Sx.lm (Go.Sx.HgI.r i06) (3 : Nat))))))))))) ∧
 (∀ (i7 : Go.Sx.HgI), ((((Go.Sx.HgI.k i7) ≤ (48 : Nat)) ∧
 ((Go.Sx.HgI.r i7) = ((Go.Sx.beN (List.take (Go.Sx.HgI.k i7) (List.drop ((48 : Nat) * (Int.toNat (((Go.Sx.HfI.i i5) : Nat) : Int))) ys3))) % (21888242871839275222246405745257275088696311157297823662689037894645226208583 : Nat)))) → ((((decide ((((Go.Sx.HgI.k i7) : Nat) : Int) < (48 : Int))) = Bool.true) → (∀ (x8 : Int), ((x8 = (Go.Sx.lm (Go.Sx.HgI.r i7) (0 : Nat))) → (∀ (x9 : Int), ((x9 = (Go.Sx.lm (Go.Sx.HgI.r i7) (1 : Nat))) → (∀ (x10 : Int), ((x10 = (Go.Sx.lm (Go.Sx.HgI.r i7) (2 : Nat))) → (∀ (x11 : Int), ((x11 = (Go.Sx.lm (Go.Sx.HgI.r i7) (3 : Nat))) → ((((Go.Sx.Wd x8) ∧
 ((Go.Sx.Wd x9) ∧
 ((Go.Sx.Wd x10) ∧
 (Go.Sx.Wd x11)))) ∧
 ((Go.Sx.Wd (256 : Int)) ∧
 ((Go.Sx.Wd (0 : Int)) ∧
 ((Go.Sx.Wd (0 : Int)) ∧
 (Go.Sx.Wd (0 : Int)))))) ∧
 (∀ (x12 : Int), ((x12 = (Go.Sx.lm (((Int.toNat (Go.Sx.V4 x8 x9 x10 x11)) * (256 : Nat)) % (21888242871839275222246405745257275088696311157297823662689037894645226208583 : Nat)) (0 : Nat))) → (∀ (x13 : Int), ((x13 = (Go.Sx.lm (((Int.toNat (Go.Sx.V4 x8 x9 x10 x11)) * (256 : Nat)) % (21888242871839275222246405745257275088696311157297823662689037894645226208583 : Nat)) (1 : Nat))) → (∀ (x14 : Int), ((x14 = (Go.Sx.lm (((Int.toNat (Go.Sx.V4 x8 x9 x10 x11)) * (256 : Nat)) % (21888242871839275222246405745257275088696311157297823662689037894645226208583 : Nat)) (2 : Nat))) → (∀ (x15 : Int), ((x15 = (Go.Sx.lm (((Int.toNat (Go.Sx.V4 x8 x9 x10 x11)) * (256 : Nat)) % (21888242871839275222246405745257275088696311157297823662689037894645226208583 : Nat)) (3 : Nat))) → (∀ (x16 : Int), ((x16 = (Go.IntKind.wrap Go.IntKind.i64 ((48 : Int) * (((Go.Sx.HfI.i i5) : Nat) : Int)))) → (∀ (x17 : Int), ((x17 = (Go.IntKind.wrap Go.IntKind.i64 (x16 + (((Go.Sx.HgI.k i7) : Nat) : Int)))) → ((((0 : Int) ≤ x17) ∧
 (x17 < (((Int.toNat x0) : Nat) : Int))) ∧
 (((((Int.toNat x17) * (1 : Nat)) + (1 : Nat)) ≤ (List.length ys3)) ∧
 (∀ (x18 : Int), ((x18 = (List.getD ys3 ((Int.toNat x17) * (1 : Nat)) (0 : Int))) → (∀ (x19 : Int), ((x19 = (Go.IntKind.wrap Go.IntKind.u64 x18)) → (((((Go.Sx.Wd x12) ∧
 ((Go.Sx.Wd x13) ∧
 ((Go.Sx.Wd x14) ∧
 (Go.Sx.Wd x15)))) ∧
 ((Go.Sx.Wd x19) ∧
 ((Go.Sx.Wd (0 : Int)) ∧
 ((Go.Sx.Wd (0 : Int)) ∧
 (Go.Sx.Wd (0 : Int)))))) ∧
 (((Go.Sx.V4 x12 x13 x14 x15) < (21888242871839275222246405745257275088696311157297823662689037894645226208583 : Int)) ∧
 ((Go.Sx.V4 x19 (0 : Int) (0 : Int) (0 : Int)) < (21888242871839275222246405745257275088696311157297823662689037894645226208583 : Int)))) ∧
 (∀ (x20 : Int), ((x20 = (Go.Sx.lm (Int.toNat (((Go.Sx.V4 x12 x13 x14 x15) + (Go.Sx.V4 x19 (0 : Int) (0 : Int) (0 : Int))) % (21888242871839275222246405745257275088696311157297823662689037894645226208583 : Int))) (0 : Nat))) → (∀ (x21 : Int), ((x21 = (Go.Sx.lm (Int.toNat (((Go.Sx.V4 x12 x13 x14 x15) + (Go.Sx.V4 x19 (0 : Int) (0 : Int) (0 : Int))) % (21888242871839275222246405745257275088696311157297823662689037894645226208583 : Int))) (1 : Nat))) → (∀ (x22 : Int), ((x22 = (Go.Sx.lm (Int.toNat (((Go.Sx.V4 x12 x13 x14 x15) + (Go.Sx.V4 x19 (0 : Int) (0 : Int) (0 : Int))) % (21888242871839275222246405745257275088696311157297823662689037894645226208583 : Int))) (2 : Nat))) → (∀ (x23 : Int), ((x23 = (Go.Sx.lm (Int.toNat (((Go.Sx.V4 x12 x13 x14 x15) + (Go.Sx.V4 x19 (0 : Int) (0 : Int) (0 : Int))) % (21888242871839275222246405745257275088696311157297823662689037894645226208583 : Int))) (3 : Nat))) → (∀ (x24 : Int), ((x24 = (Go.IntKind.wrap Go.IntKind.i64 ((((Go.Sx.HgI.k i7) : Nat) : Int) + (1 : Int)))) → (∃ (x25 : Go.Sx.HgI), ((((Go.Sx.HgI.k x25) ≤ (48 : Nat)) ∧
 ((Go.Sx.HgI.r x25) = ((Go.Sx.beN (List.take (Go.Sx.HgI.k x25) (List.drop ((48 : Nat) * (Int.toNat (((Go.Sx.HfI.i i5) : Nat) : Int))) ys3))) % (21888242871839275222246405745257275088696311157297823662689037894645226208583 : Nat)))) ∧
 ((((n = n) ∧
 ((((Int.toNat x0) = (Int.toNat x0)) ∧
 (cap2 = cap2)) ∧
 ((((Go.Sx.HfI.i i5) = (Go.Sx.HfI.i i5)) ∧
 ((Go.Sx.HfI.cap i5) = (Go.Sx.HfI.cap i5))) ∧
 (((((Go.Sx.HfI.i i5) : Nat) : Int) = (((Go.Sx.HfI.i i5) : Nat) : Int)) ∧
 (x24 = (((Go.Sx.HgI.k x25) : Nat) : Int)))))) ∧
 ((ys3 = ys3) ∧
 (((Go.Sx.HfI.o i5) = (Go.Sx.HfI.o i5)) ∧
 ((x20 = (Go.Sx.lm (Go.Sx.HgI.r x25) (0 : Nat))) ∧
 ((x21 = (Go.Sx.lm (Go.Sx.HgI.r x25) (1 : Nat))) ∧
 ((x22 = (Go.Sx.lm (Go.Sx.HgI.r x25) (2 : Nat))) ∧
 (x23 = (Go.Sx.lm (Go.Sx.HgI.r x25) (3 : Nat))))))))) ∧
 (((48 : Nat) - (Go.Sx.HgI.k x25)) < ((48 : Nat) - (Go.Sx.HgI.k i7))))))))))))))))))))))))))))))))))))))))))))) ∧
 (((decide ((((Go.Sx.HgI.k i7) : Nat) : Int) < (48 : Int))) = Bool.false) → (∀ (x26 : Int), ((x26 = (Go.Sx.lm (Go.Sx.HgI.r i7) (0 : Nat))) → (∀ (x27 : Int), ((x27 = (Go.Sx.lm (Go.Sx.HgI.r i7) (1 : Nat))) → (∀ (x28 : Int), ((x28 = (Go.Sx.lm (Go.Sx.HgI.r i7) (2 : Nat))) → (∀ (x29 : Int), ((x29 = (Go.Sx.lm (Go.Sx.HgI.r i7) (3 : Nat))) → (((((Go.Sx.HfI.i i5) ≤ (Go.Sx.HfI.cap i5)) ∧
 (((0 : Nat) + ((Go.Sx.HfI.cap i5) * (4 : Nat))) ≤ (List.length (Go.Sx.HfI.o i5)))) ∧
 ((Nat.le (4 : Nat) (List.length [x26, x27, x28, x29])) ∧
 (((((Go.Sx.HfI.i i5) + (1 : Nat)) * (32 : Nat)) ≤ (549755813888 : Nat)) ∧
 (((Go.Sx.HfI.i i5) + (1 : Nat)) ≤ (549755813888 : Nat))))) ∧
 (∀ (cap30 : Nat), (∀ (ys31 : (List Int)), (((((Go.Sx.HfI.i i5) + (1 : Nat)) ≤ cap30) ∧
 (((List.length ys31) = (cap30 * (4 : Nat))) ∧
 ((List.take (((Go.Sx.HfI.i i5) + (1 : Nat)) * (4 : Nat)) ys31) = ((List.take ((Go.Sx.HfI.i i5) * (4 : Nat)) (List.drop (0 : Nat) (Go.Sx.HfI.o i5))) ++ (List.take (4 : Nat) (List.drop (0 : Nat) [x26, x27, x28, x29])))))) → (∀ (x32 : Int), ((x32 = (Go.IntKind.wrap Go.IntKind.i64 ((((Go.Sx.HfI.i i5) : Nat) : Int) + (1 : Int)))) → (∃ (x33 : Go.Sx.HfI), ((((Go.Sx.HfI.i x33) ≤ (Int.toNat n)) ∧
 (((Go.Sx.HfI.i x33) ≤ (Go.Sx.HfI.cap x33)) ∧
 (((List.length (Go.Sx.HfI.o x33)) = ((Go.Sx.HfI.cap x33) * (4 : Nat))) ∧
 ((List.take ((4 : Nat) * (Go.Sx.HfI.i x33)) (Go.Sx.HfI.o x33)) = (Go.Sx.hfW (Go.Sx.spN ex) (Go.Sx.HfI.i x33)))))) ∧
 ((((n = n) ∧
 ((((Int.toNat x0) = (Int.toNat x0)) ∧
 (cap2 = cap2)) ∧
 (((((Go.Sx.HfI.i i5) + (1 : Nat)) = (Go.Sx.HfI.i x33)) ∧
 (cap30 = (Go.Sx.HfI.cap x33))) ∧
 (x32 = (((Go.Sx.HfI.i x33) : Nat) : Int))))) ∧
 ((ys3 = ys3) ∧
 (ys31 = (Go.Sx.HfI.o x33)))) ∧
 (((Int.toNat n) - (Go.Sx.HfI.i x33)) < ((Int.toNat n) - (Go.Sx.HfI.i i5)))))))))))))))))))))))))) ∧
 (((decide ((((Go.Sx.HfI.i i5) : Nat) : Int) < n)) = Bool.false) → (K (Go.Sx.SV.slice (593 : Nat) (Go.Sx.N.lit (0 : Nat)) (Go.Sx.N.sym (Go.Sx.HfI.i i5)) (Go.Sx.N.sym (Go.Sx.HfI.cap i5))) (Go.Sx.memL [((553 : Nat), (Go.Sx.Reg.mk Bool.false (Go.Sx.Ct.ints Go.IntKind.u8 ys3))), ((593 : Nat), (Go.Sx.Reg.mk Bool.false (Go.Sx.Ct.ints Go.IntKind.u64 (Go.Sx.HfI.o i5))))]))))))))))))))))) := by kernel_rfl
theorem vc_hfn (ex dst : List Int) (l2 c2 : Nat) (n : Int) (K : SV → Mem → Prop) : (execF cxHf (uHf ex n.toNat) Tryd.f5 64 [.val (.slice none 0 0), .slice 1 (.lit 0) (.sym l2) (.sym c2), .int .i64 (.sym n)] (memL [(1, ⟨true, .ints .u8 dst⟩)]) K) =
  ((∀ (x0 : Int), ((x0 = (Go.IntKind.wrap Go.IntKind.i64 ((48 : Int) * n))) → ((((0 : Nat) + (l2 * (1 : Nat))) ≤ (List.length dst)) ∧
 ((((List.length (List.take (l2 * (1 : Nat)) (List.drop (0 : Nat) dst))) = l2) ∧
 ((Go.Sx.Bytes (List.take (l2 * (1 : Nat)) (List.drop (0 : Nat) dst))) ∧
 ((l2 ≤ (65536 : Nat)) ∧
 (((0 : Int) ≤ x0) ∧
 (x0 ≤ (65536 : Int)))))) ∧
 (∀ (ys1 : (List Int)), (∀ (cap2 : Nat), ((Go.Sx.Rw ys1 (Go.Sx.expand [] (List.take (l2 * (1 : Nat)) (List.drop (0 : Nat) dst)) (Int.toNat x0)) (Int.toNat x0) cap2) → (∀ (ys3 : (List Int)), ((ys3 = ys1) → ((∃ (i04 : Go.Sx.HfI), ((((Go.Sx.HfI.i i04) ≤ (Int.toNat n)) ∧
 (((Go.Sx.HfI.i i04) ≤ (Go.Sx.HfI.cap i04)) ∧
 (((List.length (Go.Sx.HfI.o i04)) = ((Go.Sx.HfI.cap i04) * (4 : Nat))) ∧
 ((List.take ((4 : Nat) * (Go.Sx.HfI.i i04)) (Go.Sx.HfI.o i04)) = (Go.Sx.hfW (Go.Sx.spN ex) (Go.Sx.HfI.i i04)))))) ∧
 (((n = n) ∧
 ((((Int.toNat x0) = (Int.toNat x0)) ∧
 (cap2 = cap2)) ∧
 ((((0 : Nat) = (Go.Sx.HfI.i i04)) ∧
 ((0 : Nat) = (Go.Sx.HfI.cap i04))) ∧
 ((0 : Int) = (((Go.Sx.HfI.i i04) : Nat) : Int))))) ∧
 ((ys3 = ys3) ∧
 ([] = (Go.Sx.HfI.o i04)))))) ∧
 (∀ (i5 : Go.Sx.HfI), ((((Go.Sx.HfI.i i5) ≤ (Int.toNat n)) ∧
 (((Go.Sx.HfI.i i5) ≤ (Go.Sx.HfI.cap i5)) ∧
 (((List.length (Go.Sx.HfI.o i5)) = ((Go.Sx.HfI.cap i5) * (4 : Nat))) ∧
 ((List.take ((4 : Nat) * (Go.Sx.HfI.i i5)) (Go.Sx.HfI.o i5)) = (Go.Sx.hfW (Go.Sx.spN ex) (Go.Sx.HfI.i i5)))))) → ((((decide ((((Go.Sx.HfI.i i5) : Nat) : Int) < n)) = Bool.true) → ((∃ (i06 : Go.Sx.HgI), ((((Go.Sx.HgI.k i06) ≤ (48 : Nat)) ∧
 ((Go.Sx.HgI.r i06) = ((Go.Sx.beN (List.take (Go.Sx.HgI.k i06) (List.drop ((48 : Nat) * (Int.toNat (((Go.Sx.HfI.i i5) : Nat) : Int))) ys3))) % (21888242871839275222246405745257275088696311157297823662689037894645226208583 : Nat)))) ∧
 (((n = n) ∧
 ((((Int.toNat x0) = (Int.toNat x0)) ∧
 (cap2 = cap2)) ∧
 ((((Go.Sx.HfI.i i5) = (Go.Sx.HfI.i i5)) ∧
 ((Go.Sx.HfI.cap i5) = (Go.Sx.HfI.cap i5))) ∧
 (((((Go.Sx.HfI.i i5) : Nat) : Int) = (((Go.Sx.HfI.i i5) : Nat) : Int)) ∧
 ((0 : Int) = (((Go.Sx.HgI.k i06) : Nat) : Int)))))) ∧
 ((ys3 = ys3) ∧
 (((Go.Sx.HfI.o i5) = (Go.Sx.HfI.o i5)) ∧
 (((0 : Int) = (Go.Sx.lm (Go.Sx.HgI.r i06) (0 : Nat))) ∧
 (((0 : Int) = (Go.Sx.lm (Go.Sx.HgI.r i06) (1 : Nat))) ∧
 (((0 : Int) = (Go.Sx.lm (Go.Sx.HgI.r i06) (2 : Nat))) ∧
 ((0 : Int) = (Go.Sx.lm (Go.Sx.HgI.r i06) (3 : Nat))))))))))) ∧
 (∀ (i7 : Go.Sx.HgI), ((((Go.Sx.HgI.k i7) ≤ (48 : Nat)) ∧
 ((Go.Sx.HgI.r i7) = ((Go.Sx.beN (List.take (Go.Sx.HgI.k i7) (List.drop ((48 : Nat) * (Int.toNat (((Go.Sx.HfI.i i5) : Nat) : Int))) ys3))) % (21888242871839275222246405745257275088696311157297823662689037894645226208583 : Nat)))) → ((((decide ((((Go.Sx.HgI.k i7) : Nat) : Int) < (48 : Int))) = Bool.true) → (∀ (x8 : Int), ((x8 = (Go.Sx.lm (Go.Sx.HgI.r i7) (0 : Nat))) → (∀ (x9 : Int), ((x9 = (Go.Sx.lm (Go.Sx.HgI.r i7) (1 : Nat))) → (∀ (x10 : Int), ((x10 = (Go.Sx.lm (Go.Sx.HgI.r i7) (2 : Nat))) → (∀ (x11 : Int), ((x11 = (Go.Sx.lm (Go.Sx.HgI.r i7) (3 : Nat))) → ((((Go.Sx.Wd x8) ∧
 ((Go.Sx.Wd x9) ∧
 ((Go.Sx.Wd x10) ∧
 (Go.Sx.Wd x11)))) ∧
 ((Go.Sx.Wd (256 : Int)) ∧
 ((Go.Sx.Wd (0 : Int)) ∧
 ((Go.Sx.Wd (0 : Int)) ∧
 (Go.Sx.Wd (0 : Int)))))) ∧
 (∀ (x12 : Int), ((x12 = (Go.Sx.lm (((Int.toNat (Go.Sx.V4 x8 x9 x10 x11)) * (256 : Nat)) % (21888242871839275222246405745257275088696311157297823662689037894645226208583 : Nat)) (0 : Nat))) → (∀ (x13 : Int), ((x13 = (Go.Sx.lm (((Int.toNat (Go.Sx.V4 x8 x9 x10 x11)) * (256 : Nat)) % (21888242871839275222246405745257275088696311157297823662689037894645226208583 : Nat)) (1 : Nat))) → (∀ (x14 : Int), ((x14 = (Go.Sx.lm (((Int.toNat (Go.Sx.V4 x8 x9 x10 x11)) * (256 : Nat)) % (21888242871839275222246405745257275088696311157297823662689037894645226208583 : Nat)) (2 : Nat))) → (∀ (x15 : Int), ((x15 = (Go.Sx.lm (((Int.toNat (Go.Sx.V4 x8 x9 x10 x11)) * (256 : Nat)) % (21888242871839275222246405745257275088696311157297823662689037894645226208583 : Nat)) (3 : Nat))) → (∀ (x16 : Int), ((x16 = (Go.IntKind.wrap Go.IntKind.i64 ((48 : Int) * (((Go.Sx.HfI.i i5) : Nat) : Int)))) → (∀ (x17 : Int), ((x17 = (Go.IntKind.wrap Go.IntKind.i64 (x16 + (((Go.Sx.HgI.k i7) : Nat) : Int)))) → ((((0 : Int) ≤ x17) ∧
 (x17 < (((Int.toNat x0) : Nat) : Int))) ∧
 (((((Int.toNat x17) * (1 : Nat)) + (1 : Nat)) ≤ (List.length ys3)) ∧
 (∀ (x18 : Int), ((x18 = (List.getD ys3 ((Int.toNat x17) * (1 : Nat)) (0 : Int))) → (∀ (x19 : Int), ((x19 = (Go.IntKind.wrap Go.IntKind.u64 x18)) → (((((Go.Sx.Wd x12) ∧
 ((Go.Sx.Wd x13) ∧
 ((Go.Sx.Wd x14) ∧
 (Go.Sx.Wd x15)))) ∧
 ((Go.Sx.Wd x19) ∧
 ((Go.Sx.Wd (0 : Int)) ∧
 ((Go.Sx.Wd (0 : Int)) ∧
 (Go.Sx.Wd (0 : Int)))))) ∧
 (((Go.Sx.V4 x12 x13 x14 x15) < (21888242871839275222246405745257275088696311157297823662689037894645226208583 : Int)) ∧
 ((Go.Sx.V4 x19 (0 : Int) (0 : Int) (0 : Int)) < (21888242871839275222246405745257275088696311157297823662689037894645226208583 : Int)))) ∧
 (∀ (x20 : Int), ((x20 = (Go.Sx.lm (Int.toNat (((Go.Sx.V4 x12 x13 x14 x15) + (Go.Sx.V4 x19 (0 : Int) (0 : Int) (0 : Int))) % (21888242871839275222246405745257275088696311157297823662689037894645226208583 : Int))) (0 : Nat))) → (∀ (x21 : Int), ((x21 = (Go.Sx.lm (Int.toNat (((Go.Sx.V4 x12 x13 x14 x15) + (Go.Sx.V4 x19 (0 : Int) (0 : Int) (0 : Int))) % (21888242871839275222246405745257275088696311157297823662689037894645226208583 : Int))) (1 : Nat))) → (∀ (x22 : Int), ((x22 = (Go.Sx.lm (Int.toNat (((Go.Sx.V4 x12 x13 x14 x15) + (Go.Sx.V4 x19 (0 : Int) (0 : Int) (0 : Int))) % (21888242871839275222246405745257275088696311157297823662689037894645226208583 : Int))) (2 : Nat))) → (∀ (x23 : Int), ((x23 = (Go.Sx.lm (Int.toNat (((Go.Sx.V4 x12 x13 x14 x15) + (Go.Sx.V4 x19 (0 : Int) (0 : Int) (0 : Int))) % (21888242871839275222246405745257275088696311157297823662689037894645226208583 : Int))) (3 : Nat))) → (∀ (x24 : Int), ((x24 = (Go.IntKind.wrap Go.IntKind.i64 ((((Go.Sx.HgI.k i7) : Nat) : Int) + (1 : Int)))) → (∃ (x25 : Go.Sx.HgI), ((((Go.Sx.HgI.k x25) ≤ (48 : Nat)) ∧
 ((Go.Sx.HgI.r x25) = ((Go.Sx.beN (List.take (Go.Sx.HgI.k x25) (List.drop ((48 : Nat) * (Int.toNat (((Go.Sx.HfI.i i5) : Nat) : Int))) ys3))) % (21888242871839275222246405745257275088696311157297823662689037894645226208583 : Nat)))) ∧
 ((((n = n) ∧
 ((((Int.toNat x0) = (Int.toNat x0)) ∧
 (cap2 = cap2)) ∧
 ((((Go.Sx.HfI.i i5) = (Go.Sx.HfI.i i5)) ∧
 ((Go.Sx.HfI.cap i5) = (Go.Sx.HfI.cap i5))) ∧
 (((((Go.Sx.HfI.i i5) : Nat) : Int) = (((Go.Sx.HfI.i i5) : Nat) : Int)) ∧
 (x24 = (((Go.Sx.HgI.k x25) : Nat) : Int)))))) ∧
 ((ys3 = ys3) ∧
 (((Go.Sx.HfI.o i5) = (Go.Sx.HfI.o i5)) ∧
 ((x20 = (Go.Sx.lm (Go.Sx.HgI.r x25) (0 : Nat))) ∧
 ((x21 = (Go.Sx.lm (Go.Sx.HgI.r x25) (1 : Nat))) ∧
 ((x22 = (Go.Sx.lm (Go.Sx.HgI.r x25) (2 : Nat))) ∧
 (x23 = (Go.Sx.lm (Go.Sx.HgI.r x25) (3 : Nat))))))))) ∧
 (((48 : Nat) - (Go.Sx.HgI.k x25)) < ((48 : Nat) - (Go.Sx.HgI.k i7))))))))))))))))))))))))))))))))))))))))))))) ∧
 (((decide ((((Go.Sx.HgI.k i7) : Nat) : Int) < (48 : Int))) = Bool.false) → (∀ (x26 : Int), ((x26 = (Go.Sx.lm (Go.Sx.HgI.r i7) (0 : Nat))) → (∀ (x27 : Int), ((x27 = (Go.Sx.lm (Go.Sx.HgI.r i7) (1 : Nat))) → (∀ (x28 : Int), ((x28 = (Go.Sx.lm (Go.Sx.HgI.r i7) (2 : Nat))) → (∀ (x29 : Int), ((x29 = (Go.Sx.lm (Go.Sx.HgI.r i7) (3 : Nat))) → (((((Go.Sx.HfI.i i5) ≤ (Go.Sx.HfI.cap i5)) ∧
 (((0 : Nat) + ((Go.Sx.HfI.cap i5) * (4 : Nat))) ≤ (List.length (Go.Sx.HfI.o i5)))) ∧
 ((Nat.le (4 : Nat) (List.length [x26, x27, x28, x29])) ∧
 (((((Go.Sx.HfI.i i5) + (1 : Nat)) * (32 : Nat)) ≤ (549755813888 : Nat)) ∧
 (((Go.Sx.HfI.i i5) + (1 : Nat)) ≤ (549755813888 : Nat))))) ∧
 (∀ (cap30 : Nat), (∀ (ys31 : (List Int)), (((((Go.Sx.HfI.i i5) + (1 : Nat)) ≤ cap30) ∧
 (((List.length ys31) = (cap30 * (4 : Nat))) ∧
 ((List.take (((Go.Sx.HfI.i i5) + (1 : Nat)) * (4 : Nat)) ys31) = ((List.take ((Go.Sx.HfI.i i5) * (4 : Nat)) (List.drop (0 : Nat) (Go.Sx.HfI.o i5))) ++ (List.take (4 : Nat) (List.drop (0 : Nat) [x26, x27, x28, x29])))))) → (∀ (x32 : Int), ((x32 = (Go.IntKind.wrap Go.IntKind.i64 ((((Go.Sx.HfI.i i5) : Nat) : Int) + (1 : Int)))) → (∃ (x33 : Go.Sx.HfI), ((((Go.Sx.HfI.i x33) ≤ (Int.toNat n)) ∧
 (((Go.Sx.HfI.i x33) ≤ (Go.Sx.HfI.cap x33)) ∧
 (((List.length (Go.Sx.HfI.o x33)) = ((Go.Sx.HfI.cap x33) * (4 : Nat))) ∧
 ((List.take ((4 : Nat) * (Go.Sx.HfI.i x33)) (Go.Sx.HfI.o x33)) = (Go.Sx.hfW (Go.Sx.spN ex) (Go.Sx.HfI.i x33)))))) ∧
 ((((n = n) ∧
 ((((Int.toNat x0) = (Int.toNat x0)) ∧
 (cap2 = cap2)) ∧
 (((((Go.Sx.HfI.i i5) + (1 : Nat)) = (Go.Sx.HfI.i x33)) ∧
 (cap30 = (Go.Sx.HfI.cap x33))) ∧
 (x32 = (((Go.Sx.HfI.i x33) : Nat) : Int))))) ∧
 ((ys3 = ys3) ∧
 (ys31 = (Go.Sx.HfI.o x33)))) ∧
 (((Int.toNat n) - (Go.Sx.HfI.i x33)) < ((Int.toNat n) - (Go.Sx.HfI.i i5)))))))))))))))))))))))))) ∧
 (((decide ((((Go.Sx.HfI.i i5) : Nat) : Int) < n)) = Bool.false) → (K (Go.Sx.SV.slice (593 : Nat) (Go.Sx.N.lit (0 : Nat)) (Go.Sx.N.sym (Go.Sx.HfI.i i5)) (Go.Sx.N.sym (Go.Sx.HfI.cap i5))) (Go.Sx.memL [((553 : Nat), (Go.Sx.Reg.mk Bool.false (Go.Sx.Ct.ints Go.IntKind.u8 ys3))), ((593 : Nat), (Go.Sx.Reg.mk Bool.false (Go.Sx.Ct.ints Go.IntKind.u64 (Go.Sx.HfI.o i5))))]))))))))))))))))) := by kernel_rfl

theorem hf_walk (msg dst : List Int) (l c l2 c2 : Nat) (n : Int) (K : SV → Mem → Prop) (h1 : msg.length = l) (h2 : dst.length = l2) (b1 : Bytes msg) (b2 : Bytes dst) (m1 : l ≤ 65536) (m2 : l2 ≤ 65536) (n1 : 0 ≤ n) (n2 : n ≤ 170) (hup : KUp K)
    (hK : ∀ o cap, n.toNat ≤ cap → o.length = cap * 4 → o.take (4 * n.toNat) = hfW (spN (expand msg dst (n * 48).toNat)) n.toNat → K (.slice 593 (.lit 0) (.sym n.toNat) (.sym cap)) (memL [(593, ⟨false, .ints .u64 o⟩)])) :
    execF cxHf (uHf (expand msg dst (n * 48).toNat) n.toNat) Tryd.f5 64 [.slice 1 (.lit 0) (.sym l) (.sym c), .slice 9 (.lit 0) (.sym l2) (.sym c2), .int .i64 (.sym n)] (memL [(1, ⟨true, .ints .u8 msg⟩), (9, ⟨true, .ints .u8 dst⟩)]) K := by
  have t1 : List.take (l * 1) (List.drop 0 msg) = msg := by rw [Nat.mul_one, List.drop_zero, ← h1, List.take_length]
  have t2 : List.take (l2 * 1) (List.drop 0 dst) = dst := by rw [Nat.mul_one, List.drop_zero, ← h2, List.take_length]
  rw [vc_hf]
  intro x0 h0
  rw [wrap64 (by omega) (by omega)] at h0
  have e0 : x0.toNat = (n * 48).toNat := by omega
  have e1 : (n * 48).toNat = 48 * n.toNat := by omega
  simp only [t1, t2]
  refine ⟨⟨by omega, by omega⟩, ⟨h1, h2, b1, b2, m1, m2, by omega, by omega⟩, ?_⟩
  intro ys3 cap2 hrw ys1 h3
  subst h3
  rw [e0] at hrw
  have hl := hrw.len
  have hle := hrw.le
  have eb : ∀ z ∈ expand msg dst (n * 48).toNat, 0 ≤ z ∧ z < 256 := fun z hz => expand_bytes _ _ _ z hz
  refine ⟨⟨⟨0, [], 0⟩, ⟨⟨Nat.zero_le _, Nat.le_refl _, rfl, rfl⟩, ?_⟩⟩, ?_⟩
  · repeat' apply And.intro
    all_goals first | rfl | trivial
  rintro ⟨i, o, cap⟩ ⟨hi, hic, hol, ho⟩
  dsimp only at hi hic hol ho ⊢
  refine ⟨fun h => ?_, fun h => ?_⟩
  · simp only [decide_eq_true_eq] at h
    have hi' : i < n.toNat := by omega
    simp only [Int.toNat_natCast]
    refine ⟨⟨⟨0, 0⟩, ⟨⟨Nat.zero_le _, rfl⟩, ?_⟩⟩, ?_⟩
    · have z0 : ∀ i, lm 0 i = 0 := fun i => by
        unfold lm
        simp
      simp only [z0]
      repeat' apply And.intro
      all_goals first | rfl | trivial
    rintro ⟨k, r⟩ ⟨hk, hr⟩
    dsimp only at hk hr ⊢
    have hr : r = beN ((ys1.drop (48 * i)).take k) % qN := hr
    have hrl : r < qN := by rw [hr]; exact Nat.mod_lt _ (by unfold qN; omega)
    refine ⟨fun h => ?_, fun h => ?_⟩
    · simp only [decide_eq_true_eq] at h
      rintro x8 h8 x9 h9 x10 h10 x11 h11
      rw [h8, h9, h10, h11]
      refine ⟨⟨⟨lm_wd _ _, lm_wd _ _, lm_wd _ _, lm_wd _ _⟩, by unfold Wd; omega, wd0, wd0, wd0⟩, ?_⟩
      rintro x12 h12 x13 h13 x14 h14 x15 h15 x16 h16 x17 h17
      rw [wrap64 (by omega) (by omega)] at h16
      rw [wrap64 (by omega) (by omega)] at h17
      have e17 : x17.toNat = 48 * i + k := by omega
      refine ⟨⟨by omega, by omega⟩, by omega, ?_⟩
      rintro x18 h18 x19 h19
      rw [e17, Nat.mul_one] at h18
      have hb : 0 ≤ x18 ∧ x18 < 256 := by
        rw [h18, hrw.getD (by omega), List.getD_eq_getElem?_getD, List.getElem?_eq_getElem (by rw [hrw.xl]; omega)]
        exact eb _ (List.getElem_mem _)
      rw [wu64] at h19
      have e19 : x19 = x18 := by omega
      subst e19
      rw [V4_lm hrl, Int.toNat_natCast] at h12 h13 h14 h15
      have hq : r * 256 % 21888242871839275222246405745257275088696311157297823662689037894645226208583 < qN := Nat.mod_lt _ (by decide)
      rw [h12, h13, h14, h15, V4_lm hq, V4_one]
      refine ⟨⟨⟨⟨lm_wd _ _, lm_wd _ _, lm_wd _ _, lm_wd _ _⟩, by unfold Wd; omega, wd0, wd0, wd0⟩, by unfold qN at hq; omega, by omega⟩, ?_⟩
      rintro x20 h20 x21 h21 x22 h22 x23 h23 x24 h24
      rw [wrap64 (by omega) (by omega)] at h24
      have st := hg_step (ys := ys1) (s := 48 * i) (k := k) (by omega) hr h18 hb.1
      rw [st] at h20 h21 h22 h23
      refine ⟨⟨k + 1, beN ((ys1.drop (48 * i)).take (k + 1)) % qN⟩, ⟨by simp only; omega, rfl⟩, ?_⟩
      repeat' apply And.intro
      all_goals first | rfl | trivial | assumption | (simp only; omega)
    · simp only [decide_eq_false_iff_not] at h
      have hk48 : k = 48 := by omega
      rintro x26 h26 x27 h27 x28 h28 x29 h29
      rw [h26, h27, h28, h29]
      refine ⟨⟨⟨hic, by omega⟩, Nat.le_refl _, by omega, by omega⟩, ?_⟩
      intro cap30 ys31 ha x32 h32
      rw [wrap64 (by omega) (by omega)] at h32
      have hrf : r = spN (expand msg dst (n * 48).toNat) i := by
        rw [hr, hk48, chN_row hrw (by omega)]
        rfl
      refine ⟨⟨i + 1, ys31, cap30⟩, ⟨by simp only; omega, ha.1, ha.2.1, w4_drop ho hrf ha⟩, ?_⟩
      repeat' apply And.intro
      all_goals first | rfl | trivial | assumption | (simp only; omega)
  · simp only [decide_eq_false_iff_not] at h
    have hin : i = n.toNat := by omega
    subst hin
    exact hup.le (memL_sub [553, 593] rfl (by decide) (by
      intro x hx
      simp only [List.mem_cons, List.not_mem_nil, or_false] at hx ⊢
      simp [hx])) (hK o cap hic hol ho)

theorem hfn_walk (dst : List Int) (l2 c2 : Nat) (n : Int) (K : SV → Mem → Prop) (h2 : dst.length = l2) (b2 : Bytes dst) (m2 : l2 ≤ 65536) (n1 : 0 ≤ n) (n2 : n ≤ 170) (hup : KUp K)
    (hK : ∀ o cap, n.toNat ≤ cap → o.length = cap * 4 → o.take (4 * n.toNat) = hfW (spN (expand [] dst (n * 48).toNat)) n.toNat → K (.slice 593 (.lit 0) (.sym n.toNat) (.sym cap)) (memL [(593, ⟨false, .ints .u64 o⟩)])) :
    execF cxHf (uHf (expand [] dst (n * 48).toNat) n.toNat) Tryd.f5 64 [.val (.slice none 0 0), .slice 1 (.lit 0) (.sym l2) (.sym c2), .int .i64 (.sym n)] (memL [(1, ⟨true, .ints .u8 dst⟩)]) K := by
  have t2 : List.take (l2 * 1) (List.drop 0 dst) = dst := by rw [Nat.mul_one, List.drop_zero, ← h2, List.take_length]
  rw [vc_hfn]
  intro x0 h0
  rw [wrap64 (by omega) (by omega)] at h0
  have e0 : x0.toNat = (n * 48).toNat := by omega
  have e1 : (n * 48).toNat = 48 * n.toNat := by omega
  simp only [t2]
  refine ⟨by omega, ⟨h2, b2, m2, by omega, by omega⟩, ?_⟩
  intro ys3 cap2 hrw ys1 h3
  subst h3
  rw [e0] at hrw
  have hl := hrw.len
  have hle := hrw.le
  have eb : ∀ z ∈ expand [] dst (n * 48).toNat, 0 ≤ z ∧ z < 256 := fun z hz => expand_bytes _ _ _ z hz
  refine ⟨⟨⟨0, [], 0⟩, ⟨⟨Nat.zero_le _, Nat.le_refl _, rfl, rfl⟩, ?_⟩⟩, ?_⟩
  · repeat' apply And.intro
    all_goals first | rfl | trivial
  rintro ⟨i, o, cap⟩ ⟨hi, hic, hol, ho⟩
  dsimp only at hi hic hol ho ⊢
  refine ⟨fun h => ?_, fun h => ?_⟩
  · simp only [decide_eq_true_eq] at h
    have hi' : i < n.toNat := by omega
    simp only [Int.toNat_natCast]
    refine ⟨⟨⟨0, 0⟩, ⟨⟨Nat.zero_le _, rfl⟩, ?_⟩⟩, ?_⟩
    · have z0 : ∀ i, lm 0 i = 0 := fun i => by
        unfold lm
        simp
      simp only [z0]
      repeat' apply And.intro
      all_goals first | rfl | trivial
    rintro ⟨k, r⟩ ⟨hk, hr⟩
    dsimp only at hk hr ⊢
    have hr : r = beN ((ys1.drop (48 * i)).take k) % qN := hr
    have hrl : r < qN := by rw [hr]; exact Nat.mod_lt _ (by unfold qN; omega)
    refine ⟨fun h => ?_, fun h => ?_⟩
    · simp only [decide_eq_true_eq] at h
      rintro x8 h8 x9 h9 x10 h10 x11 h11
      rw [h8, h9, h10, h11]
      refine ⟨⟨⟨lm_wd _ _, lm_wd _ _, lm_wd _ _, lm_wd _ _⟩, by unfold Wd; omega, wd0, wd0, wd0⟩, ?_⟩
      rintro x12 h12 x13 h13 x14 h14 x15 h15 x16 h16 x17 h17
      rw [wrap64 (by omega) (by omega)] at h16
      rw [wrap64 (by omega) (by omega)] at h17
      have e17 : x17.toNat = 48 * i + k := by omega
      refine ⟨⟨by omega, by omega⟩, by omega, ?_⟩
      rintro x18 h18 x19 h19
      rw [e17, Nat.mul_one] at h18
      have hb : 0 ≤ x18 ∧ x18 < 256 := by
        rw [h18, hrw.getD (by omega), List.getD_eq_getElem?_getD, List.getElem?_eq_getElem (by rw [hrw.xl]; omega)]
        exact eb _ (List.getElem_mem _)
      rw [wu64] at h19
      have e19 : x19 = x18 := by omega
      subst e19
      rw [V4_lm hrl, Int.toNat_natCast] at h12 h13 h14 h15
      have hq : r * 256 % 21888242871839275222246405745257275088696311157297823662689037894645226208583 < qN := Nat.mod_lt _ (by decide)
      rw [h12, h13, h14, h15, V4_lm hq, V4_one]
      refine ⟨⟨⟨⟨lm_wd _ _, lm_wd _ _, lm_wd _ _, lm_wd _ _⟩, by unfold Wd; omega, wd0, wd0, wd0⟩, by unfold qN at hq; omega, by omega⟩, ?_⟩
      rintro x20 h20 x21 h21 x22 h22 x23 h23 x24 h24
      rw [wrap64 (by omega) (by omega)] at h24
      have st := hg_step (ys := ys1) (s := 48 * i) (k := k) (by omega) hr h18 hb.1
      rw [st] at h20 h21 h22 h23
      refine ⟨⟨k + 1, beN ((ys1.drop (48 * i)).take (k + 1)) % qN⟩, ⟨by simp only; omega, rfl⟩, ?_⟩
      repeat' apply And.intro
      all_goals first | rfl | trivial | assumption | (simp only; omega)
    · simp only [decide_eq_false_iff_not] at h
      have hk48 : k = 48 := by omega
      rintro x26 h26 x27 h27 x28 h28 x29 h29
      rw [h26, h27, h28, h29]
      refine ⟨⟨⟨hic, by omega⟩, Nat.le_refl _, by omega, by omega⟩, ?_⟩
      intro cap30 ys31 ha x32 h32
      rw [wrap64 (by omega) (by omega)] at h32
      have hrf : r = spN (expand [] dst (n * 48).toNat) i := by
        rw [hr, hk48, chN_row hrw (by omega)]
        rfl
      refine ⟨⟨i + 1, ys31, cap30⟩, ⟨by simp only; omega, ha.1, ha.2.1, w4_drop ho hrf ha⟩, ?_⟩
      repeat' apply And.intro
      all_goals first | rfl | trivial | assumption | (simp only; omega)
  · simp only [decide_eq_false_iff_not] at h
    have hin : i = n.toNat := by omega
    subst hin
    exact hup.le (memL_sub [553, 593] rfl (by decide) (by
      intro x hx
      simp only [List.mem_cons, List.not_mem_nil, or_false] at hx ⊢
      simp [hx])) (hK o cap hic hol ho)

def hfK (msg dst : List Int) (n : Int) (K : SV → Mem → Prop) : Prop :=
  ∀ o cap, n.toNat ≤ cap → o.length = cap * 4 → o.take (4 * n.toNat) = hfW (spN (expand msg dst (n * 48).toNat)) n.toNat → K (.slice 593 (.lit 0) (.sym n.toNat) (.sym cap)) (memL [(593, ⟨false, .ints .u64 o⟩)])
theorem hfK_live {msg dst : List Int} {n : Int} {K : SV → Mem → Prop} (h : hfK msg dst n K) : ∃ v m, K v m := by
  have l := hfW_length (spN (expand msg dst (n * 48).toNat)) n.toNat
  exact ⟨_, _, h _ n.toNat (Nat.le_refl _) (by rw [l, Nat.mul_comm]) (List.take_of_length_le (by omega))⟩
def gHf : G0 := fun args l K =>
  match args, l with
  | [.slice 1 (.lit 0) (.sym n1) (.sym _), .slice 9 (.lit 0) (.sym n2) (.sym _), .int .i64 (.sym n)], [(1, ⟨true, .ints .u8 msg⟩), (9, ⟨true, .ints .u8 dst⟩)] =>
    (msg.length = n1 ∧ dst.length = n2 ∧ Bytes msg ∧ Bytes dst ∧ n1 ≤ 65536 ∧ n2 ≤ 65536 ∧ 0 ≤ n ∧ n ≤ 170) ∧ hfK msg dst n K
  | [.val (.slice none 0 0), .slice 1 (.lit 0) (.sym n2) (.sym _), .int .i64 (.sym n)], [(1, ⟨true, .ints .u8 dst⟩)] =>
    (dst.length = n2 ∧ Bytes dst ∧ n2 ≤ 65536 ∧ 0 ≤ n ∧ n ≤ 170) ∧ hfK [] dst n K
  | _, _ => False
theorem hf_good : Good gHf := by
  constructor
  · intro args l K K' hk h
    unfold gHf at h ⊢
    split at h
    · exact ⟨h.1, fun o cap a b e => hk _ _ (h.2 o cap a b e)⟩
    · exact ⟨h.1, fun o cap a b e => hk _ _ (h.2 o cap a b e)⟩
    · exact h.elim
  · intro args l K h
    unfold gHf at h
    split at h
    · exact hfK_live h.2
    · exact hfK_live h.2
    · exact h.elim
theorem hf_ok (args : List SV) (l : List (Nat × Reg)) (K : SV → Mem → Prop) (hup : KUp K) (h : gHf args l K) : ∃ U, execF cxHf U Tryd.f5 64 args (memL l) K := by
  unfold gHf at h
  split at h
  · rename_i n1 c1 n2 c2 n msg dst
    obtain ⟨⟨h1, h2, h5, h6, h7, h8, h9, h10⟩, hc⟩ := h
    exact ⟨_, hf_walk msg dst n1 c1 n2 c2 n K h1 h2 h5 h6 h7 h8 h9 h10 hup hc⟩
  · rename_i n2 c2 n dst
    obtain ⟨⟨h2, h6, h8, h9, h10⟩, hc⟩ := h
    exact ⟨_, hfn_walk dst n2 c2 n K h2 h6 h8 h9 h10 hup hc⟩
  · exact h.elim
def cSHf : Ef Tryd.prog := mkNw mixed 5 Tryd.func5 (by decide) (by kernel_rfl) [] [.sl 1 true, .sl 1 true, .num] gHf hf_good hf_ok
end Go.Sx

/- The loop of impl.HashField. -/
namespace Go.Sx
open Go Go.Proofs
set_option maxRecDepth 100000
def cxIh : Cx Tryd.prog := { rds := [cBits], efs := [cClone, cFH], eqs := [] }
def liIh (ex : List Int) (n : Nat) : LI where
  ι := HfI
  keep := [30, 31]
  keepR := [617]
  F := fun s => ⟨[(10, .slice 809 (.lit 0) (.sym s.i) (.sym s.cap)), (32, i64n s.i)], [(809, ⟨false, .ints .u64 s.o⟩)]⟩
  I := fun _ s => s.i ≤ n ∧ s.i ≤ s.cap ∧ s.o.length = s.cap * 4 ∧ s.o.take (4 * s.i) = hfW (spN ex) s.i
  μ := fun s => n - s.i
  k := 1
def uIh (ex : List Int) (n : Nat) : Nat → Lp := fun b => match b with | 0 => .peel (liIh ex n) | _ => .un 0
end Go.Sx

/- The words of a row of numbers. -/
namespace Go.Sx
open Go
set_option maxRecDepth 100000
theorem hfW_at {f : Nat → Nat} : ∀ {n i j : Nat}, i < n → j < 4 → (hfW f n).getD (i * 4 + j) 0 = lm (f i) j
  | 0, _, _, h, _ => absurd h (Nat.not_lt_zero _)
  | n + 1, i, j, h, hj => by
    show (hfW f n ++ elW (f n)).getD (i * 4 + j) 0 = _
    have hl := hfW_length f n
    rw [List.getD_eq_getElem?_getD]
    by_cases hi : i < n
    · rw [List.getElem?_append_left (by omega), ← List.getD_eq_getElem?_getD, hfW_at hi hj]
    · have e : i = n := by omega
      subst e
      rw [List.getElem?_append_right (by omega), hl, show i * 4 + j - 4 * i = j by omega, ← List.getD_eq_getElem?_getD]
      exact elW_getD (f i) j hj
theorem bits_mont (v k : Nat) : bitsV (lm (mont v) 0) (lm (mont v) 1) (lm (mont v) 2) (lm (mont v) 3) k = lm (v % qN) k := by
  unfold bitsV
  rw [V4_lm (mont_lt v), Int.toNat_natCast, mont_back]
end Go.Sx

/- The contract of impl.HashField. -/
namespace Go.Sx
open Go Go.Proofs
set_option maxRecDepth 100000
theorem vc_ih (ex msg dst : List Int) (l c l2 c2 : Nat) (n : Int) (K : SV → Mem → Prop) : (execF cxIh (uIh ex n.toNat) Tryd.f4 64 [.slice 9 (.lit 0) (.sym l) (.sym c), .slice 17 (.lit 0) (.sym l2) (.sym c2), .int .i64 (.sym n)] (memL [(2, ⟨true, .ints .u32 kL⟩), (9, ⟨true, .ints .u8 msg⟩), (17, ⟨true, .ints .u8 dst⟩)]) K) =
  (((((decide (n < (1 : Int))) = Bool.true) → (K (Go.Sx.SV.tup [(Go.Sx.SV.val (Go.Value.slice Option.none (0 : Nat) (0 : Nat))), (Go.Sx.SV.bool (Go.Sx.B.lit Bool.false))]) (Go.Sx.memL [((2 : Nat), (Go.Sx.Reg.mk Bool.true (Go.Sx.Ct.ints Go.IntKind.u32 Go.Sx.kL))), ((9 : Nat), (Go.Sx.Reg.mk Bool.true (Go.Sx.Ct.ints Go.IntKind.u8 msg))), ((17 : Nat), (Go.Sx.Reg.mk Bool.true (Go.Sx.Ct.ints Go.IntKind.u8 dst)))]))) ∧
 (((decide (n < (1 : Int))) = Bool.false) → ((((decide (n > (10 : Int))) = Bool.true) → (K (Go.Sx.SV.tup [(Go.Sx.SV.val (Go.Value.slice Option.none (0 : Nat) (0 : Nat))), (Go.Sx.SV.bool (Go.Sx.B.lit Bool.false))]) (Go.Sx.memL [((2 : Nat), (Go.Sx.Reg.mk Bool.true (Go.Sx.Ct.ints Go.IntKind.u32 Go.Sx.kL))), ((9 : Nat), (Go.Sx.Reg.mk Bool.true (Go.Sx.Ct.ints Go.IntKind.u8 msg))), ((17 : Nat), (Go.Sx.Reg.mk Bool.true (Go.Sx.Ct.ints Go.IntKind.u8 dst)))]))) ∧
 (((decide (n > (10 : Int))) = Bool.false) → ((((0 : Nat) + (l * (1 : Nat))) ≤ (List.length msg)) ∧
 ((((List.length (List.take (l * (1 : Nat)) (List.drop (0 : Nat) msg))) = l) ∧
 (l ≤ (549755813888 : Nat))) ∧
 (∀ (ys0 : (List Int)), (∀ (cap1 : Nat), ((Go.Sx.Rw ys0 (List.take (l * (1 : Nat)) (List.drop (0 : Nat) msg)) l cap1) → (∀ (ys2 : (List Int)), ((ys2 = ys0) → ((((0 : Nat) + (l2 * (1 : Nat))) ≤ (List.length dst)) ∧
 ((((List.length (List.take (l2 * (1 : Nat)) (List.drop (0 : Nat) dst))) = l2) ∧
 (l2 ≤ (549755813888 : Nat))) ∧
 (∀ (ys3 : (List Int)), (∀ (cap4 : Nat), ((Go.Sx.Rw ys3 (List.take (l2 * (1 : Nat)) (List.drop (0 : Nat) dst)) l2 cap4) → (∀ (ys5 : (List Int)), ((ys5 = ys3) → (((((0 : Nat) + (l * (1 : Nat))) ≤ (List.length ys2)) ∧
 (((0 : Nat) + (l2 * (1 : Nat))) ≤ (List.length ys5))) ∧
 (((Go.Sx.kL = Go.Sx.kL) ∧
 (((List.length (List.take (l * (1 : Nat)) (List.drop (0 : Nat) ys2))) = l) ∧
 (((List.length (List.take (l2 * (1 : Nat)) (List.drop (0 : Nat) ys5))) = l2) ∧
 ((l ≤ cap1) ∧
 ((l2 ≤ cap4) ∧
 ((Go.Sx.Bytes (List.take (l * (1 : Nat)) (List.drop (0 : Nat) ys2))) ∧
 ((Go.Sx.Bytes (List.take (l2 * (1 : Nat)) (List.drop (0 : Nat) ys5))) ∧
 ((l ≤ (65536 : Nat)) ∧
 ((l2 ≤ (65536 : Nat)) ∧
 (((1 : Int) ≤ n) ∧
 (n ≤ (170 : Int)))))))))))) ∧
 ((((List.length (List.take (l2 * (1 : Nat)) (List.drop (0 : Nat) ys5))) > (255 : Nat)) → (∀ (s6 : ByteArray), (K (Go.Sx.SV.tup [(Go.Sx.SV.val (Go.Value.slice Option.none (0 : Nat) (0 : Nat))), (Go.Sx.SV.bool (Go.Sx.B.lit Bool.false))]) (Go.Sx.memL [((2 : Nat), (Go.Sx.Reg.mk Bool.true (Go.Sx.Ct.ints Go.IntKind.u32 Go.Sx.kL))), ((9 : Nat), (Go.Sx.Reg.mk Bool.true (Go.Sx.Ct.ints Go.IntKind.u8 msg))), ((17 : Nat), (Go.Sx.Reg.mk Bool.true (Go.Sx.Ct.ints Go.IntKind.u8 dst))), ((585 : Nat), (Go.Sx.Reg.mk Bool.false (Go.Sx.Ct.ints Go.IntKind.u8 ys2))), ((601 : Nat), (Go.Sx.Reg.mk Bool.false (Go.Sx.Ct.ints Go.IntKind.u8 ys5))), ((617 : Nat), (Go.Sx.Reg.mk Bool.false (Go.Sx.Ct.cells [(Go.Sx.SV.val (Go.Value.string s6))])))])))) ∧
 (((List.length (List.take (l2 * (1 : Nat)) (List.drop (0 : Nat) ys5))) ≤ (255 : Nat)) → (∀ (ws7 : (List Int)), ((ws7 = (Go.Sx.hfW (fun (j8 : Nat) => (Go.Sx.mont (Go.Sx.chN (Go.Sx.expand (List.take (l * (1 : Nat)) (List.drop (0 : Nat) ys2)) (List.take (l2 * (1 : Nat)) (List.drop (0 : Nat) ys5)) (Int.toNat (n * (48 : Int)))) j8))) (Int.toNat n))) → (∀ (ys9 : (List Int)), ((ys9 = ws7) → (∀ (x10 : Int), ((x10 = (((Int.toNat n) : Nat) : Int)) → ((((decide ((0 : Int) < x10)) = Bool.true) → ((((0 : Int) ≤ (0 : Int)) ∧
 ((0 : Int) < (((Int.toNat n) : Nat) : Int))) ∧
 (((4 : Nat) ≤ (List.length ys9)) ∧
 (∀ (x11 : Int), ((x11 = (List.getD ys9 (0 : Nat) (0 : Int))) → (∀ (x12 : Int), ((x12 = (List.getD ys9 (1 : Nat) (0 : Int))) → (∀ (x13 : Int), ((x13 = (List.getD ys9 (2 : Nat) (0 : Int))) → (∀ (x14 : Int), ((x14 = (List.getD ys9 (3 : Nat) (0 : Int))) → (((Go.Sx.Wd x11) ∧
 ((Go.Sx.Wd x12) ∧
 ((Go.Sx.Wd x13) ∧
 (Go.Sx.Wd x14)))) ∧
 (∀ (x15 : Int), ((x15 = (Go.Sx.bitsV x11 x12 x13 x14 (0 : Nat))) → (∀ (x16 : Int), ((x16 = (Go.Sx.bitsV x11 x12 x13 x14 (1 : Nat))) → (∀ (x17 : Int), ((x17 = (Go.Sx.bitsV x11 x12 x13 x14 (2 : Nat))) → (∀ (x18 : Int), ((x18 = (Go.Sx.bitsV x11 x12 x13 x14 (3 : Nat))) → ((True ∧
 ((Nat.le (4 : Nat) (List.length [x15, x16, x17, x18])) ∧
 (((32 : Nat) ≤ (549755813888 : Nat)) ∧
 ((1 : Nat) ≤ (549755813888 : Nat))))) ∧
 ((((1 : Nat) = (0 : Nat)) → ((∃ (i019 : Go.Sx.HfI), ((((Go.Sx.HfI.i i019) ≤ (Int.toNat n)) ∧
 (((Go.Sx.HfI.i i019) ≤ (Go.Sx.HfI.cap i019)) ∧
 (((List.length (Go.Sx.HfI.o i019)) = ((Go.Sx.HfI.cap i019) * (4 : Nat))) ∧
 ((List.take ((4 : Nat) * (Go.Sx.HfI.i i019)) (Go.Sx.HfI.o i019)) = (Go.Sx.hfW (Go.Sx.spN ex) (Go.Sx.HfI.i i019)))))) ∧
 False)) ∧
 (∀ (i20 : Go.Sx.HfI), ((((Go.Sx.HfI.i i20) ≤ (Int.toNat n)) ∧
 (((Go.Sx.HfI.i i20) ≤ (Go.Sx.HfI.cap i20)) ∧
 (((List.length (Go.Sx.HfI.o i20)) = ((Go.Sx.HfI.cap i20) * (4 : Nat))) ∧
 ((List.take ((4 : Nat) * (Go.Sx.HfI.i i20)) (Go.Sx.HfI.o i20)) = (Go.Sx.hfW (Go.Sx.spN ex) (Go.Sx.HfI.i i20)))))) → ((((decide ((((Go.Sx.HfI.i i20) : Nat) : Int) < x10)) = Bool.true) → ((((0 : Int) ≤ (((Go.Sx.HfI.i i20) : Nat) : Int)) ∧
 ((((Go.Sx.HfI.i i20) : Nat) : Int) < (((Int.toNat n) : Nat) : Int))) ∧
 (((((Int.toNat (((Go.Sx.HfI.i i20) : Nat) : Int)) * (4 : Nat)) + (4 : Nat)) ≤ (List.length ys9)) ∧
 (∀ (x21 : Int), ((x21 = (List.getD ys9 ((Int.toNat (((Go.Sx.HfI.i i20) : Nat) : Int)) * (4 : Nat)) (0 : Int))) → (∀ (x22 : Int), ((x22 = (List.getD ys9 (((Int.toNat (((Go.Sx.HfI.i i20) : Nat) : Int)) * (4 : Nat)) + (1 : Nat)) (0 : Int))) → (∀ (x23 : Int), ((x23 = (List.getD ys9 ((((Int.toNat (((Go.Sx.HfI.i i20) : Nat) : Int)) * (4 : Nat)) + (1 : Nat)) + (1 : Nat)) (0 : Int))) → (∀ (x24 : Int), ((x24 = (List.getD ys9 (((((Int.toNat (((Go.Sx.HfI.i i20) : Nat) : Int)) * (4 : Nat)) + (1 : Nat)) + (1 : Nat)) + (1 : Nat)) (0 : Int))) → (((Go.Sx.Wd x21) ∧
 ((Go.Sx.Wd x22) ∧
 ((Go.Sx.Wd x23) ∧
 (Go.Sx.Wd x24)))) ∧
 (∀ (x25 : Int), ((x25 = (Go.Sx.bitsV x21 x22 x23 x24 (0 : Nat))) → (∀ (x26 : Int), ((x26 = (Go.Sx.bitsV x21 x22 x23 x24 (1 : Nat))) → (∀ (x27 : Int), ((x27 = (Go.Sx.bitsV x21 x22 x23 x24 (2 : Nat))) → (∀ (x28 : Int), ((x28 = (Go.Sx.bitsV x21 x22 x23 x24 (3 : Nat))) → (((((Go.Sx.HfI.i i20) ≤ (Go.Sx.HfI.cap i20)) ∧
 (((0 : Nat) + ((Go.Sx.HfI.cap i20) * (4 : Nat))) ≤ (List.length (Go.Sx.HfI.o i20)))) ∧
 ((Nat.le (4 : Nat) (List.length [x25, x26, x27, x28])) ∧
 (((((Go.Sx.HfI.i i20) + (1 : Nat)) * (32 : Nat)) ≤ (549755813888 : Nat)) ∧
 (((Go.Sx.HfI.i i20) + (1 : Nat)) ≤ (549755813888 : Nat))))) ∧
 (∀ (cap29 : Nat), (∀ (ys30 : (List Int)), (((((Go.Sx.HfI.i i20) + (1 : Nat)) ≤ cap29) ∧
 (((List.length ys30) = (cap29 * (4 : Nat))) ∧
 ((List.take (((Go.Sx.HfI.i i20) + (1 : Nat)) * (4 : Nat)) ys30) = ((List.take ((Go.Sx.HfI.i i20) * (4 : Nat)) (List.drop (0 : Nat) (Go.Sx.HfI.o i20))) ++ (List.take (4 : Nat) (List.drop (0 : Nat) [x25, x26, x27, x28])))))) → (∀ (x31 : Int), ((x31 = (Go.IntKind.wrap Go.IntKind.i64 ((((Go.Sx.HfI.i i20) : Nat) : Int) + (1 : Int)))) → (∃ (x32 : Go.Sx.HfI), ((((Go.Sx.HfI.i x32) ≤ (Int.toNat n)) ∧
 (((Go.Sx.HfI.i x32) ≤ (Go.Sx.HfI.cap x32)) ∧
 (((List.length (Go.Sx.HfI.o x32)) = ((Go.Sx.HfI.cap x32) * (4 : Nat))) ∧
 ((List.take ((4 : Nat) * (Go.Sx.HfI.i x32)) (Go.Sx.HfI.o x32)) = (Go.Sx.hfW (Go.Sx.spN ex) (Go.Sx.HfI.i x32)))))) ∧
 ((((((Int.toNat n) = (Int.toNat n)) ∧
 ((Int.toNat n) = (Int.toNat n))) ∧
 ((x10 = x10) ∧
 (((((Go.Sx.HfI.i i20) + (1 : Nat)) = (Go.Sx.HfI.i x32)) ∧
 (cap29 = (Go.Sx.HfI.cap x32))) ∧
 (x31 = (((Go.Sx.HfI.i x32) : Nat) : Int))))) ∧
 ((ys9 = ys9) ∧
 (ys30 = (Go.Sx.HfI.o x32)))) ∧
 (((Int.toNat n) - (Go.Sx.HfI.i x32)) < ((Int.toNat n) - (Go.Sx.HfI.i i20)))))))))))))))))))))))))))))))) ∧
 (((decide ((((Go.Sx.HfI.i i20) : Nat) : Int) < x10)) = Bool.false) → (K (Go.Sx.SV.tup [(Go.Sx.SV.slice (809 : Nat) (Go.Sx.N.lit (0 : Nat)) (Go.Sx.N.sym (Go.Sx.HfI.i i20)) (Go.Sx.N.sym (Go.Sx.HfI.cap i20))), (Go.Sx.SV.bool (Go.Sx.B.lit Bool.true))]) (Go.Sx.memL [((617 : Nat), (Go.Sx.Reg.mk Bool.false (Go.Sx.Ct.ints Go.IntKind.u64 ys9))), ((809 : Nat), (Go.Sx.Reg.mk Bool.false (Go.Sx.Ct.ints Go.IntKind.u64 (Go.Sx.HfI.o i20))))])))))))) ∧
 (((0 : Nat) < (1 : Nat)) → (∀ (cap33 : Nat), (∀ (ys34 : (List Int)), ((((1 : Nat) ≤ cap33) ∧
 (((List.length ys34) = (cap33 * (4 : Nat))) ∧
 ((List.take (4 : Nat) ys34) = ([] ++ (List.take (4 : Nat) (List.drop (0 : Nat) [x15, x16, x17, x18])))))) → ((∃ (i035 : Go.Sx.HfI), ((((Go.Sx.HfI.i i035) ≤ (Int.toNat n)) ∧
 (((Go.Sx.HfI.i i035) ≤ (Go.Sx.HfI.cap i035)) ∧
 (((List.length (Go.Sx.HfI.o i035)) = ((Go.Sx.HfI.cap i035) * (4 : Nat))) ∧
 ((List.take ((4 : Nat) * (Go.Sx.HfI.i i035)) (Go.Sx.HfI.o i035)) = (Go.Sx.hfW (Go.Sx.spN ex) (Go.Sx.HfI.i i035)))))) ∧
 (((((Int.toNat n) = (Int.toNat n)) ∧
 ((Int.toNat n) = (Int.toNat n))) ∧
 ((x10 = x10) ∧
 ((((1 : Nat) = (Go.Sx.HfI.i i035)) ∧
 (cap33 = (Go.Sx.HfI.cap i035))) ∧
 ((1 : Int) = (((Go.Sx.HfI.i i035) : Nat) : Int))))) ∧
 ((ys9 = ys9) ∧
 (ys34 = (Go.Sx.HfI.o i035)))))) ∧
 (∀ (i36 : Go.Sx.HfI), ((((Go.Sx.HfI.i i36) ≤ (Int.toNat n)) ∧
 (((Go.Sx.HfI.i i36) ≤ (Go.Sx.HfI.cap i36)) ∧
 (((List.length (Go.Sx.HfI.o i36)) = ((Go.Sx.HfI.cap i36) * (4 : Nat))) ∧
 ((List.take ((4 : Nat) * (Go.Sx.HfI.i i36)) (Go.Sx.HfI.o i36)) = (Go.Sx.hfW (Go.Sx.spN ex) (Go.Sx.HfI.i i36)))))) → ((((decide ((((Go.Sx.HfI.i i36) : Nat) : Int) < x10)) = Bool.true) → ((((0 : Int) ≤ (((Go.Sx.HfI.i i36) : Nat) : Int)) ∧
 ((((Go.Sx.HfI.i i36) : Nat) : Int) < (((Int.toNat n) : Nat) : Int))) ∧
 (((((Int.toNat (((Go.Sx.HfI.i i36) : Nat) : Int)) * (4 : Nat)) + (4 : Nat)) ≤ (List.length ys9)) ∧
 (∀ (x37 : Int), ((x37 = (List.getD ys9 ((Int.toNat (((Go.Sx.HfI.i i36) : Nat) : Int)) * (4 : Nat)) (0 : Int))) → (∀ (x38 : Int), ((x38 = (List.getD ys9 (((Int.toNat (((Go.Sx.HfI.i i36) : Nat) : Int)) * (4 : Nat)) + (1 : Nat)) (0 : Int))) → (∀ (x39 : Int), ((x39 = (List.getD ys9 ((((Int.toNat (((Go.Sx.HfI.i i36) : Nat) : Int)) * (4 : Nat)) + (1 : Nat)) + (1 : Nat)) (0 : Int))) → (∀ (x40 : Int), ((x40 = (List.getD ys9 (((((Int.toNat (((Go.Sx.HfI.i i36) : Nat) : Int)) * (4 : Nat)) + (1 : Nat)) + (1 : Nat)) + (1 : Nat)) (0 : Int))) → (((Go.Sx.Wd x37) ∧
 ((Go.Sx.Wd x38) ∧
 ((Go.Sx.Wd x39) ∧
 (Go.Sx.Wd x40)))) ∧
 (∀ (x41 : Int), ((x41 = (Go.Sx.bitsV x37 x38 x39 x40 (0 : Nat))) → (∀ (x42 : Int), ((x42 = (Go.Sx.bitsV x37 x38 x39 x40 (1 : Nat))) → (∀ (x43 : Int), ((x43 = (Go.Sx.bitsV x37 x38 x39 x40 (2 : Nat))) → (∀ (x44 : Int), ((x44 = (Go.Sx.bitsV x37 x38 x39 x40 (3 : Nat))) → (((((Go.Sx.HfI.i i36) ≤ (Go.Sx.HfI.cap i36)) ∧
 (((0 : Nat) + ((Go.Sx.HfI.cap i36) * (4 : Nat))) ≤ (List.length (Go.Sx.HfI.o i36)))) ∧
 ((Nat.le (4 : Nat) (List.length [x41, x42, x43, x44])) ∧
 (((((Go.Sx.HfI.i i36) + (1 : Nat)) * (32 : Nat)) ≤ (549755813888 : Nat)) ∧
 (((Go.Sx.HfI.i i36) + (1 : Nat)) ≤ (549755813888 : Nat))))) ∧
 (∀ (cap45 : Nat), (∀ (ys46 : (List Int)), (((((Go.Sx.HfI.i i36) + (1 : Nat)) ≤ cap45) ∧
 (((List.length ys46) = (cap45 * (4 : Nat))) ∧
 ((List.take (((Go.Sx.HfI.i i36) + (1 : Nat)) * (4 : Nat)) ys46) = ((List.take ((Go.Sx.HfI.i i36) * (4 : Nat)) (List.drop (0 : Nat) (Go.Sx.HfI.o i36))) ++ (List.take (4 : Nat) (List.drop (0 : Nat) [x41, x42, x43, x44])))))) → (∀ (x47 : Int), ((x47 = (Go.IntKind.wrap Go.IntKind.i64 ((((Go.Sx.HfI.i i36) : Nat) : Int) + (1 : Int)))) → (∃ (x48 : Go.Sx.HfI), ((((Go.Sx.HfI.i x48) ≤ (Int.toNat n)) ∧
 (((Go.Sx.HfI.i x48) ≤ (Go.Sx.HfI.cap x48)) ∧
 (((List.length (Go.Sx.HfI.o x48)) = ((Go.Sx.HfI.cap x48) * (4 : Nat))) ∧
 ((List.take ((4 : Nat) * (Go.Sx.HfI.i x48)) (Go.Sx.HfI.o x48)) = (Go.Sx.hfW (Go.Sx.spN ex) (Go.Sx.HfI.i x48)))))) ∧
 ((((((Int.toNat n) = (Int.toNat n)) ∧
 ((Int.toNat n) = (Int.toNat n))) ∧
 ((x10 = x10) ∧
 (((((Go.Sx.HfI.i i36) + (1 : Nat)) = (Go.Sx.HfI.i x48)) ∧
 (cap45 = (Go.Sx.HfI.cap x48))) ∧
 (x47 = (((Go.Sx.HfI.i x48) : Nat) : Int))))) ∧
 ((ys9 = ys9) ∧
 (ys46 = (Go.Sx.HfI.o x48)))) ∧
 (((Int.toNat n) - (Go.Sx.HfI.i x48)) < ((Int.toNat n) - (Go.Sx.HfI.i i36)))))))))))))))))))))))))))))))) ∧
 (((decide ((((Go.Sx.HfI.i i36) : Nat) : Int) < x10)) = Bool.false) → (K (Go.Sx.SV.tup [(Go.Sx.SV.slice (809 : Nat) (Go.Sx.N.lit (0 : Nat)) (Go.Sx.N.sym (Go.Sx.HfI.i i36)) (Go.Sx.N.sym (Go.Sx.HfI.cap i36))), (Go.Sx.SV.bool (Go.Sx.B.lit Bool.true))]) (Go.Sx.memL [((617 : Nat), (Go.Sx.Reg.mk Bool.false (Go.Sx.Ct.ints Go.IntKind.u64 ys9))), ((809 : Nat), (Go.Sx.Reg.mk Bool.false (Go.Sx.Ct.ints Go.IntKind.u64 (Go.Sx.HfI.o i36))))]))))))))))))))))))))))))))))))))) ∧
 (((decide ((0 : Int) < x10)) = Bool.false) → (K (Go.Sx.SV.tup [(Go.Sx.SV.val (Go.Value.slice Option.none (0 : Nat) (0 : Nat))), (Go.Sx.SV.bool (Go.Sx.B.lit Bool.true))]) (Go.Sx.memL [((2 : Nat), (Go.Sx.Reg.mk Bool.true (Go.Sx.Ct.ints Go.IntKind.u32 Go.Sx.kL))), ((9 : Nat), (Go.Sx.Reg.mk Bool.true (Go.Sx.Ct.ints Go.IntKind.u8 msg))), ((17 : Nat), (Go.Sx.Reg.mk Bool.true (Go.Sx.Ct.ints Go.IntKind.u8 dst))), ((585 : Nat), (Go.Sx.Reg.mk Bool.false (Go.Sx.Ct.ints Go.IntKind.u8 ys2))), ((601 : Nat), (Go.Sx.Reg.mk Bool.false (Go.Sx.Ct.ints Go.IntKind.u8 ys5))), ((617 : Nat), (Go.Sx.Reg.mk Bool.false (Go.Sx.Ct.ints Go.IntKind.u64 ys9)))]))))))))))))))))))))))))))))))))) := by kernel_rfl
theorem vc_ihn (ex dst : List Int) (l2 c2 : Nat) (n : Int) (K : SV → Mem → Prop) : (execF cxIh (uIh ex n.toNat) Tryd.f4 64 [.val (.slice none 0 0), .slice 9 (.lit 0) (.sym l2) (.sym c2), .int .i64 (.sym n)] (memL [(2, ⟨true, .ints .u32 kL⟩), (9, ⟨true, .ints .u8 dst⟩)]) K) =
  (((((decide (n < (1 : Int))) = Bool.true) → (K (Go.Sx.SV.tup [(Go.Sx.SV.val (Go.Value.slice Option.none (0 : Nat) (0 : Nat))), (Go.Sx.SV.bool (Go.Sx.B.lit Bool.false))]) (Go.Sx.memL [((2 : Nat), (Go.Sx.Reg.mk Bool.true (Go.Sx.Ct.ints Go.IntKind.u32 Go.Sx.kL))), ((9 : Nat), (Go.Sx.Reg.mk Bool.true (Go.Sx.Ct.ints Go.IntKind.u8 dst)))]))) ∧
 (((decide (n < (1 : Int))) = Bool.false) → ((((decide (n > (10 : Int))) = Bool.true) → (K (Go.Sx.SV.tup [(Go.Sx.SV.val (Go.Value.slice Option.none (0 : Nat) (0 : Nat))), (Go.Sx.SV.bool (Go.Sx.B.lit Bool.false))]) (Go.Sx.memL [((2 : Nat), (Go.Sx.Reg.mk Bool.true (Go.Sx.Ct.ints Go.IntKind.u32 Go.Sx.kL))), ((9 : Nat), (Go.Sx.Reg.mk Bool.true (Go.Sx.Ct.ints Go.IntKind.u8 dst)))]))) ∧
 (((decide (n > (10 : Int))) = Bool.false) → ((((0 : Nat) + (l2 * (1 : Nat))) ≤ (List.length dst)) ∧
 ((((List.length (List.take (l2 * (1 : Nat)) (List.drop (0 : Nat) dst))) = l2) ∧
 (l2 ≤ (549755813888 : Nat))) ∧
 (∀ (ys0 : (List Int)), (∀ (cap1 : Nat), ((Go.Sx.Rw ys0 (List.take (l2 * (1 : Nat)) (List.drop (0 : Nat) dst)) l2 cap1) → (∀ (ys2 : (List Int)), ((ys2 = ys0) → ((((0 : Nat) + (l2 * (1 : Nat))) ≤ (List.length ys2)) ∧
 (((Go.Sx.kL = Go.Sx.kL) ∧
 (((List.length (List.take (l2 * (1 : Nat)) (List.drop (0 : Nat) ys2))) = l2) ∧
 ((l2 ≤ cap1) ∧
 ((Go.Sx.Bytes (List.take (l2 * (1 : Nat)) (List.drop (0 : Nat) ys2))) ∧
 ((l2 ≤ (65536 : Nat)) ∧
 (((1 : Int) ≤ n) ∧
 (n ≤ (170 : Int)))))))) ∧
 ((((List.length (List.take (l2 * (1 : Nat)) (List.drop (0 : Nat) ys2))) > (255 : Nat)) → (∀ (s3 : ByteArray), (K (Go.Sx.SV.tup [(Go.Sx.SV.val (Go.Value.slice Option.none (0 : Nat) (0 : Nat))), (Go.Sx.SV.bool (Go.Sx.B.lit Bool.false))]) (Go.Sx.memL [((2 : Nat), (Go.Sx.Reg.mk Bool.true (Go.Sx.Ct.ints Go.IntKind.u32 Go.Sx.kL))), ((9 : Nat), (Go.Sx.Reg.mk Bool.true (Go.Sx.Ct.ints Go.IntKind.u8 dst))), ((601 : Nat), (Go.Sx.Reg.mk Bool.false (Go.Sx.Ct.ints Go.IntKind.u8 ys2))), ((617 : Nat), (Go.Sx.Reg.mk Bool.false (Go.Sx.Ct.cells [(Go.Sx.SV.val (Go.Value.string s3))])))])))) ∧
 (((List.length (List.take (l2 * (1 : Nat)) (List.drop (0 : Nat) ys2))) ≤ (255 : Nat)) → (∀ (ws4 : (List Int)), ((ws4 = (Go.Sx.hfW (fun (j5 : Nat) => (Go.Sx.mont (Go.Sx.chN (Go.Sx.expand [] (List.take (l2 * (1 : Nat)) (List.drop (0 : Nat) ys2)) (Int.toNat (n * (48 : Int)))) j5))) (Int.toNat n))) → (∀ (ys6 : (List Int)), ((ys6 = ws4) → (∀ (x7 : Int), ((x7 = (((Int.toNat n) : Nat) : Int)) → ((((decide ((0 : Int) < x7)) = Bool.true) → ((((0 : Int) ≤ (0 : Int)) ∧
 ((0 : Int) < (((Int.toNat n) : Nat) : Int))) ∧
 (((4 : Nat) ≤ (List.length ys6)) ∧
 (∀ (x8 : Int), ((x8 = (List.getD ys6 (0 : Nat) (0 : Int))) → (∀ (x9 : Int), ((x9 = (List.getD ys6 (1 : Nat) (0 : Int))) → (∀ (x10 : Int), ((x10 = (List.getD ys6 (2 : Nat) (0 : Int))) → (∀ (x11 : Int), ((x11 = (List.getD ys6 (3 : Nat) (0 : Int))) → (((Go.Sx.Wd x8) ∧
 ((Go.Sx.Wd x9) ∧
 ((Go.Sx.Wd x10) ∧
 (Go.Sx.Wd x11)))) ∧
 (∀ (x12 : Int), ((x12 = (Go.Sx.bitsV x8 x9 x10 x11 (0 : Nat))) → (∀ (x13 : Int), ((x13 = (Go.Sx.bitsV x8 x9 x10 x11 (1 : Nat))) → (∀ (x14 : Int), ((x14 = (Go.Sx.bitsV x8 x9 x10 x11 (2 : Nat))) → (∀ (x15 : Int), ((x15 = (Go.Sx.bitsV x8 x9 x10 x11 (3 : Nat))) → ((True ∧
 ((Nat.le (4 : Nat) (List.length [x12, x13, x14, x15])) ∧
 (((32 : Nat) ≤ (549755813888 : Nat)) ∧
 ((1 : Nat) ≤ (549755813888 : Nat))))) ∧
 ((((1 : Nat) = (0 : Nat)) → ((∃ (i016 : Go.Sx.HfI), ((((Go.Sx.HfI.i i016) ≤ (Int.toNat n)) ∧
 (((Go.Sx.HfI.i i016) ≤ (Go.Sx.HfI.cap i016)) ∧
 (((List.length (Go.Sx.HfI.o i016)) = ((Go.Sx.HfI.cap i016) * (4 : Nat))) ∧
 ((List.take ((4 : Nat) * (Go.Sx.HfI.i i016)) (Go.Sx.HfI.o i016)) = (Go.Sx.hfW (Go.Sx.spN ex) (Go.Sx.HfI.i i016)))))) ∧
 False)) ∧
 (∀ (i17 : Go.Sx.HfI), ((((Go.Sx.HfI.i i17) ≤ (Int.toNat n)) ∧
 (((Go.Sx.HfI.i i17) ≤ (Go.Sx.HfI.cap i17)) ∧
 (((List.length (Go.Sx.HfI.o i17)) = ((Go.Sx.HfI.cap i17) * (4 : Nat))) ∧
 ((List.take ((4 : Nat) * (Go.Sx.HfI.i i17)) (Go.Sx.HfI.o i17)) = (Go.Sx.hfW (Go.Sx.spN ex) (Go.Sx.HfI.i i17)))))) → ((((decide ((((Go.Sx.HfI.i i17) : Nat) : Int) < x7)) = Bool.true) → ((((0 : Int) ≤ (((Go.Sx.HfI.i i17) : Nat) : Int)) ∧
 ((((Go.Sx.HfI.i i17) : Nat) : Int) < (((Int.toNat n) : Nat) : Int))) ∧
 (((((Int.toNat (((Go.Sx.HfI.i i17) : Nat) : Int)) * (4 : Nat)) + (4 : Nat)) ≤ (List.length ys6)) ∧
 (∀ (x18 : Int), ((x18 = (List.getD ys6 ((Int.toNat (((Go.Sx.HfI.i i17) : Nat) : Int)) * (4 : Nat)) (0 : Int))) → (∀ (x19 : Int), ((x19 = (List.getD ys6 (((Int.toNat (((Go.Sx.HfI.i i17) : Nat) : Int)) * (4 : Nat)) + (1 : Nat)) (0 : Int))) → (∀ (x20 : Int), ((x20 = (List.getD ys6 ((((Int.toNat (((Go.Sx.HfI.i i17) : Nat) : Int)) * (4 : Nat)) + (1 : Nat)) + (1 : Nat)) (0 : Int))) → (∀ (x21 : Int), ((x21 = (List.getD ys6 (((((Int.toNat (((Go.Sx.HfI.i i17) : Nat) : Int)) * (4 : Nat)) + (1 : Nat)) + (1 : Nat)) + (1 : Nat)) (0 : Int))) → (((Go.Sx.Wd x18) ∧
 ((Go.Sx.Wd x19) ∧
 ((Go.Sx.Wd x20) ∧
 (Go.Sx.Wd x21)))) ∧
 (∀ (x22 : Int), ((x22 = (Go.Sx.bitsV x18 x19 x20 x21 (0 : Nat))) → (∀ (x23 : Int), ((x23 = (Go.Sx.bitsV x18 x19 x20 x21 (1 : Nat))) → (∀ (x24 : Int), ((x24 = (Go.Sx.bitsV x18 x19 x20 x21 (2 : Nat))) → (∀ (x25 : Int), ((x25 = (Go.Sx.bitsV x18 x19 x20 x21 (3 : Nat))) → (((((Go.Sx.HfI.i i17) ≤ (Go.Sx.HfI.cap i17)) ∧
 (((0 : Nat) + ((Go.Sx.HfI.cap i17) * (4 : Nat))) ≤ (List.length (Go.Sx.HfI.o i17)))) ∧
 ((Nat.le (4 : Nat) (List.length [x22, x23, x24, x25])) ∧
 (((((Go.Sx.HfI.i i17) + (1 : Nat)) * (32 : Nat)) ≤ (549755813888 : Nat)) ∧
 (((Go.Sx.HfI.i i17) + (1 : Nat)) ≤ (549755813888 : Nat))))) ∧
 (∀ (cap26 : Nat), (∀ (ys27 : (List Int)), (((((Go.Sx.HfI.i i17) + (1 : Nat)) ≤ cap26) ∧
 (((List.length ys27) = (cap26 * (4 : Nat))) ∧
 ((List.take (((Go.Sx.HfI.i i17) + (1 : Nat)) * (4 : Nat)) ys27) = ((List.take ((Go.Sx.HfI.i i17) * (4 : Nat)) (List.drop (0 : Nat) (Go.Sx.HfI.o i17))) ++ (List.take (4 : Nat) (List.drop (0 : Nat) [x22, x23, x24, x25])))))) → (∀ (x28 : Int), ((x28 = (Go.IntKind.wrap Go.IntKind.i64 ((((Go.Sx.HfI.i i17) : Nat) : Int) + (1 : Int)))) → (∃ (x29 : Go.Sx.HfI), ((((Go.Sx.HfI.i x29) ≤ (Int.toNat n)) ∧
 (((Go.Sx.HfI.i x29) ≤ (Go.Sx.HfI.cap x29)) ∧
 (((List.length (Go.Sx.HfI.o x29)) = ((Go.Sx.HfI.cap x29) * (4 : Nat))) ∧
 ((List.take ((4 : Nat) * (Go.Sx.HfI.i x29)) (Go.Sx.HfI.o x29)) = (Go.Sx.hfW (Go.Sx.spN ex) (Go.Sx.HfI.i x29)))))) ∧
 ((((((Int.toNat n) = (Int.toNat n)) ∧
 ((Int.toNat n) = (Int.toNat n))) ∧
 ((x7 = x7) ∧
 (((((Go.Sx.HfI.i i17) + (1 : Nat)) = (Go.Sx.HfI.i x29)) ∧
 (cap26 = (Go.Sx.HfI.cap x29))) ∧
 (x28 = (((Go.Sx.HfI.i x29) : Nat) : Int))))) ∧
 ((ys6 = ys6) ∧
 (ys27 = (Go.Sx.HfI.o x29)))) ∧
 (((Int.toNat n) - (Go.Sx.HfI.i x29)) < ((Int.toNat n) - (Go.Sx.HfI.i i17)))))))))))))))))))))))))))))))) ∧
 (((decide ((((Go.Sx.HfI.i i17) : Nat) : Int) < x7)) = Bool.false) → (K (Go.Sx.SV.tup [(Go.Sx.SV.slice (809 : Nat) (Go.Sx.N.lit (0 : Nat)) (Go.Sx.N.sym (Go.Sx.HfI.i i17)) (Go.Sx.N.sym (Go.Sx.HfI.cap i17))), (Go.Sx.SV.bool (Go.Sx.B.lit Bool.true))]) (Go.Sx.memL [((617 : Nat), (Go.Sx.Reg.mk Bool.false (Go.Sx.Ct.ints Go.IntKind.u64 ys6))), ((809 : Nat), (Go.Sx.Reg.mk Bool.false (Go.Sx.Ct.ints Go.IntKind.u64 (Go.Sx.HfI.o i17))))])))))))) ∧
 (((0 : Nat) < (1 : Nat)) → (∀ (cap30 : Nat), (∀ (ys31 : (List Int)), ((((1 : Nat) ≤ cap30) ∧
 (((List.length ys31) = (cap30 * (4 : Nat))) ∧
 ((List.take (4 : Nat) ys31) = ([] ++ (List.take (4 : Nat) (List.drop (0 : Nat) [x12, x13, x14, x15])))))) → ((∃ (i032 : Go.Sx.HfI), ((((Go.Sx.HfI.i i032) ≤ (Int.toNat n)) ∧
 (((Go.Sx.HfI.i i032) ≤ (Go.Sx.HfI.cap i032)) ∧
 (((List.length (Go.Sx.HfI.o i032)) = ((Go.Sx.HfI.cap i032) * (4 : Nat))) ∧
 ((List.take ((4 : Nat) * (Go.Sx.HfI.i i032)) (Go.Sx.HfI.o i032)) = (Go.Sx.hfW (Go.Sx.spN ex) (Go.Sx.HfI.i i032)))))) ∧
 (((((Int.toNat n) = (Int.toNat n)) ∧
 ((Int.toNat n) = (Int.toNat n))) ∧
 ((x7 = x7) ∧
 ((((1 : Nat) = (Go.Sx.HfI.i i032)) ∧
 (cap30 = (Go.Sx.HfI.cap i032))) ∧
 ((1 : Int) = (((Go.Sx.HfI.i i032) : Nat) : Int))))) ∧
 ((ys6 = ys6) ∧
 (ys31 = (Go.Sx.HfI.o i032)))))) ∧
 (∀ (i33 : Go.Sx.HfI), ((((Go.Sx.HfI.i i33) ≤ (Int.toNat n)) ∧
 (((Go.Sx.HfI.i i33) ≤ (Go.Sx.HfI.cap i33)) ∧
 (((List.length (Go.Sx.HfI.o i33)) = ((Go.Sx.HfI.cap i33) * (4 : Nat))) ∧
 ((List.take ((4 : Nat) * (Go.Sx.HfI.i i33)) (Go.Sx.HfI.o i33)) = (Go.Sx.hfW (Go.Sx.spN ex) (Go.Sx.HfI.i i33)))))) → ((((decide ((((Go.Sx.HfI.i i33) : Nat) : Int) < x7)) = Bool.true) → ((((0 : Int) ≤ (((Go.Sx.HfI.i i33) : Nat) : Int)) ∧
 ((((Go.Sx.HfI.i i33) : Nat) : Int) < (((Int.toNat n) : Nat) : Int))) ∧
 (((((Int.toNat (((Go.Sx.HfI.i i33) : Nat) : Int)) * (4 : Nat)) + (4 : Nat)) ≤ (List.length ys6)) ∧
 (∀ (x34 : Int), ((x34 = (List.getD ys6 ((Int.toNat (((Go.Sx.HfI.i i33) : Nat) : Int)) * (4 : Nat)) (0 : Int))) → (∀ (x35 : Int), ((x35 = (List.getD ys6 (((Int.toNat (((Go.Sx.HfI.i i33) : Nat) : Int)) * (4 : Nat)) + (1 : Nat)) (0 : Int))) → (∀ (x36 : Int), ((x36 = (List.getD ys6 ((((Int.toNat (((Go.Sx.HfI.i i33) : Nat) : Int)) * (4 : Nat)) + (1 : Nat)) + (1 : Nat)) (0 : Int))) → (∀ (x37 : Int), ((x37 = (List.getD ys6 (((((Int.toNat (((Go.Sx.HfI.i i33) : Nat) : Int)) * (4 : Nat)) + (1 : Nat)) + (1 : Nat)) + (1 : Nat)) (0 : Int))) → (((Go.Sx.Wd x34) ∧
 ((Go.Sx.Wd x35) ∧
 ((Go.Sx.Wd x36) ∧
 (Go.Sx.Wd x37)))) ∧
 (∀ (x38 : Int), ((x38 = (Go.Sx.bitsV x34 x35 x36 x37 (0 : Nat))) → (∀ (x39 : Int), ((x39 = (Go.Sx.bitsV x34 x35 x36 x37 (1 : Nat))) → (∀ (x40 : Int), ((x40 = (Go.Sx.bitsV x34 x35 x36 x37 (2 : Nat))) → (∀ (x41 : Int), ((x41 = (Go.Sx.bitsV x34 x35 x36 x37 (3 : Nat))) → (((((Go.Sx.HfI.i i33) ≤ (Go.Sx.HfI.cap i33)) ∧
 (((0 : Nat) + ((Go.Sx.HfI.cap i33) * (4 : Nat))) ≤ (List.length (Go.Sx.HfI.o i33)))) ∧
 ((Nat.le (4 : Nat) (List.length [x38, x39, x40, x41])) ∧
 (((((Go.Sx.HfI.i i33) + (1 : Nat)) * (32 : Nat)) ≤ (549755813888 : Nat)) ∧
 (((Go.Sx.HfI.i i33) + (1 : Nat)) ≤ (549755813888 : Nat))))) ∧
 (∀ (cap42 : Nat), (∀ (ys43 : (List Int)), (((((Go.Sx.HfI.i i33) + (1 : Nat)) ≤ cap42) ∧
 (((List.length ys43) = (cap42 * (4 : Nat))) ∧
 ((List.take (((Go.Sx.HfI.i i33) + (1 : Nat)) * (4 : Nat)) ys43) = ((List.take ((Go.Sx.HfI.i i33) * (4 : Nat)) (List.drop (0 : Nat) (Go.Sx.HfI.o i33))) ++ (List.take (4 : Nat) (List.drop (0 : Nat) [x38, x39, x40, x41])))))) → (∀ (x44 : Int), ((x44 = (Go.IntKind.wrap Go.IntKind.i64 ((((Go.Sx.HfI.i i33) : Nat) : Int) + (1 : Int)))) → (∃ (x45 : Go.Sx.HfI), ((((Go.Sx.HfI.i x45) ≤ (Int.toNat n)) ∧
 (((Go.Sx.HfI.i x45) ≤ (Go.Sx.HfI.cap x45)) ∧
 (((List.length (Go.Sx.HfI.o x45)) = ((Go.Sx.HfI.cap x45) * (4 : Nat))) ∧
 ((List.take ((4 : Nat) * (Go.Sx.HfI.i x45)) (Go.Sx.HfI.o x45)) = (Go.Sx.hfW (Go.Sx.spN ex) (Go.Sx.HfI.i x45)))))) ∧
 ((((((Int.toNat n) = (Int.toNat n)) ∧
 ((Int.toNat n) = (Int.toNat n))) ∧
 ((x7 = x7) ∧
 (((((Go.Sx.HfI.i i33) + (1 : Nat)) = (Go.Sx.HfI.i x45)) ∧
 (cap42 = (Go.Sx.HfI.cap x45))) ∧
 (x44 = (((Go.Sx.HfI.i x45) : Nat) : Int))))) ∧
 ((ys6 = ys6) ∧
 (ys43 = (Go.Sx.HfI.o x45)))) ∧
 (((Int.toNat n) - (Go.Sx.HfI.i x45)) < ((Int.toNat n) - (Go.Sx.HfI.i i33)))))))))))))))))))))))))))))))) ∧
 (((decide ((((Go.Sx.HfI.i i33) : Nat) : Int) < x7)) = Bool.false) → (K (Go.Sx.SV.tup [(Go.Sx.SV.slice (809 : Nat) (Go.Sx.N.lit (0 : Nat)) (Go.Sx.N.sym (Go.Sx.HfI.i i33)) (Go.Sx.N.sym (Go.Sx.HfI.cap i33))), (Go.Sx.SV.bool (Go.Sx.B.lit Bool.true))]) (Go.Sx.memL [((617 : Nat), (Go.Sx.Reg.mk Bool.false (Go.Sx.Ct.ints Go.IntKind.u64 ys6))), ((809 : Nat), (Go.Sx.Reg.mk Bool.false (Go.Sx.Ct.ints Go.IntKind.u64 (Go.Sx.HfI.o i33))))]))))))))))))))))))))))))))))))))) ∧
 (((decide ((0 : Int) < x7)) = Bool.false) → (K (Go.Sx.SV.tup [(Go.Sx.SV.val (Go.Value.slice Option.none (0 : Nat) (0 : Nat))), (Go.Sx.SV.bool (Go.Sx.B.lit Bool.true))]) (Go.Sx.memL [((2 : Nat), (Go.Sx.Reg.mk Bool.true (Go.Sx.Ct.ints Go.IntKind.u32 Go.Sx.kL))), ((9 : Nat), (Go.Sx.Reg.mk Bool.true (Go.Sx.Ct.ints Go.IntKind.u8 dst))), ((601 : Nat), (Go.Sx.Reg.mk Bool.false (Go.Sx.Ct.ints Go.IntKind.u8 ys2))), ((617 : Nat), (Go.Sx.Reg.mk Bool.false (Go.Sx.Ct.ints Go.IntKind.u64 ys6)))])))))))))))))))))))))))))) := by kernel_rfl

theorem ih_walk (msg dst : List Int) (l c l2 c2 : Nat) (n : Int) (K : SV → Mem → Prop) (h1 : msg.length = l) (h2 : dst.length = l2) (b1 : Bytes msg) (b2 : Bytes dst) (m1 : l ≤ 65536) (m2 : l2 ≤ 65536) (n1 : 1 ≤ n) (n2 : n ≤ 10) (hup : KUp K)
    (hE : dst.length > 255 → K (.tup [.val (.slice none 0 0), .bool (.lit false)]) (memL []))
    (hK : dst.length ≤ 255 → ∀ o cap, n.toNat ≤ cap → o.length = cap * 4 → o.take (4 * n.toNat) = hfW (spN (expand msg dst (n * 48).toNat)) n.toNat → K (.tup [.slice 809 (.lit 0) (.sym n.toNat) (.sym cap), .bool (.lit true)]) (memL [(809, ⟨false, .ints .u64 o⟩)])) :
    execF cxIh (uIh (expand msg dst (n * 48).toNat) n.toNat) Tryd.f4 64 [.slice 9 (.lit 0) (.sym l) (.sym c), .slice 17 (.lit 0) (.sym l2) (.sym c2), .int .i64 (.sym n)] (memL [(2, ⟨true, .ints .u32 kL⟩), (9, ⟨true, .ints .u8 msg⟩), (17, ⟨true, .ints .u8 dst⟩)]) K := by
  rw [vc_ih]
  refine ⟨fun h => ?_, fun _ => ⟨fun h => ?_, fun _ => ?_⟩⟩
  · simp only [decide_eq_true_eq] at h
    omega
  · simp only [decide_eq_true_eq] at h
    omega
  rw [take1 _ h1, take1 _ h2]
  refine ⟨by omega, ⟨h1, by omega⟩, ?_⟩
  rintro ys0 cap1 r1 ys2 rfl
  refine ⟨by omega, ⟨h2, by omega⟩, ?_⟩
  rintro ys3 cap4 r2 ys5 rfl
  rw [r1.take1, r2.take1]
  have q1 := r1.le
  have q1n := r1.len
  have q2 := r2.le
  have q2n := r2.len
  refine ⟨⟨by omega, by omega⟩, ⟨rfl, h1, h2, r1.le, r2.le, b1, b2, m1, m2, by omega, by omega⟩, ?_⟩
  refine ⟨fun h s => ?_, fun hd => ?_⟩
  · exact hup.le (memL_sub (l := []) [2, 9, 17, 585, 601, 617] rfl (by decide) (by intro x hx; cases hx)) (hE h)
  intro ws7 h7 ys9 h9 x10 h10
  have e9 : ys9 = hfW (fun j => mont (chN (expand msg dst (n * 48).toNat) j)) n.toNat := h9.trans h7
  have l9 : ys9.length = 4 * n.toNat := by rw [e9, hfW_length]
  have g9 : ∀ i j, i < n.toNat → j < 4 → ys9.getD (i * 4 + j) 0 = lm (mont (chN (expand msg dst (n * 48).toNat) i)) j := fun i j hi hj => by rw [e9, hfW_at hi hj]
  refine ⟨fun _ => ?_, fun h => ?_⟩
  · refine ⟨⟨by omega, by omega⟩, by omega, ?_⟩
    rintro x11 h11 x12 h12 x13 h13 x14 h14
    have q0 := g9 0 0 (by omega) (by omega)
    have q1 := g9 0 1 (by omega) (by omega)
    have q2 := g9 0 2 (by omega) (by omega)
    have q3 := g9 0 3 (by omega) (by omega)
    rw [h11.trans q0, h12.trans q1, h13.trans q2, h14.trans q3]
    refine ⟨⟨lm_wd _ _, lm_wd _ _, lm_wd _ _, lm_wd _ _⟩, ?_⟩
    rintro x15 h15 x16 h16 x17 h17 x18 h18
    rw [bits_mont] at h15 h16 h17 h18
    refine ⟨⟨trivial, Nat.le_refl _, by omega, by omega⟩, fun h => absurd h (by decide), fun _ => ?_⟩
    rintro cap33 ys34 ⟨k1, k2, k3⟩
    refine ⟨⟨⟨1, ys34, cap33⟩, ⟨by simp only; omega, k1, k2, ?_⟩, ?_⟩, ?_⟩
    · rw [Nat.mul_one, k3, h15, h16, h17, h18]
      rfl
    · repeat' apply And.intro
      all_goals first | rfl | trivial
    rintro ⟨i, o, cap⟩ ⟨hi, hic, hol, ho⟩
    dsimp only at hi hic hol ho ⊢
    refine ⟨fun h => ?_, fun h => ?_⟩
    · simp only [decide_eq_true_eq] at h
      have hi' : i < n.toNat := by omega
      simp only [Int.toNat_natCast]
      refine ⟨⟨by omega, by omega⟩, by omega, ?_⟩
      rintro x37 h37 x38 h38 x39 h39 x40 h40
      have q0 := g9 i 0 hi' (by omega)
      have q1 := g9 i 1 hi' (by omega)
      have q2 := g9 i 2 hi' (by omega)
      have q3 := g9 i 3 hi' (by omega)
      rw [h37.trans q0, h38.trans q1, h39.trans q2, h40.trans q3]
      refine ⟨⟨lm_wd _ _, lm_wd _ _, lm_wd _ _, lm_wd _ _⟩, ?_⟩
      rintro x41 h41 x42 h42 x43 h43 x44 h44
      rw [bits_mont] at h41 h42 h43 h44
      rw [h41, h42, h43, h44]
      refine ⟨⟨⟨hic, by omega⟩, Nat.le_refl _, by omega, by omega⟩, ?_⟩
      intro cap45 ys46 ha x47 h47
      rw [wrap64 (by omega) (by omega)] at h47
      refine ⟨⟨i + 1, ys46, cap45⟩, ⟨by simp only; omega, ha.1, ha.2.1, w4_drop ho rfl ha⟩, ?_⟩
      repeat' apply And.intro
      all_goals first | rfl | trivial | assumption | (simp only; omega)
    · simp only [decide_eq_false_iff_not] at h
      have hin : i = n.toNat := by omega
      subst hin
      exact hup.le (memL_sub [617, 809] rfl (by decide) (by
        intro x hx
        simp only [List.mem_cons, List.not_mem_nil, or_false] at hx ⊢
        simp [hx])) (hK hd o cap hic hol ho)
  · simp only [decide_eq_false_iff_not] at h
    omega

theorem ihn_walk (dst : List Int) (l2 c2 : Nat) (n : Int) (K : SV → Mem → Prop) (h2 : dst.length = l2) (b2 : Bytes dst) (m2 : l2 ≤ 65536) (n1 : 1 ≤ n) (n2 : n ≤ 10) (hup : KUp K)
    (hE : dst.length > 255 → K (.tup [.val (.slice none 0 0), .bool (.lit false)]) (memL []))
    (hK : dst.length ≤ 255 → ∀ o cap, n.toNat ≤ cap → o.length = cap * 4 → o.take (4 * n.toNat) = hfW (spN (expand [] dst (n * 48).toNat)) n.toNat → K (.tup [.slice 809 (.lit 0) (.sym n.toNat) (.sym cap), .bool (.lit true)]) (memL [(809, ⟨false, .ints .u64 o⟩)])) :
    execF cxIh (uIh (expand [] dst (n * 48).toNat) n.toNat) Tryd.f4 64 [.val (.slice none 0 0), .slice 9 (.lit 0) (.sym l2) (.sym c2), .int .i64 (.sym n)] (memL [(2, ⟨true, .ints .u32 kL⟩), (9, ⟨true, .ints .u8 dst⟩)]) K := by
  rw [vc_ihn]
  refine ⟨fun h => ?_, fun _ => ⟨fun h => ?_, fun _ => ?_⟩⟩
  · simp only [decide_eq_true_eq] at h
    omega
  · simp only [decide_eq_true_eq] at h
    omega
  rw [take1 _ h2]
  refine ⟨by omega, ⟨h2, by omega⟩, ?_⟩
  rintro ys3 cap4 r2 ys5 rfl
  rw [r2.take1]
  have q2 := r2.le
  have q2n := r2.len
  refine ⟨by omega, ⟨rfl, h2, r2.le, b2, m2, by omega, by omega⟩, ?_⟩
  refine ⟨fun h s => ?_, fun hd => ?_⟩
  · exact hup.le (memL_sub (l := []) [2, 9, 601, 617] rfl (by decide) (by intro x hx; cases hx)) (hE h)
  intro ws7 h7 ys9 h9 x10 h10
  have e9 : ys9 = hfW (fun j => mont (chN (expand [] dst (n * 48).toNat) j)) n.toNat := h9.trans h7
  have l9 : ys9.length = 4 * n.toNat := by rw [e9, hfW_length]
  have g9 : ∀ i j, i < n.toNat → j < 4 → ys9.getD (i * 4 + j) 0 = lm (mont (chN (expand [] dst (n * 48).toNat) i)) j := fun i j hi hj => by rw [e9, hfW_at hi hj]
  refine ⟨fun _ => ?_, fun h => ?_⟩
  · refine ⟨⟨by omega, by omega⟩, by omega, ?_⟩
    rintro x11 h11 x12 h12 x13 h13 x14 h14
    have q0 := g9 0 0 (by omega) (by omega)
    have q1 := g9 0 1 (by omega) (by omega)
    have q2 := g9 0 2 (by omega) (by omega)
    have q3 := g9 0 3 (by omega) (by omega)
    rw [h11.trans q0, h12.trans q1, h13.trans q2, h14.trans q3]
    refine ⟨⟨lm_wd _ _, lm_wd _ _, lm_wd _ _, lm_wd _ _⟩, ?_⟩
    rintro x15 h15 x16 h16 x17 h17 x18 h18
    rw [bits_mont] at h15 h16 h17 h18
    refine ⟨⟨trivial, Nat.le_refl _, by omega, by omega⟩, fun h => absurd h (by decide), fun _ => ?_⟩
    rintro cap33 ys34 ⟨k1, k2, k3⟩
    refine ⟨⟨⟨1, ys34, cap33⟩, ⟨by simp only; omega, k1, k2, ?_⟩, ?_⟩, ?_⟩
    · rw [Nat.mul_one, k3, h15, h16, h17, h18]
      rfl
    · repeat' apply And.intro
      all_goals first | rfl | trivial
    rintro ⟨i, o, cap⟩ ⟨hi, hic, hol, ho⟩
    dsimp only at hi hic hol ho ⊢
    refine ⟨fun h => ?_, fun h => ?_⟩
    · simp only [decide_eq_true_eq] at h
      have hi' : i < n.toNat := by omega
      simp only [Int.toNat_natCast]
      refine ⟨⟨by omega, by omega⟩, by omega, ?_⟩
      rintro x37 h37 x38 h38 x39 h39 x40 h40
      have q0 := g9 i 0 hi' (by omega)
      have q1 := g9 i 1 hi' (by omega)
      have q2 := g9 i 2 hi' (by omega)
      have q3 := g9 i 3 hi' (by omega)
      rw [h37.trans q0, h38.trans q1, h39.trans q2, h40.trans q3]
      refine ⟨⟨lm_wd _ _, lm_wd _ _, lm_wd _ _, lm_wd _ _⟩, ?_⟩
      rintro x41 h41 x42 h42 x43 h43 x44 h44
      rw [bits_mont] at h41 h42 h43 h44
      rw [h41, h42, h43, h44]
      refine ⟨⟨⟨hic, by omega⟩, Nat.le_refl _, by omega, by omega⟩, ?_⟩
      intro cap45 ys46 ha x47 h47
      rw [wrap64 (by omega) (by omega)] at h47
      refine ⟨⟨i + 1, ys46, cap45⟩, ⟨by simp only; omega, ha.1, ha.2.1, w4_drop ho rfl ha⟩, ?_⟩
      repeat' apply And.intro
      all_goals first | rfl | trivial | assumption | (simp only; omega)
    · simp only [decide_eq_false_iff_not] at h
      have hin : i = n.toNat := by omega
      subst hin
      exact hup.le (memL_sub [617, 809] rfl (by decide) (by
        intro x hx
        simp only [List.mem_cons, List.not_mem_nil, or_false] at hx ⊢
        simp [hx])) (hK hd o cap hic hol ho)
  · simp only [decide_eq_false_iff_not] at h
    omega

def ihK (msg dst : List Int) (n : Int) (K : SV → Mem → Prop) : Prop :=
  (dst.length > 255 → K (.tup [.val (.slice none 0 0), .bool (.lit false)]) (memL [])) ∧
  (dst.length ≤ 255 → ∀ o cap, n.toNat ≤ cap → o.length = cap * 4 → o.take (4 * n.toNat) = hfW (spN (expand msg dst (n * 48).toNat)) n.toNat → K (.tup [.slice 809 (.lit 0) (.sym n.toNat) (.sym cap), .bool (.lit true)]) (memL [(809, ⟨false, .ints .u64 o⟩)]))
theorem ihK_mono {msg dst : List Int} {n : Int} {K K' : SV → Mem → Prop} (hk : ∀ v m, K v m → K' v m) (h : ihK msg dst n K) : ihK msg dst n K' :=
  ⟨fun a => hk _ _ (h.1 a), fun d o cap a b e => hk _ _ (h.2 d o cap a b e)⟩
theorem ihK_live {msg dst : List Int} {n : Int} {K : SV → Mem → Prop} (h : ihK msg dst n K) : ∃ v m, K v m := by
  by_cases h2 : dst.length > 255
  · exact ⟨_, _, h.1 h2⟩
  · have l := hfW_length (spN (expand msg dst (n * 48).toNat)) n.toNat
    exact ⟨_, _, h.2 (by omega) _ n.toNat (Nat.le_refl _) (by rw [l, Nat.mul_comm]) (List.take_of_length_le (by omega))⟩
def gIh : G0 := fun args l K =>
  match args, l with
  | [.slice 9 (.lit 0) (.sym n1) (.sym _), .slice 17 (.lit 0) (.sym n2) (.sym _), .int .i64 (.sym n)], [(2, ⟨true, .ints .u32 ks⟩), (9, ⟨true, .ints .u8 msg⟩), (17, ⟨true, .ints .u8 dst⟩)] =>
    (ks = kL ∧ msg.length = n1 ∧ dst.length = n2 ∧ Bytes msg ∧ Bytes dst ∧ n1 ≤ 65536 ∧ n2 ≤ 65536 ∧ 1 ≤ n ∧ n ≤ 10) ∧ ihK msg dst n K
  | [.val (.slice none 0 0), .slice 9 (.lit 0) (.sym n2) (.sym _), .int .i64 (.sym n)], [(2, ⟨true, .ints .u32 ks⟩), (9, ⟨true, .ints .u8 dst⟩)] =>
    (ks = kL ∧ dst.length = n2 ∧ Bytes dst ∧ n2 ≤ 65536 ∧ 1 ≤ n ∧ n ≤ 10) ∧ ihK [] dst n K
  | _, _ => False
theorem ih_good : Good gIh := by
  constructor
  · intro args l K K' hk h
    unfold gIh at h ⊢
    split at h
    · exact ⟨h.1, ihK_mono hk h.2⟩
    · exact ⟨h.1, ihK_mono hk h.2⟩
    · exact h.elim
  · intro args l K h
    unfold gIh at h
    split at h
    · exact ihK_live h.2
    · exact ihK_live h.2
    · exact h.elim
theorem ih_ok (args : List SV) (l : List (Nat × Reg)) (K : SV → Mem → Prop) (hup : KUp K) (h : gIh args l K) : ∃ U, execF cxIh U Tryd.f4 64 args (memL l) K := by
  unfold gIh at h
  split at h
  · rename_i n1 c1 n2 c2 n ks msg dst
    obtain ⟨⟨hk, h1, h2, h5, h6, h7, h8, h9, h10⟩, hc⟩ := h
    subst hk
    exact ⟨_, ih_walk msg dst n1 c1 n2 c2 n K h1 h2 h5 h6 h7 h8 h9 h10 hup hc.1 hc.2⟩
  · rename_i n2 c2 n ks dst
    obtain ⟨⟨hk, h2, h6, h8, h9, h10⟩, hc⟩ := h
    subst hk
    exact ⟨_, ihn_walk dst n2 c2 n K h2 h6 h8 h9 h10 hup hc.1 hc.2⟩
  · exact h.elim
def cIh : Ef Tryd.prog := mkNw mixed 4 Tryd.func4 (by decide) (by kernel_rfl) [1] [.sl 1 true, .sl 1 true, .num] gIh ih_good ih_ok
end Go.Sx

/- '==' of two rows of four words. -/
namespace Go.Sx
open Go Go.Proofs
set_option maxRecDepth 100000
theorem run_eq28 (a b c d a' b' c' d' : Int) (w : World) : (Op.equal 28 (.agg #[.int .u64 a, .int .u64 b, .int .u64 c, .int .u64 d]) (.agg #[.int .u64 a', .int .u64 b', .int .u64 c', .int .u64 d'])).run Tryd.prog w =
    .ok (a == a' && b == b' && c == c' && d == d') w := by
  have u3 := Tryd.underlying27
  have a3 := Tryd.isAgg27
  have z3 := Tryd.sizeOf27
  unfold Op.equal Op.maxDepth
  rw [show (10000 : Nat) = 9999 + 1 from rfl, Op.equalIn]
  simp only [Sem.run_bind, run_underlying Tryd.underlying28, Result.andThen_ok]
  simp only [Std.Legacy.Range.forIn_eq_forIn_range', Std.Legacy.Range.size, Nat.sub_zero, Nat.add_sub_cancel, Nat.div_one, List.range'_succ, List.range'_zero, List.forIn_cons, List.forIn_nil]
  go_simp
  by_cases h1 : a = a' <;> by_cases h2 : b = b' <;> by_cases h3 : c = c' <;> by_cases h4 : d = d' <;> simp [h1, h2, h3, h4]
def eq28 : Eqs Tryd.prog where
  t := 28
  n := 4
  guard := by kernel_rfl
  sound := fun xs ys w hx hy => by
    match xs, ys, hx, hy with
    | [a, b, c, d], [a', b', c', d'], _, _ =>
      have := run_eq28 a b c d a' b' c' d' w
      refine this.trans ?_
      congr 1
      by_cases h1 : a = a' <;> by_cases h2 : b = b' <;> by_cases h3 : c = c' <;> by_cases h4 : d = d' <;> simp [h1, h2, h3, h4]
def cxLw : Cx Tryd.prog := { rds := [], efs := [cIh, cSHf], eqs := [eq28] }
end Go.Sx

/- The loop of the law. -/
namespace Go.Sx
open Go Go.Proofs
set_option maxRecDepth 100000
def liLw (n : Nat) : LI where
  ι := Nat
  keep := [2, 6, 7, 9]
  keepR := [777, 849]
  F := fun i => ⟨[(10, i64n i)], []⟩
  I := fun _ i => i ≤ n
  μ := fun i => n - i
def uLw (n : Nat) : Nat → Lp := fun b => match b with | 0 => .inv (liLw n) | _ => .un 0
end Go.Sx

/- The law of HashField: its walks. -/
namespace Go.Sx
open Go Go.Proofs
set_option maxRecDepth 100000
theorem vc_lw (msg dst : List Int) (l c l2 c2 : Nat) (n : Int) (K : SV → Mem → Prop) : (execF cxLw (uLw n.toNat) Tryd.f3 64 [.slice 9 (.lit 0) (.sym l) (.sym c), .slice 17 (.lit 0) (.sym l2) (.sym c2), .int .i64 (.sym n)] (memL [(2, ⟨true, .ints .u32 kL⟩), (9, ⟨true, .ints .u8 msg⟩), (17, ⟨true, .ints .u8 dst⟩)]) K) =
  ((∀ (x0 : Int), ((x0 = ((l : Nat) : Int)) → ((((decide (x0 > (2147483647 : Int))) = Bool.true) → (K (Go.Sx.SV.bool (Go.Sx.B.lit Bool.true)) (Go.Sx.memL [((2 : Nat), (Go.Sx.Reg.mk Bool.true (Go.Sx.Ct.ints Go.IntKind.u32 Go.Sx.kL))), ((9 : Nat), (Go.Sx.Reg.mk Bool.true (Go.Sx.Ct.ints Go.IntKind.u8 msg))), ((17 : Nat), (Go.Sx.Reg.mk Bool.true (Go.Sx.Ct.ints Go.IntKind.u8 dst)))]))) ∧
 (((decide (x0 > (2147483647 : Int))) = Bool.false) → (∀ (x1 : Int), ((x1 = ((l2 : Nat) : Int)) → ((((decide (x1 > (2147483647 : Int))) = Bool.true) → (K (Go.Sx.SV.bool (Go.Sx.B.lit Bool.true)) (Go.Sx.memL [((2 : Nat), (Go.Sx.Reg.mk Bool.true (Go.Sx.Ct.ints Go.IntKind.u32 Go.Sx.kL))), ((9 : Nat), (Go.Sx.Reg.mk Bool.true (Go.Sx.Ct.ints Go.IntKind.u8 msg))), ((17 : Nat), (Go.Sx.Reg.mk Bool.true (Go.Sx.Ct.ints Go.IntKind.u8 dst)))]))) ∧
 (((decide (x1 > (2147483647 : Int))) = Bool.false) → (∀ (x2 : Int), ((x2 = ((l : Nat) : Int)) → ((((decide (x2 > (4096 : Int))) = Bool.true) → (K (Go.Sx.SV.bool (Go.Sx.B.lit Bool.true)) (Go.Sx.memL [((2 : Nat), (Go.Sx.Reg.mk Bool.true (Go.Sx.Ct.ints Go.IntKind.u32 Go.Sx.kL))), ((9 : Nat), (Go.Sx.Reg.mk Bool.true (Go.Sx.Ct.ints Go.IntKind.u8 msg))), ((17 : Nat), (Go.Sx.Reg.mk Bool.true (Go.Sx.Ct.ints Go.IntKind.u8 dst)))]))) ∧
 (((decide (x2 > (4096 : Int))) = Bool.false) → (∀ (x3 : Int), ((x3 = ((l2 : Nat) : Int)) → ((((x3 == (0 : Int)) = Bool.true) → (K (Go.Sx.SV.bool (Go.Sx.B.lit Bool.true)) (Go.Sx.memL [((2 : Nat), (Go.Sx.Reg.mk Bool.true (Go.Sx.Ct.ints Go.IntKind.u32 Go.Sx.kL))), ((9 : Nat), (Go.Sx.Reg.mk Bool.true (Go.Sx.Ct.ints Go.IntKind.u8 msg))), ((17 : Nat), (Go.Sx.Reg.mk Bool.true (Go.Sx.Ct.ints Go.IntKind.u8 dst)))]))) ∧
 (((x3 == (0 : Int)) = Bool.false) → (∀ (x4 : Int), ((x4 = ((l2 : Nat) : Int)) → ((((decide (x4 > (255 : Int))) = Bool.true) → (K (Go.Sx.SV.bool (Go.Sx.B.lit Bool.true)) (Go.Sx.memL [((2 : Nat), (Go.Sx.Reg.mk Bool.true (Go.Sx.Ct.ints Go.IntKind.u32 Go.Sx.kL))), ((9 : Nat), (Go.Sx.Reg.mk Bool.true (Go.Sx.Ct.ints Go.IntKind.u8 msg))), ((17 : Nat), (Go.Sx.Reg.mk Bool.true (Go.Sx.Ct.ints Go.IntKind.u8 dst)))]))) ∧
 (((decide (x4 > (255 : Int))) = Bool.false) → ((((decide (n < (1 : Int))) = Bool.true) → (K (Go.Sx.SV.bool (Go.Sx.B.lit Bool.true)) (Go.Sx.memL [((2 : Nat), (Go.Sx.Reg.mk Bool.true (Go.Sx.Ct.ints Go.IntKind.u32 Go.Sx.kL))), ((9 : Nat), (Go.Sx.Reg.mk Bool.true (Go.Sx.Ct.ints Go.IntKind.u8 msg))), ((17 : Nat), (Go.Sx.Reg.mk Bool.true (Go.Sx.Ct.ints Go.IntKind.u8 dst)))]))) ∧
 (((decide (n < (1 : Int))) = Bool.false) → ((((decide (n > (10 : Int))) = Bool.true) → (K (Go.Sx.SV.bool (Go.Sx.B.lit Bool.true)) (Go.Sx.memL [((2 : Nat), (Go.Sx.Reg.mk Bool.true (Go.Sx.Ct.ints Go.IntKind.u32 Go.Sx.kL))), ((9 : Nat), (Go.Sx.Reg.mk Bool.true (Go.Sx.Ct.ints Go.IntKind.u8 msg))), ((17 : Nat), (Go.Sx.Reg.mk Bool.true (Go.Sx.Ct.ints Go.IntKind.u8 dst)))]))) ∧
 (((decide (n > (10 : Int))) = Bool.false) → (((((0 : Nat) + (l * (1 : Nat))) ≤ (List.length msg)) ∧
 (((0 : Nat) + (l2 * (1 : Nat))) ≤ (List.length dst))) ∧
 (((Go.Sx.kL = Go.Sx.kL) ∧
 (((List.length (List.take (l * (1 : Nat)) (List.drop (0 : Nat) msg))) = l) ∧
 (((List.length (List.take (l2 * (1 : Nat)) (List.drop (0 : Nat) dst))) = l2) ∧
 ((Go.Sx.Bytes (List.take (l * (1 : Nat)) (List.drop (0 : Nat) msg))) ∧
 ((Go.Sx.Bytes (List.take (l2 * (1 : Nat)) (List.drop (0 : Nat) dst))) ∧
 ((l ≤ (65536 : Nat)) ∧
 ((l2 ≤ (65536 : Nat)) ∧
 (((1 : Int) ≤ n) ∧
 (n ≤ (10 : Int)))))))))) ∧
 ((((List.length (List.take (l2 * (1 : Nat)) (List.drop (0 : Nat) dst))) > (255 : Nat)) → (((((0 : Nat) + (l * (1 : Nat))) ≤ (List.length msg)) ∧
 (((0 : Nat) + (l2 * (1 : Nat))) ≤ (List.length dst))) ∧
 ((((List.length (List.take (l * (1 : Nat)) (List.drop (0 : Nat) msg))) = l) ∧
 (((List.length (List.take (l2 * (1 : Nat)) (List.drop (0 : Nat) dst))) = l2) ∧
 ((Go.Sx.Bytes (List.take (l * (1 : Nat)) (List.drop (0 : Nat) msg))) ∧
 ((Go.Sx.Bytes (List.take (l2 * (1 : Nat)) (List.drop (0 : Nat) dst))) ∧
 ((l ≤ (65536 : Nat)) ∧
 ((l2 ≤ (65536 : Nat)) ∧
 (((0 : Int) ≤ n) ∧
 (n ≤ (170 : Int))))))))) ∧
 (∀ (o5 : (List Int)), (∀ (cap6 : Nat), (((Int.toNat n) ≤ cap6) → (((List.length o5) = (cap6 * (4 : Nat))) → (((List.take ((4 : Nat) * (Int.toNat n)) o5) = (Go.Sx.hfW (Go.Sx.spN (Go.Sx.expand (List.take (Go.Sx.N.val (Go.Sx.N.mul (Go.Sx.N.sym l) (1 : Nat))) (List.drop (Go.Sx.N.val (Go.Sx.N.lit (0 : Nat))) msg)) (List.take (Go.Sx.N.val (Go.Sx.N.mul (Go.Sx.N.sym l2) (1 : Nat))) (List.drop (Go.Sx.N.val (Go.Sx.N.lit (0 : Nat))) dst)) (Int.toNat ((Go.Sx.A.val (Go.Sx.A.sym n)) * (48 : Int))))) (Int.toNat n))) → (∀ (ys7 : (List Int)), ((ys7 = o5) → (K (Go.Sx.SV.bool (Go.Sx.B.lit Bool.false)) (Go.Sx.memL [((2 : Nat), (Go.Sx.Reg.mk Bool.true (Go.Sx.Ct.ints Go.IntKind.u32 Go.Sx.kL))), ((9 : Nat), (Go.Sx.Reg.mk Bool.true (Go.Sx.Ct.ints Go.IntKind.u8 msg))), ((17 : Nat), (Go.Sx.Reg.mk Bool.true (Go.Sx.Ct.ints Go.IntKind.u8 dst))), ((849 : Nat), (Go.Sx.Reg.mk Bool.false (Go.Sx.Ct.ints Go.IntKind.u64 ys7)))])))))))))))) ∧
 (((List.length (List.take (l2 * (1 : Nat)) (List.drop (0 : Nat) dst))) ≤ (255 : Nat)) → (∀ (o8 : (List Int)), (∀ (cap9 : Nat), (((Int.toNat n) ≤ cap9) → (((List.length o8) = (cap9 * (4 : Nat))) → (((List.take ((4 : Nat) * (Int.toNat n)) o8) = (Go.Sx.hfW (Go.Sx.spN (Go.Sx.expand (List.take (Go.Sx.N.val (Go.Sx.N.mul (Go.Sx.N.sym l) (1 : Nat))) (List.drop (Go.Sx.N.val (Go.Sx.N.lit (0 : Nat))) msg)) (List.take (Go.Sx.N.val (Go.Sx.N.mul (Go.Sx.N.sym l2) (1 : Nat))) (List.drop (Go.Sx.N.val (Go.Sx.N.lit (0 : Nat))) dst)) (Int.toNat ((Go.Sx.A.val (Go.Sx.A.sym n)) * (48 : Int))))) (Int.toNat n))) → (∀ (ys10 : (List Int)), ((ys10 = o8) → (((((0 : Nat) + (l * (1 : Nat))) ≤ (List.length msg)) ∧
 (((0 : Nat) + (l2 * (1 : Nat))) ≤ (List.length dst))) ∧
 ((((List.length (List.take (l * (1 : Nat)) (List.drop (0 : Nat) msg))) = l) ∧
 (((List.length (List.take (l2 * (1 : Nat)) (List.drop (0 : Nat) dst))) = l2) ∧
 ((Go.Sx.Bytes (List.take (l * (1 : Nat)) (List.drop (0 : Nat) msg))) ∧
 ((Go.Sx.Bytes (List.take (l2 * (1 : Nat)) (List.drop (0 : Nat) dst))) ∧
 ((l ≤ (65536 : Nat)) ∧
 ((l2 ≤ (65536 : Nat)) ∧
 (((0 : Int) ≤ n) ∧
 (n ≤ (170 : Int))))))))) ∧
 (∀ (o11 : (List Int)), (∀ (cap12 : Nat), (((Int.toNat n) ≤ cap12) → (((List.length o11) = (cap12 * (4 : Nat))) → (((List.take ((4 : Nat) * (Int.toNat n)) o11) = (Go.Sx.hfW (Go.Sx.spN (Go.Sx.expand (List.take (Go.Sx.N.val (Go.Sx.N.mul (Go.Sx.N.sym l) (1 : Nat))) (List.drop (Go.Sx.N.val (Go.Sx.N.lit (0 : Nat))) msg)) (List.take (Go.Sx.N.val (Go.Sx.N.mul (Go.Sx.N.sym l2) (1 : Nat))) (List.drop (Go.Sx.N.val (Go.Sx.N.lit (0 : Nat))) dst)) (Int.toNat ((Go.Sx.A.val (Go.Sx.A.sym n)) * (48 : Int))))) (Int.toNat n))) → (∀ (ys13 : (List Int)), ((ys13 = o11) → (∀ (x14 : Int), ((x14 = (((Int.toNat n) : Nat) : Int)) → ((((x14 != n) = Bool.true) → (K (Go.Sx.SV.bool (Go.Sx.B.lit Bool.false)) (Go.Sx.memL [((2 : Nat), (Go.Sx.Reg.mk Bool.true (Go.Sx.Ct.ints Go.IntKind.u32 Go.Sx.kL))), ((9 : Nat), (Go.Sx.Reg.mk Bool.true (Go.Sx.Ct.ints Go.IntKind.u8 msg))), ((17 : Nat), (Go.Sx.Reg.mk Bool.true (Go.Sx.Ct.ints Go.IntKind.u8 dst))), ((777 : Nat), (Go.Sx.Reg.mk Bool.false (Go.Sx.Ct.ints Go.IntKind.u64 ys10))), ((849 : Nat), (Go.Sx.Reg.mk Bool.false (Go.Sx.Ct.ints Go.IntKind.u64 ys13)))]))) ∧
 (((x14 != n) = Bool.false) → ((∃ (i015 : Nat), ((i015 ≤ (Int.toNat n)) ∧
 (((n = n) ∧
 ((((Int.toNat n) = (Int.toNat n)) ∧
 (cap9 = cap9)) ∧
 ((((Int.toNat n) = (Int.toNat n)) ∧
 (cap12 = cap12)) ∧
 ((0 : Int) = ((i015 : Nat) : Int))))) ∧
 ((ys10 = ys10) ∧
 (ys13 = ys13))))) ∧
 (∀ (i16 : Nat), ((i16 ≤ (Int.toNat n)) → ((((decide (((i16 : Nat) : Int) < n)) = Bool.true) → ((((0 : Int) ≤ ((i16 : Nat) : Int)) ∧
 (((i16 : Nat) : Int) < (((Int.toNat n) : Nat) : Int))) ∧
 (((((Int.toNat ((i16 : Nat) : Int)) * (4 : Nat)) + (4 : Nat)) ≤ (List.length ys10)) ∧
 (∀ (x17 : Int), ((x17 = (List.getD ys10 ((Int.toNat ((i16 : Nat) : Int)) * (4 : Nat)) (0 : Int))) → (∀ (x18 : Int), ((x18 = (List.getD ys10 (((Int.toNat ((i16 : Nat) : Int)) * (4 : Nat)) + (1 : Nat)) (0 : Int))) → (∀ (x19 : Int), ((x19 = (List.getD ys10 ((((Int.toNat ((i16 : Nat) : Int)) * (4 : Nat)) + (1 : Nat)) + (1 : Nat)) (0 : Int))) → (∀ (x20 : Int), ((x20 = (List.getD ys10 (((((Int.toNat ((i16 : Nat) : Int)) * (4 : Nat)) + (1 : Nat)) + (1 : Nat)) + (1 : Nat)) (0 : Int))) → ((((0 : Int) ≤ ((i16 : Nat) : Int)) ∧
 (((i16 : Nat) : Int) < (((Int.toNat n) : Nat) : Int))) ∧
 (((((Int.toNat ((i16 : Nat) : Int)) * (4 : Nat)) + (4 : Nat)) ≤ (List.length ys13)) ∧
 (∀ (x21 : Int), ((x21 = (List.getD ys13 ((Int.toNat ((i16 : Nat) : Int)) * (4 : Nat)) (0 : Int))) → (∀ (x22 : Int), ((x22 = (List.getD ys13 (((Int.toNat ((i16 : Nat) : Int)) * (4 : Nat)) + (1 : Nat)) (0 : Int))) → (∀ (x23 : Int), ((x23 = (List.getD ys13 ((((Int.toNat ((i16 : Nat) : Int)) * (4 : Nat)) + (1 : Nat)) + (1 : Nat)) (0 : Int))) → (∀ (x24 : Int), ((x24 = (List.getD ys13 (((((Int.toNat ((i16 : Nat) : Int)) * (4 : Nat)) + (1 : Nat)) + (1 : Nat)) + (1 : Nat)) (0 : Int))) → ((((Bool.not (decide ([x17, x18, x19, x20] = [x21, x22, x23, x24]))) = Bool.true) → (K (Go.Sx.SV.bool (Go.Sx.B.lit Bool.false)) (Go.Sx.memL [((777 : Nat), (Go.Sx.Reg.mk Bool.false (Go.Sx.Ct.ints Go.IntKind.u64 ys10))), ((849 : Nat), (Go.Sx.Reg.mk Bool.false (Go.Sx.Ct.ints Go.IntKind.u64 ys13)))]))) ∧
 (((Bool.not (decide ([x17, x18, x19, x20] = [x21, x22, x23, x24]))) = Bool.false) → (∀ (x25 : Int), ((x25 = (Go.IntKind.wrap Go.IntKind.i64 (((i16 : Nat) : Int) + (1 : Int)))) → (∃ (x26 : Nat), ((x26 ≤ (Int.toNat n)) ∧
 ((((n = n) ∧
 ((((Int.toNat n) = (Int.toNat n)) ∧
 (cap9 = cap9)) ∧
 ((((Int.toNat n) = (Int.toNat n)) ∧
 (cap12 = cap12)) ∧
 (x25 = ((x26 : Nat) : Int))))) ∧
 ((ys10 = ys10) ∧
 (ys13 = ys13))) ∧
 (((Int.toNat n) - x26) < ((Int.toNat n) - i16)))))))))))))))))))))))))))))) ∧
 (((decide (((i16 : Nat) : Int) < n)) = Bool.false) → (K (Go.Sx.SV.bool (Go.Sx.B.lit Bool.true)) (Go.Sx.memL [((777 : Nat), (Go.Sx.Reg.mk Bool.false (Go.Sx.Ct.ints Go.IntKind.u64 ys10))), ((849 : Nat), (Go.Sx.Reg.mk Bool.false (Go.Sx.Ct.ints Go.IntKind.u64 ys13)))])))))))))))))))))))))))))))))))))))))))))))))))))))))))) := by kernel_rfl
theorem vc_lwn (dst : List Int) (l2 c2 : Nat) (n : Int) (K : SV → Mem → Prop) : (execF cxLw (uLw n.toNat) Tryd.f3 64 [.val (.slice none 0 0), .slice 17 (.lit 0) (.sym l2) (.sym c2), .int .i64 (.sym n)] (memL [(2, ⟨true, .ints .u32 kL⟩), (17, ⟨true, .ints .u8 dst⟩)]) K) =
  ((∀ (x0 : Int), ((x0 = ((l2 : Nat) : Int)) → ((((decide (x0 > (2147483647 : Int))) = Bool.true) → (K (Go.Sx.SV.bool (Go.Sx.B.lit Bool.true)) (Go.Sx.memL [((2 : Nat), (Go.Sx.Reg.mk Bool.true (Go.Sx.Ct.ints Go.IntKind.u32 Go.Sx.kL))), ((17 : Nat), (Go.Sx.Reg.mk Bool.true (Go.Sx.Ct.ints Go.IntKind.u8 dst)))]))) ∧
 (((decide (x0 > (2147483647 : Int))) = Bool.false) → (∀ (x1 : Int), ((x1 = ((l2 : Nat) : Int)) → ((((x1 == (0 : Int)) = Bool.true) → (K (Go.Sx.SV.bool (Go.Sx.B.lit Bool.true)) (Go.Sx.memL [((2 : Nat), (Go.Sx.Reg.mk Bool.true (Go.Sx.Ct.ints Go.IntKind.u32 Go.Sx.kL))), ((17 : Nat), (Go.Sx.Reg.mk Bool.true (Go.Sx.Ct.ints Go.IntKind.u8 dst)))]))) ∧
 (((x1 == (0 : Int)) = Bool.false) → (∀ (x2 : Int), ((x2 = ((l2 : Nat) : Int)) → ((((decide (x2 > (255 : Int))) = Bool.true) → (K (Go.Sx.SV.bool (Go.Sx.B.lit Bool.true)) (Go.Sx.memL [((2 : Nat), (Go.Sx.Reg.mk Bool.true (Go.Sx.Ct.ints Go.IntKind.u32 Go.Sx.kL))), ((17 : Nat), (Go.Sx.Reg.mk Bool.true (Go.Sx.Ct.ints Go.IntKind.u8 dst)))]))) ∧
 (((decide (x2 > (255 : Int))) = Bool.false) → ((((decide (n < (1 : Int))) = Bool.true) → (K (Go.Sx.SV.bool (Go.Sx.B.lit Bool.true)) (Go.Sx.memL [((2 : Nat), (Go.Sx.Reg.mk Bool.true (Go.Sx.Ct.ints Go.IntKind.u32 Go.Sx.kL))), ((17 : Nat), (Go.Sx.Reg.mk Bool.true (Go.Sx.Ct.ints Go.IntKind.u8 dst)))]))) ∧
 (((decide (n < (1 : Int))) = Bool.false) → ((((decide (n > (10 : Int))) = Bool.true) → (K (Go.Sx.SV.bool (Go.Sx.B.lit Bool.true)) (Go.Sx.memL [((2 : Nat), (Go.Sx.Reg.mk Bool.true (Go.Sx.Ct.ints Go.IntKind.u32 Go.Sx.kL))), ((17 : Nat), (Go.Sx.Reg.mk Bool.true (Go.Sx.Ct.ints Go.IntKind.u8 dst)))]))) ∧
 (((decide (n > (10 : Int))) = Bool.false) → ((((0 : Nat) + (l2 * (1 : Nat))) ≤ (List.length dst)) ∧
 (((Go.Sx.kL = Go.Sx.kL) ∧
 (((List.length (List.take (l2 * (1 : Nat)) (List.drop (0 : Nat) dst))) = l2) ∧
 ((Go.Sx.Bytes (List.take (l2 * (1 : Nat)) (List.drop (0 : Nat) dst))) ∧
 ((l2 ≤ (65536 : Nat)) ∧
 (((1 : Int) ≤ n) ∧
 (n ≤ (10 : Int))))))) ∧
 ((((List.length (List.take (l2 * (1 : Nat)) (List.drop (0 : Nat) dst))) > (255 : Nat)) → ((((0 : Nat) + (l2 * (1 : Nat))) ≤ (List.length dst)) ∧
 ((((List.length (List.take (l2 * (1 : Nat)) (List.drop (0 : Nat) dst))) = l2) ∧
 ((Go.Sx.Bytes (List.take (l2 * (1 : Nat)) (List.drop (0 : Nat) dst))) ∧
 ((l2 ≤ (65536 : Nat)) ∧
 (((0 : Int) ≤ n) ∧
 (n ≤ (170 : Int)))))) ∧
 (∀ (o3 : (List Int)), (∀ (cap4 : Nat), (((Int.toNat n) ≤ cap4) → (((List.length o3) = (cap4 * (4 : Nat))) → (((List.take ((4 : Nat) * (Int.toNat n)) o3) = (Go.Sx.hfW (Go.Sx.spN (Go.Sx.expand [] (List.take (Go.Sx.N.val (Go.Sx.N.mul (Go.Sx.N.sym l2) (1 : Nat))) (List.drop (Go.Sx.N.val (Go.Sx.N.lit (0 : Nat))) dst)) (Int.toNat ((Go.Sx.A.val (Go.Sx.A.sym n)) * (48 : Int))))) (Int.toNat n))) → (∀ (ys5 : (List Int)), ((ys5 = o3) → (K (Go.Sx.SV.bool (Go.Sx.B.lit Bool.false)) (Go.Sx.memL [((2 : Nat), (Go.Sx.Reg.mk Bool.true (Go.Sx.Ct.ints Go.IntKind.u32 Go.Sx.kL))), ((17 : Nat), (Go.Sx.Reg.mk Bool.true (Go.Sx.Ct.ints Go.IntKind.u8 dst))), ((849 : Nat), (Go.Sx.Reg.mk Bool.false (Go.Sx.Ct.ints Go.IntKind.u64 ys5)))])))))))))))) ∧
 (((List.length (List.take (l2 * (1 : Nat)) (List.drop (0 : Nat) dst))) ≤ (255 : Nat)) → (∀ (o6 : (List Int)), (∀ (cap7 : Nat), (((Int.toNat n) ≤ cap7) → (((List.length o6) = (cap7 * (4 : Nat))) → (((List.take ((4 : Nat) * (Int.toNat n)) o6) = (Go.Sx.hfW (Go.Sx.spN (Go.Sx.expand [] (List.take (Go.Sx.N.val (Go.Sx.N.mul (Go.Sx.N.sym l2) (1 : Nat))) (List.drop (Go.Sx.N.val (Go.Sx.N.lit (0 : Nat))) dst)) (Int.toNat ((Go.Sx.A.val (Go.Sx.A.sym n)) * (48 : Int))))) (Int.toNat n))) → (∀ (ys8 : (List Int)), ((ys8 = o6) → ((((0 : Nat) + (l2 * (1 : Nat))) ≤ (List.length dst)) ∧
 ((((List.length (List.take (l2 * (1 : Nat)) (List.drop (0 : Nat) dst))) = l2) ∧
 ((Go.Sx.Bytes (List.take (l2 * (1 : Nat)) (List.drop (0 : Nat) dst))) ∧
 ((l2 ≤ (65536 : Nat)) ∧
 (((0 : Int) ≤ n) ∧
 (n ≤ (170 : Int)))))) ∧
 (∀ (o9 : (List Int)), (∀ (cap10 : Nat), (((Int.toNat n) ≤ cap10) → (((List.length o9) = (cap10 * (4 : Nat))) → (((List.take ((4 : Nat) * (Int.toNat n)) o9) = (Go.Sx.hfW (Go.Sx.spN (Go.Sx.expand [] (List.take (Go.Sx.N.val (Go.Sx.N.mul (Go.Sx.N.sym l2) (1 : Nat))) (List.drop (Go.Sx.N.val (Go.Sx.N.lit (0 : Nat))) dst)) (Int.toNat ((Go.Sx.A.val (Go.Sx.A.sym n)) * (48 : Int))))) (Int.toNat n))) → (∀ (ys11 : (List Int)), ((ys11 = o9) → (∀ (x12 : Int), ((x12 = (((Int.toNat n) : Nat) : Int)) → ((((x12 != n) = Bool.true) → (K (Go.Sx.SV.bool (Go.Sx.B.lit Bool.false)) (Go.Sx.memL [((2 : Nat), (Go.Sx.Reg.mk Bool.true (Go.Sx.Ct.ints Go.IntKind.u32 Go.Sx.kL))), ((17 : Nat), (Go.Sx.Reg.mk Bool.true (Go.Sx.Ct.ints Go.IntKind.u8 dst))), ((777 : Nat), (Go.Sx.Reg.mk Bool.false (Go.Sx.Ct.ints Go.IntKind.u64 ys8))), ((849 : Nat), (Go.Sx.Reg.mk Bool.false (Go.Sx.Ct.ints Go.IntKind.u64 ys11)))]))) ∧
 (((x12 != n) = Bool.false) → ((∃ (i013 : Nat), ((i013 ≤ (Int.toNat n)) ∧
 (((n = n) ∧
 ((((Int.toNat n) = (Int.toNat n)) ∧
 (cap7 = cap7)) ∧
 ((((Int.toNat n) = (Int.toNat n)) ∧
 (cap10 = cap10)) ∧
 ((0 : Int) = ((i013 : Nat) : Int))))) ∧
 ((ys8 = ys8) ∧
 (ys11 = ys11))))) ∧
 (∀ (i14 : Nat), ((i14 ≤ (Int.toNat n)) → ((((decide (((i14 : Nat) : Int) < n)) = Bool.true) → ((((0 : Int) ≤ ((i14 : Nat) : Int)) ∧
 (((i14 : Nat) : Int) < (((Int.toNat n) : Nat) : Int))) ∧
 (((((Int.toNat ((i14 : Nat) : Int)) * (4 : Nat)) + (4 : Nat)) ≤ (List.length ys8)) ∧
 (∀ (x15 : Int), ((x15 = (List.getD ys8 ((Int.toNat ((i14 : Nat) : Int)) * (4 : Nat)) (0 : Int))) → (∀ (x16 : Int), ((x16 = (List.getD ys8 (((Int.toNat ((i14 : Nat) : Int)) * (4 : Nat)) + (1 : Nat)) (0 : Int))) → (∀ (x17 : Int), ((x17 = (List.getD ys8 ((((Int.toNat ((i14 : Nat) : Int)) * (4 : Nat)) + (1 : Nat)) + (1 : Nat)) (0 : Int))) → (∀ (x18 : Int), ((x18 = (List.getD ys8 (((((Int.toNat ((i14 : Nat) : Int)) * (4 : Nat)) + (1 : Nat)) + (1 : Nat)) + (1 : Nat)) (0 : Int))) → ((((0 : Int) ≤ ((i14 : Nat) : Int)) ∧
 (((i14 : Nat) : Int) < (((Int.toNat n) : Nat) : Int))) ∧
 (((((Int.toNat ((i14 : Nat) : Int)) * (4 : Nat)) + (4 : Nat)) ≤ (List.length ys11)) ∧
 (∀ (x19 : Int), ((x19 = (List.getD ys11 ((Int.toNat ((i14 : Nat) : Int)) * (4 : Nat)) (0 : Int))) → (∀ (x20 : Int), ((x20 = (List.getD ys11 (((Int.toNat ((i14 : Nat) : Int)) * (4 : Nat)) + (1 : Nat)) (0 : Int))) → (∀ (x21 : Int), ((x21 = (List.getD ys11 ((((Int.toNat ((i14 : Nat) : Int)) * (4 : Nat)) + (1 : Nat)) + (1 : Nat)) (0 : Int))) → (∀ (x22 : Int), ((x22 = (List.getD ys11 (((((Int.toNat ((i14 : Nat) : Int)) * (4 : Nat)) + (1 : Nat)) + (1 : Nat)) + (1 : Nat)) (0 : Int))) → ((((Bool.not (decide ([x15, x16, x17, x18] = [x19, x20, x21, x22]))) = Bool.true) → (K (Go.Sx.SV.bool (Go.Sx.B.lit Bool.false)) (Go.Sx.memL [((777 : Nat), (Go.Sx.Reg.mk Bool.false (Go.Sx.Ct.ints Go.IntKind.u64 ys8))), ((849 : Nat), (Go.Sx.Reg.mk Bool.false (Go.Sx.Ct.ints Go.IntKind.u64 ys11)))]))) ∧
 (((Bool.not (decide ([x15, x16, x17, x18] = [x19, x20, x21, x22]))) = Bool.false) → (∀ (x23 : Int), ((x23 = (Go.IntKind.wrap Go.IntKind.i64 (((i14 : Nat) : Int) + (1 : Int)))) → (∃ (x24 : Nat), ((x24 ≤ (Int.toNat n)) ∧
 ((((n = n) ∧
 ((((Int.toNat n) = (Int.toNat n)) ∧
 (cap7 = cap7)) ∧
 ((((Int.toNat n) = (Int.toNat n)) ∧
 (cap10 = cap10)) ∧
 (x23 = ((x24 : Nat) : Int))))) ∧
 ((ys8 = ys8) ∧
 (ys11 = ys11))) ∧
 (((Int.toNat n) - x24) < ((Int.toNat n) - i14)))))))))))))))))))))))))))))) ∧
 (((decide (((i14 : Nat) : Int) < n)) = Bool.false) → (K (Go.Sx.SV.bool (Go.Sx.B.lit Bool.true)) (Go.Sx.memL [((777 : Nat), (Go.Sx.Reg.mk Bool.false (Go.Sx.Ct.ints Go.IntKind.u64 ys8))), ((849 : Nat), (Go.Sx.Reg.mk Bool.false (Go.Sx.Ct.ints Go.IntKind.u64 ys11)))])))))))))))))))))))))))))))))))))))))))))))))))) := by kernel_rfl
theorem vc_lwm (msg : List Int) (l c : Nat) (n : Int) (K : SV → Mem → Prop) : (execF cxLw (uLw n.toNat) Tryd.f3 64 [.slice 9 (.lit 0) (.sym l) (.sym c), .val (.slice none 0 0), .int .i64 (.sym n)] (memL [(2, ⟨true, .ints .u32 kL⟩), (9, ⟨true, .ints .u8 msg⟩)]) K) =
  ((∀ (x0 : Int), ((x0 = ((l : Nat) : Int)) → ((((decide (x0 > (2147483647 : Int))) = Bool.true) → (K (Go.Sx.SV.bool (Go.Sx.B.lit Bool.true)) (Go.Sx.memL [((2 : Nat), (Go.Sx.Reg.mk Bool.true (Go.Sx.Ct.ints Go.IntKind.u32 Go.Sx.kL))), ((9 : Nat), (Go.Sx.Reg.mk Bool.true (Go.Sx.Ct.ints Go.IntKind.u8 msg)))]))) ∧
 (((decide (x0 > (2147483647 : Int))) = Bool.false) → (∀ (x1 : Int), ((x1 = ((l : Nat) : Int)) → ((((decide (x1 > (4096 : Int))) = Bool.true) → (K (Go.Sx.SV.bool (Go.Sx.B.lit Bool.true)) (Go.Sx.memL [((2 : Nat), (Go.Sx.Reg.mk Bool.true (Go.Sx.Ct.ints Go.IntKind.u32 Go.Sx.kL))), ((9 : Nat), (Go.Sx.Reg.mk Bool.true (Go.Sx.Ct.ints Go.IntKind.u8 msg)))]))) ∧
 (((decide (x1 > (4096 : Int))) = Bool.false) → (K (Go.Sx.SV.bool (Go.Sx.B.lit Bool.true)) (Go.Sx.memL [((2 : Nat), (Go.Sx.Reg.mk Bool.true (Go.Sx.Ct.ints Go.IntKind.u32 Go.Sx.kL))), ((9 : Nat), (Go.Sx.Reg.mk Bool.true (Go.Sx.Ct.ints Go.IntKind.u8 msg)))]))))))))))) := by kernel_rfl
theorem vc_lwz (n : Int) (K : SV → Mem → Prop) : (execF cxLw (uLw n.toNat) Tryd.f3 64 [.val (.slice none 0 0), .val (.slice none 0 0), .int .i64 (.sym n)] (memL [(2, ⟨true, .ints .u32 kL⟩)]) K) =
  ((K (Go.Sx.SV.bool (Go.Sx.B.lit Bool.true)) (Go.Sx.memL [((2 : Nat), (Go.Sx.Reg.mk Bool.true (Go.Sx.Ct.ints Go.IntKind.u32 Go.Sx.kL)))]))) := by kernel_rfl

theorem cut_bytes {xs : List Int} {l : Nat} (h : l ≤ xs.length) (hb : Bytes xs) : ∃ ys, List.take (l * 1) (List.drop 0 xs) = ys ∧ ys.length = l ∧ Bytes ys :=
  ⟨_, rfl, by simp; omega, (hb.drop 0).take _⟩
theorem take_same {a b : List Int} {m k : Nat} (h : a.take m = b.take m) (hk : k < m) : a.getD k 0 = b.getD k 0 := by
  have := congrArg (fun l => l.getD k 0) h
  simp only [List.getD_eq_getElem?_getD, List.getElem?_take, hk, if_true] at this
  rw [List.getD_eq_getElem?_getD, List.getD_eq_getElem?_getD]
  exact this
theorem lw_walk (msg dst : List Int) (l c l2 c2 : Nat) (n : Int) (K : SV → Mem → Prop) (hm : l ≤ msg.length) (hd : l2 ≤ dst.length) (hmb : Bytes msg) (hdb : Bytes dst) (hT : ∀ m, K (.bool (.lit true)) m) :
    execF cxLw (uLw n.toNat) Tryd.f3 64 [.slice 9 (.lit 0) (.sym l) (.sym c), .slice 17 (.lit 0) (.sym l2) (.sym c2), .int .i64 (.sym n)] (memL [(2, ⟨true, .ints .u32 kL⟩), (9, ⟨true, .ints .u8 msg⟩), (17, ⟨true, .ints .u8 dst⟩)]) K := by
  rw [vc_lw]
  obtain ⟨m1, em, ml, mb⟩ := cut_bytes hm hmb
  obtain ⟨d1, ed, dl, db⟩ := cut_bytes hd hdb
  rw [em, ed]
  intro x0 h0
  refine ⟨fun _ => hT _, fun t0 x1 h1 => ⟨fun _ => hT _, fun t1 x2 h2 => ⟨fun _ => hT _, fun t2 x3 h3 => ⟨fun _ => hT _, fun t3 x4 h4 => ⟨fun _ => hT _, fun t4 => ⟨fun _ => hT _, fun t5 => ⟨fun _ => hT _, fun t6 => ?_⟩⟩⟩⟩⟩⟩⟩
  simp only [decide_eq_false_iff_not, beq_eq_false_iff_ne, ne_eq, gt_iff_lt, Int.not_lt] at t0 t1 t2 t3 t4 t5 t6
  refine ⟨⟨by omega, by omega⟩, ⟨rfl, ml, dl, mb, db, by omega, by omega, by omega, by omega⟩, ?_, ?_⟩
  · intro h
    rw [dl] at h
    omega
  intro _ o8 cap9 c1 c2 c3 ys10 h10
  subst h10
  refine ⟨⟨by omega, by omega⟩, ⟨ml, dl, mb, db, by omega, by omega, by omega, by omega⟩, ?_⟩
  intro o11 cap12 e1 e2 e3 ys13 h13
  subst h13
  have c4 : ys10.take (4 * n.toNat) = hfW (spN (expand m1 d1 (n * 48).toNat)) n.toNat := by
    rw [← em, ← ed]
    exact c3
  have e4 : ys13.take (4 * n.toNat) = hfW (spN (expand m1 d1 (n * 48).toNat)) n.toNat := by
    rw [← em, ← ed]
    exact e3
  have same : ∀ i j, i < n.toNat → j < 4 → ys10.getD (i * 4 + j) 0 = ys13.getD (i * 4 + j) 0 := fun i j hi hj => take_same (c4.trans e4.symm) (by omega)
  intro x14 h14
  refine ⟨fun h => ?_, fun _ => ⟨⟨0, Nat.zero_le _, ?_⟩, ?_⟩⟩
  · simp only [bne_iff_ne, ne_eq] at h
    omega
  · repeat' apply And.intro
    all_goals first | rfl | trivial
  intro i hi
  refine ⟨fun h => ?_, fun _ => hT _⟩
  simp only [decide_eq_true_eq] at h
  have hi' : i < n.toNat := by omega
  simp only [Int.toNat_natCast]
  refine ⟨⟨by omega, by omega⟩, by omega, ?_⟩
  intro x17 h17 x18 h18 x19 h19 x20 h20
  refine ⟨⟨by omega, by omega⟩, by omega, ?_⟩
  intro x21 h21 x22 h22 x23 h23 x24 h24
  have q0 := same i 0 hi' (by omega)
  have q1 := same i 1 hi' (by omega)
  have q2 := same i 2 hi' (by omega)
  have q3 := same i 3 hi' (by omega)
  have p0 : x17 = x21 := h17.trans (q0.trans h21.symm)
  have p1 : x18 = x22 := h18.trans (q1.trans h22.symm)
  have p2 : x19 = x23 := h19.trans (q2.trans h23.symm)
  have p3 : x20 = x24 := h20.trans (q3.trans h24.symm)
  rw [p0, p1, p2, p3]
  refine ⟨fun h => by simp at h, fun _ => ?_⟩
  intro x25 h25
  rw [wrap64 (by omega) (by omega)] at h25
  refine ⟨i + 1, hi', ?_⟩
  repeat' apply And.intro
  all_goals first | rfl | trivial | omega

theorem lwn_walk (dst : List Int) (l2 c2 : Nat) (n : Int) (K : SV → Mem → Prop) (hd : l2 ≤ dst.length) (hdb : Bytes dst) (hT : ∀ m, K (.bool (.lit true)) m) :
    execF cxLw (uLw n.toNat) Tryd.f3 64 [.val (.slice none 0 0), .slice 17 (.lit 0) (.sym l2) (.sym c2), .int .i64 (.sym n)] (memL [(2, ⟨true, .ints .u32 kL⟩), (17, ⟨true, .ints .u8 dst⟩)]) K := by
  rw [vc_lwn]
  obtain ⟨d1, ed, dl, db⟩ := cut_bytes hd hdb
  rw [ed]
  intro x1 h1
  refine ⟨fun _ => hT _, fun t1 x3 h3 => ⟨fun _ => hT _, fun t3 x4 h4 => ⟨fun _ => hT _, fun t4 => ⟨fun _ => hT _, fun t5 => ⟨fun _ => hT _, fun t6 => ?_⟩⟩⟩⟩⟩
  simp only [decide_eq_false_iff_not, beq_eq_false_iff_ne, ne_eq, gt_iff_lt, Int.not_lt] at t1 t3 t4 t5 t6
  refine ⟨by omega, ⟨rfl, dl, db, by omega, by omega, by omega⟩, ?_, ?_⟩
  · intro h
    rw [dl] at h
    omega
  intro _ o8 cap9 c1 c2 c3 ys10 h10
  subst h10
  refine ⟨by omega, ⟨dl, db, by omega, by omega, by omega⟩, ?_⟩
  intro o11 cap12 e1 e2 e3 ys13 h13
  subst h13
  have c4 : ys10.take (4 * n.toNat) = hfW (spN (expand [] d1 (n * 48).toNat)) n.toNat := by
    rw [← ed]
    exact c3
  have e4 : ys13.take (4 * n.toNat) = hfW (spN (expand [] d1 (n * 48).toNat)) n.toNat := by
    rw [← ed]
    exact e3
  have same : ∀ i j, i < n.toNat → j < 4 → ys10.getD (i * 4 + j) 0 = ys13.getD (i * 4 + j) 0 := fun i j hi hj => take_same (c4.trans e4.symm) (by omega)
  intro x14 h14
  refine ⟨fun h => ?_, fun _ => ⟨⟨0, Nat.zero_le _, ?_⟩, ?_⟩⟩
  · simp only [bne_iff_ne, ne_eq] at h
    omega
  · repeat' apply And.intro
    all_goals first | rfl | trivial
  intro i hi
  refine ⟨fun h => ?_, fun _ => hT _⟩
  simp only [decide_eq_true_eq] at h
  have hi' : i < n.toNat := by omega
  simp only [Int.toNat_natCast]
  refine ⟨⟨by omega, by omega⟩, by omega, ?_⟩
  intro x17 h17 x18 h18 x19 h19 x20 h20
  refine ⟨⟨by omega, by omega⟩, by omega, ?_⟩
  intro x21 h21 x22 h22 x23 h23 x24 h24
  have q0 := same i 0 hi' (by omega)
  have q1 := same i 1 hi' (by omega)
  have q2 := same i 2 hi' (by omega)
  have q3 := same i 3 hi' (by omega)
  have p0 : x17 = x21 := h17.trans (q0.trans h21.symm)
  have p1 : x18 = x22 := h18.trans (q1.trans h22.symm)
  have p2 : x19 = x23 := h19.trans (q2.trans h23.symm)
  have p3 : x20 = x24 := h20.trans (q3.trans h24.symm)
  rw [p0, p1, p2, p3]
  refine ⟨fun h => by simp at h, fun _ => ?_⟩
  intro x25 h25
  rw [wrap64 (by omega) (by omega)] at h25
  refine ⟨i + 1, hi', ?_⟩
  repeat' apply And.intro
  all_goals first | rfl | trivial | omega

theorem lwm_walk (msg : List Int) (l c : Nat) (n : Int) (K : SV → Mem → Prop) (hT : ∀ m, K (.bool (.lit true)) m) :
    execF cxLw (uLw n.toNat) Tryd.f3 64 [.slice 9 (.lit 0) (.sym l) (.sym c), .val (.slice none 0 0), .int .i64 (.sym n)] (memL [(2, ⟨true, .ints .u32 kL⟩), (9, ⟨true, .ints .u8 msg⟩)]) K := by
  rw [vc_lwm]
  repeat' first
    | exact hT _
    | assumption
    | apply And.intro
    | intro _
theorem lwz_walk (n : Int) (K : SV → Mem → Prop) (hT : ∀ m, K (.bool (.lit true)) m) :
    execF cxLw (uLw n.toNat) Tryd.f3 64 [.val (.slice none 0 0), .val (.slice none 0 0), .int .i64 (.sym n)] (memL [(2, ⟨true, .ints .u32 kL⟩)]) K := by
  rw [vc_lwz]
  exact hT _
end Go.Sx

/- From the world of a call to the walks of the law of HashField. -/
namespace Go.Sx
open Go Go.Proofs Go.RowKit
set_option maxRecDepth 100000

theorem Fr.same (T : Nat → Nat → Prop) (w : World) : Fr T w w := ⟨rfl, rfl, rfl, Nat.le_refl _, fun _ _ => ObjFr.refl _ _⟩
theorem Fr.below {w w' : World} (h : Fr noT w w') : Below w.heap.size w w' := by
  refine ⟨h.os, h.tape, h.output, h.size, fun k hk => ?_⟩
  have := h.blk k hk
  unfold ObjFr at this
  split at this
  · rename_i c t f he
    obtain ⟨c', h1, h2, h3⟩ := this
    rw [h1, he]
    have : c' = c := Array.ext_getElem? fun i => h3 i (by unfold noT; simp)
    rw [this]
  · exact this

/-- A slice of bytes as the world holds it. -/
def BSl (W : World) (v : Value) : Prop :=
  v = .slice none 0 0 ∨ ∃ (b o len cap : Nat) (zs : List Int) (arr : Array Value) (t : TypeId) (fz : Nat × Nat), v = .slice (some ⟨b, o, none⟩) len cap ∧ W.heap[b]? = some (.cells arr t fz) ∧ zs.length = cap ∧ len ≤ cap ∧ Bytes zs ∧
    ∀ i u, (zs.map (Value.int .u8))[i]? = some u → arr[o + i]? = some u
def KRow (W : World) : Prop := ∃ (arr : Array Value) (t : TypeId) (fz : Nat × Nat), W.heap[1]? = some (.cells arr t fz) ∧ ∀ i u, (kL.map (Value.int .u32))[i]? = some u → arr[0 + i]? = some u

def env2 (b1 o1 b2 o2 : Nat) : Env := fun r => if r % 2 = 0 then some (r / 2, 0) else if r = 9 then some (b1, o1) else if r = 17 then some (b2, o2) else none
theorem env2_gid (b1 o1 b2 o2 g : Nat) : env2 b1 o1 b2 o2 (gid g) = some (g, 0) := by
  unfold env2 gid
  rw [if_pos (by omega)]
  simp
theorem env2_fresh (b1 o1 b2 o2 : Nat) : ∀ n, 64 ≤ n → Fresh (env2 b1 o1 b2 o2) n := fun n hn j hj => by
  unfold env2 rid
  rw [if_neg (by omega), if_neg (by omega), if_neg (by omega)]

/-- A memory of read-only regions holds where each of them lies in the world. -/
theorem holds_ro {β : Env} {W : World} {l : List (Nat × Reg)} (h : ∀ x ∈ l, x.2.ro = true ∧ RegOk β W.heap.size noT W x.1 x.2) : Holds β noT (memL l) W W := by
  have hm : ∀ r g, (memL l).get r = some g → (r, g) ∈ l := fun r g hg => by
    rcases get_fold_set l _ hg with hg | hg
    · exact hg
    · rw [Tr.get_leaf] at hg; cases hg
  refine ⟨Fr.same _ _, fun r g hg => (h _ (hm r g hg)).2, fun r s g k _ hg hk hro => ?_⟩
  rcases hro with hro | hro
  · have := (h _ (hm r g hg)).1
    simp only at this
    rw [hro] at this; cases this
  · have := (h _ (hm s k hk)).1
    simp only at this
    rw [hro] at this; cases this
theorem regOk_ints {β : Env} {B : Nat} {W : World} {r b o : Nat} {k : IntKind} {xs : List Int} {arr : Array Value} {t : TypeId} {fz : Nat × Nat} (hβ : β r = some (b, o)) (hb : W.heap[b]? = some (.cells arr t fz))
    (hc : ∀ i u, (xs.map (Value.int k))[i]? = some u → arr[o + i]? = some u) : RegOk β B noT W r ⟨true, .ints k xs⟩ :=
  ⟨⟨b, o, arr, t, fz, _, hβ, hb, rfl, hc, fun h => by cases h⟩⟩

def isTrue : SV → Mem → Prop := fun sv _ => ∃ b : B, sv = .bool b ∧ b.val = true
theorem isTrue_lit (m : Mem) : isTrue (.bool (.lit true)) m := ⟨_, rfl, rfl⟩
theorem isTrue_sym (b : Bool) (m : Mem) (h : b = true) : isTrue (.bool (.sym b)) m := ⟨_, rfl, h⟩

/-- What is asked of a law's walk: at both slices, at one, at none. -/
structure Walks (fn : Func) : Prop where
  both : ∀ (msg dst : List Int) (l c l2 c2 : Nat) (n : Int), l ≤ msg.length → l2 ≤ dst.length → Bytes msg → Bytes dst → ∃ U,
    execF cxLw U fn 64 [.slice 9 (.lit 0) (.sym l) (.sym c), .slice 17 (.lit 0) (.sym l2) (.sym c2), .int .i64 (.sym n)] (memL [(2, ⟨true, .ints .u32 kL⟩), (9, ⟨true, .ints .u8 msg⟩), (17, ⟨true, .ints .u8 dst⟩)]) isTrue
  dst : ∀ (dst : List Int) (l2 c2 : Nat) (n : Int), l2 ≤ dst.length → Bytes dst → ∃ U,
    execF cxLw U fn 64 [.val (.slice none 0 0), .slice 17 (.lit 0) (.sym l2) (.sym c2), .int .i64 (.sym n)] (memL [(2, ⟨true, .ints .u32 kL⟩), (17, ⟨true, .ints .u8 dst⟩)]) isTrue
  msg : ∀ (msg : List Int) (l c : Nat) (n : Int), ∃ U,
    execF cxLw U fn 64 [.slice 9 (.lit 0) (.sym l) (.sym c), .val (.slice none 0 0), .int .i64 (.sym n)] (memL [(2, ⟨true, .ints .u32 kL⟩), (9, ⟨true, .ints .u8 msg⟩)]) isTrue
  none : ∀ n : Int, ∃ U, execF cxLw U fn 64 [.val (.slice none 0 0), .val (.slice none 0 0), .int .i64 (.sym n)] (memL [(2, ⟨true, .ints .u32 kL⟩)]) isTrue
theorem walks3 : Walks Tryd.f3 where
  both := fun msg dst l c l2 c2 n h1 h2 h3 h4 => ⟨_, lw_walk msg dst l c l2 c2 n _ h1 h2 h3 h4 isTrue_lit⟩
  dst := fun dst l2 c2 n h2 h4 => ⟨_, lwn_walk dst l2 c2 n _ h2 h4 isTrue_lit⟩
  msg := fun msg l c n => ⟨_, lwm_walk msg l c n _ isTrue_lit⟩
  none := fun n => ⟨_, lwz_walk n _ isTrue_lit⟩

theorem done_true {β : Env} {W : World} {e : Ending} {w' : World} (h : Done β noT W isTrue e w') : e = .returned (.bool true) ∧ Below W.heap.size W w' := by
  obtain ⟨β', v, sv, m', _, rfl, hd, hH, b, rfl, hb⟩ := h
  refine ⟨?_, hH.fr.below⟩
  simp only [Den] at hd
  rw [hd, hb]
theorem run_law {f : FuncId} {fn : Func} (hfn : Tryd.prog.funcs[f]? = some fn) (hw : Walks fn) {W : World} {v0 v1 : Value} {n : Int} (hK : KRow W) (h0 : BSl W v0) (h1 : BSl W v1) :
    Calls Tryd.prog f #[v0, v1, .int .i64 n] W fun e W' => e = .returned (.bool true) ∧ Below W.heap.size W W' := by
  obtain ⟨karr, kt, kfz, hk1, hk2⟩ := hK
  have dn : ∀ β : Env, Den β (.val (.slice none 0 0)) (.slice none 0 0) := fun β => by simp [Den]
  have di : ∀ β : Env, Den β (.int .i64 (.sym n)) (.int .i64 n) := fun β => by simp [Den, A.val]
  have d3 : ∀ {β : Env} {a b c : SV} {u v w : Value}, Den β a u → Den β b v → Den β c w → DenL β [a, b, c] [u, v, w] := fun {β} {a b c} {u v w} h1 h2 h3 =>
    ⟨u, [v, w], h1, ⟨v, [w], h2, ⟨w, [], h3, rfl, rfl⟩, rfl⟩, rfl⟩
  rcases h0 with rfl | ⟨b1, o1, len1, cap1, zs1, arr1, t1, fz1, rfl, a1, a2, a3, a4, a5⟩ <;> rcases h1 with rfl | ⟨b2, o2, len2, cap2, zs2, arr2, t2, fz2, rfl, c1, c2, c3, c4, c5⟩
  · have hH : Holds (env2 0 0 0 0) noT (memL [(2, ⟨true, .ints .u32 kL⟩)]) W W := holds_ro (by
      intro x hx
      simp only [List.mem_cons, List.not_mem_nil, or_false] at hx
      subst hx
      exact ⟨rfl, regOk_ints (env2_gid _ _ _ _ 1) hk1 hk2⟩)
    exact (execF_sound mixed hfn hH (d3 (dn _) (dn _) (di _)) (env2_gid _ _ _ _) (env2_fresh _ _ _ _) (Classical.choose_spec (hw.none n))).mono fun e w' h => done_true h
  · have hH : Holds (env2 0 0 b2 o2) noT (memL [(2, ⟨true, .ints .u32 kL⟩), (17, ⟨true, .ints .u8 zs2⟩)]) W W := holds_ro (by
      intro x hx
      simp only [List.mem_cons, List.not_mem_nil, or_false] at hx
      rcases hx with rfl | rfl
      · exact ⟨rfl, regOk_ints (env2_gid _ _ _ _ 1) hk1 hk2⟩
      · exact ⟨rfl, regOk_ints (by simp [env2]) c1 c5⟩)
    exact (execF_sound mixed hfn hH (d3 (dn _) (by simp only [Den]; exact ⟨b2, o2, rfl, rfl⟩) (di _)) (env2_gid _ _ _ _) (env2_fresh _ _ _ _) (Classical.choose_spec (hw.dst zs2 len2 cap2 n (by omega) c4))).mono fun e w' h => done_true h
  · have hH : Holds (env2 b1 o1 0 0) noT (memL [(2, ⟨true, .ints .u32 kL⟩), (9, ⟨true, .ints .u8 zs1⟩)]) W W := holds_ro (by
      intro x hx
      simp only [List.mem_cons, List.not_mem_nil, or_false] at hx
      rcases hx with rfl | rfl
      · exact ⟨rfl, regOk_ints (env2_gid _ _ _ _ 1) hk1 hk2⟩
      · exact ⟨rfl, regOk_ints (by simp [env2]) a1 a5⟩)
    exact (execF_sound mixed hfn hH (d3 (by simp only [Den]; exact ⟨b1, o1, rfl, rfl⟩) (dn _) (di _)) (env2_gid _ _ _ _) (env2_fresh _ _ _ _) (Classical.choose_spec (hw.msg zs1 len1 cap1 n))).mono fun e w' h => done_true h
  · have hH : Holds (env2 b1 o1 b2 o2) noT (memL [(2, ⟨true, .ints .u32 kL⟩), (9, ⟨true, .ints .u8 zs1⟩), (17, ⟨true, .ints .u8 zs2⟩)]) W W := holds_ro (by
      intro x hx
      simp only [List.mem_cons, List.not_mem_nil, or_false] at hx
      rcases hx with rfl | rfl | rfl
      · exact ⟨rfl, regOk_ints (env2_gid _ _ _ _ 1) hk1 hk2⟩
      · exact ⟨rfl, regOk_ints (by simp [env2]) a1 a5⟩
      · exact ⟨rfl, regOk_ints (by simp [env2]) c1 c5⟩)
    exact (execF_sound mixed hfn hH (d3 (by simp only [Den]; exact ⟨b1, o1, rfl, rfl⟩) (by simp only [Den]; exact ⟨b2, o2, rfl, rfl⟩) (di _)) (env2_gid _ _ _ _) (env2_fresh _ _ _ _) (Classical.choose_spec (hw.both zs1 zs2 len1 cap1 len2 cap2 n (by omega) (by omega) a4 c4))).mono fun e w' h => done_true h
end Go.Sx

/- The row of the law of HashField. -/
namespace Go.Proofs.YtccognfnnchgcaaDoor
open Go Go.Sx Go.ChangeShapes Go.WideShapes Go.RowKit
set_option maxRecDepth 100000
set_option maxHeartbeats 4000000

theorem own : ownKnob Tryd.prog.godebug = none := by kernel_rfl
theorem laidOut : laidOutB Tryd.prog = true := by kernel_rfl
theorem cells5 : Tryd.prog.cellsOf 5 = 1 := by kernel_rfl
theorem cellsU : Tryd.prog.cellsOf 62 = 1 := by kernel_rfl
theorem cellsA : Tryd.prog.cellsOf 87 = 64 := by kernel_rfl
theorem gK : Tryd.prog.globalNamed "loop.example/pub-g03347/pub/sha256._K" = some 1 := by kernel_rfl
theorem tK : (Tryd.prog.globals[1]?).map (·.type) = some 87 := by kernel_rfl
theorem gE : Tryd.prog.globalNamed "loop.example/pub-g03347/pub/gnarkcrypto/ecc/bn254/fp.errInvalidEncoding" = some 0 := by kernel_rfl
theorem tE : (Tryd.prog.globals[0]?).map (·.type) = some 32 := by kernel_rfl
def laidK : List (String × DataW Unit) := [("loop.example/pub-g03347/pub/sha256._K", Rows.laid_loop_example_pub_g03347_pub_sha256_K), ("loop.example/pub-g03347/pub/gnarkcrypto/ecc/bn254/fp.errInvalidEncoding", Rows.laid_loop_example_pub_g03347_pub_gnarkcrypto_ecc_bn254_fp_errInvalidEncoding)]

theorem bsl_of {H : Type} {enc : TypeId × Value → H} {W : World} {base : Nat} {v : Value} {d : DataW H} {ps : List MemPlace} (hval : Value.okWide Tryd.prog W .any base 22 v)
    (h : DataW.Trod enc Tryd.prog W 0 (fun _ => true) true 22 v d ps) : BSl W v := by
  obtain ⟨a, len, cap, rfl⟩ := okWide_slice Tryd.underlying22 hval
  obtain ⟨fuel, hf⟩ := h
  rcases open_ints Tryd.underlying22 Tryd.underlying5 cells5 hf with ⟨hc, _⟩ | ⟨a', len', cap', zs, hc, _, hle, _, hzl, _, hcells, hwf⟩
  · left
    simpa [Value.cells] using hc
  · right
    simp only [Value.cells, List.cons.injEq, and_true, Value.slice.injEq] at hc
    obtain ⟨rfl, rfl, rfl⟩ := hc
    simp only [Value.okWide, Tryd.underlying22, Cell.okWide, Cell.ok] at hval
    obtain ⟨_, _, _, hspot, row, cells, hsh, _⟩ := hval
    obtain ⟨b, o, sp⟩ := a'
    simp only at hspot
    subst hspot
    simp only [if_true] at hzl
    have hb : ∃ arr t fz, W.heap[b]? = some (.cells arr t fz) := by
      unfold World.shape? at hsh
      split at hsh
      · rename_i c t fz he
        exact ⟨c, t, fz, he⟩
      · cases hsh
    obtain ⟨arr, t, fz, he⟩ := hb
    refine ⟨b, o, len, cap, zs, arr, t, fz, rfl, he, hzl, hle, fun x hx => ?_, fun i u hu => ?_⟩
    · have := bounds_u8 (hwf x hx)
      omega
    · rw [List.getElem?_map] at hu
      cases hz : zs[i]? with
      | none => rw [hz] at hu; cases hu
      | some z =>
        rw [hz] at hu
        have hi : i < zs.length := (List.getElem?_eq_some_iff.1 hz).1
        have := hcells i hi
        have hz2 : zs.getD i 0 = z := by simp [List.getD_eq_getElem?_getD, hz]
        rw [hz2] at this
        have hadd : (⟨b, o, none⟩ : Addr).add i = ⟨b, o + i, none⟩ := by
          unfold Addr.add
          split
          · rename_i h0; subst h0; rfl
          · rfl
        rw [hadd] at this
        unfold World.cell? at this
        simp only [he] at this
        rw [← hu]
        exact this

theorem krow_of {W : World} (h : laidMetH Tryd.prog laidK W) : KRow W := by
  rw [MakeChecks.laidMetH_plain _ _ _ (by kernel_rfl)] at h
  obtain ⟨ps, ⟨g0, t0, cs0, f0, p0, q0, hg0, ht0, hv0, hd0, _, _⟩, _, _⟩ := h
  obtain rfl := Option.some.inj (gK.symm.trans hg0)
  obtain rfl := Option.some.inj (tK.symm.trans ht0)
  have hb : ∃ t fz, W.heap[1]? = some (.cells cs0 t fz) := by
    unfold World.var? at hv0
    rw [gK] at hv0
    simp only [Option.bind_some] at hv0
    split at hv0
    · rename_i c t fz he
      exact ⟨t, fz, by rw [he, Option.some.inj hv0]⟩
    · cases hv0
  obtain ⟨t, fz, he⟩ := hb
  refine ⟨cs0, t, fz, he, fun i u hu => ?_⟩
  obtain ⟨xs, m, _, hx, hlen, hn, hel⟩ := DataW.trod_array Tryd.underlying87 hd0
  rw [cellsA] at hlen
  rw [List.getElem?_map] at hu
  cases hz : kL[i]? with
  | none => rw [hz] at hu; cases hu
  | some z =>
    rw [hz] at hu
    have hu : Value.int .u32 z = u := Option.some.inj hu
    have hi : i < 64 := (List.getElem?_eq_some_iff.1 hz).1
    have h1 := hel i hi
    rw [cellsU, Nat.mul_one] at h1
    obtain ⟨y, hy⟩ : ∃ y, xs[i]? = some y := ⟨xs[i], List.getElem?_eq_getElem (by omega)⟩
    rw [hy] at h1
    obtain ⟨k, e1, e2, _⟩ := DataW.trod_int Tryd.underlying62 h1
    have hc : cs0.toList[i]? = some (.int .u32 k) := by
      have : ((cs0.toList.drop i).take 1)[0]? = some (.int .u32 k) := by rw [e1]; rfl
      simpa using this
    have hd : Rows.laid_loop_example_pub_g03347_pub_sha256_K (H := Unit) = .agg (kL.map fun x => .lit (.int .u32 x)) := rfl
    simp only [Prod.mk.injEq] at hx
    rw [hd] at hx
    have hxx := DataW.agg.inj hx.1
    have h2 : (kL.map fun x => (DataW.lit (.int .u32 x) : DataW Unit))[i]? = (xs.map (·.1))[i]? := by rw [hxx]
    rw [List.getElem?_map, List.getElem?_map, hz, hy, e2] at h2
    have h3 : z = k := by simpa using h2
    rw [Nat.zero_add, ← hu, h3]
    simpa using hc

theorem door_met (os : Os) (args : Array Value) : laidMetH Tryd.prog laidK ((World.doorLaid Tryd.prog 2000 os).forCall (fun _ _ => 0) ⟨#[], args, []⟩).memory :=
  laidMetH_of_parts3 (fuel := 8) (laidMet_of_run' 8 (by kernel_rfl) (by kernel_rfl)) (by kernel_rfl) (by kernel_rfl)

/-- A named variable reads behind the call as it did. -/
theorem var_step {H : Type} {enc : TypeId × Value → H} {W W' : World} {n : String} {g : Nat} {t : TypeId} {ns : List String} {d : DataW H} {ds : List (DataW H)} {q : List MemPlace} (hg : Tryd.prog.globalNamed n = some g) (ht : (Tryd.prog.globals[g]?).map (·.type) = some t)
    (hr : Tryd.prog.readableRec t = true) (hs : t < Tryd.prog.types.size) (hb : Below W.heap.size W W') (hlt : ∀ x ∈ q, x.block < W.heap.size)
    (hn : ∀ q', (∀ x ∈ q', x.block < W.heap.size) → DataW.TrodVars enc Tryd.prog W (fun _ => true) ns ds q' → DataW.TrodVars enc Tryd.prog W' (fun b => decide (b < W.heap.size)) ns ds q')
    (h : DataW.TrodVars enc Tryd.prog W (fun _ => true) (n :: ns) (d :: ds) q) : DataW.TrodVars enc Tryd.prog W' (fun b => decide (b < W.heap.size)) (n :: ns) (d :: ds) q := by
  obtain ⟨g', t', cs, fuel, p, r, h1, h2, h3, h4, hs', e⟩ := h
  obtain rfl := Option.some.inj (hg.symm.trans h1)
  obtain rfl := Option.some.inj (ht.symm.trans h2)
  have hp : ∀ x ∈ p, x.block < W.heap.size := fun x hx => hlt x (by rw [e]; simp [hx])
  have hq : ∀ x ∈ r, x.block < W.heap.size := fun x hx => hlt x (by rw [e]; simp [hx])
  obtain ⟨fuel', h4'⟩ := Below.trod (v := .agg cs) laidOut hr hs ⟨fuel, h4⟩ hb hp
  have h3' : W'.var? Tryd.prog n = some cs := by
    unfold World.var? at h3 ⊢
    rw [hg] at h3 ⊢
    simp only [Option.bind_some] at h3 ⊢
    have h0 : g < W.heap.size := by
      cases hh : W.heap[g]? with
      | none => rw [hh] at h3; cases h3
      | some o => exact (Array.getElem?_eq_some_iff.1 hh).1
    rw [hb.block g h0]
    exact h3
  exact ⟨g, t, cs, fuel', p, r, hg, ht, h3', h4', hn r hq hs', e⟩
theorem vars_stay {H : Type} {enc : TypeId × Value → H} {W W' : World} {d e : DataW H} {q : List MemPlace} (hb : Below W.heap.size W W') (hlt : ∀ x ∈ q, x.block < W.heap.size)
    (h : DataW.TrodVars enc Tryd.prog W (fun _ => true) ["loop.example/pub-g03347/pub/sha256._K", "loop.example/pub-g03347/pub/gnarkcrypto/ecc/bn254/fp.errInvalidEncoding"] [d, e] q) : DataW.TrodVars enc Tryd.prog W' (fun b => decide (b < W.heap.size)) ["loop.example/pub-g03347/pub/sha256._K", "loop.example/pub-g03347/pub/gnarkcrypto/ecc/bn254/fp.errInvalidEncoding"] [d, e] q :=
  var_step gK tK (by kernel_rfl) (of_decide_eq_true (by kernel_rfl)) hb hlt (fun _ hq' h' => var_step gE tE (by kernel_rfl) (of_decide_eq_true (by kernel_rfl)) hb hq' (fun _ _ h'' => h'') h') h

theorem post_law {H : Type} {enc : TypeId × Value → H} {fn : Func} {s : ChangeSpec} {W W' : World} {args : Array Value} {ds gs : List (DataW H)} {before : List MemPlace}
    (hp : fn.params = #[22, 22, 3]) (hr : fn.resultTypes = #[4]) (hv : s.vars = ["loop.example/pub-g03347/pub/sha256._K", "loop.example/pub-g03347/pub/gnarkcrypto/ecc/bn254/fp.errInvalidEncoding"])
    (hs : ∀ d1 d2 d3 g1 g2 : DataW H, s.fn H [d1, d2, d3, g1, g2] = { results := [.lit (.bool true)], args := [d1, d2, d3], vars := [g1, g2] })
    (hW : DataW.Whole enc Tryd.prog fn.params.toList s.vars false W args.toList ds gs before) (hb : Below W.heap.size W W') :
    s.post enc Tryd.prog fn false true false false W args (.bool true) W' := by
  have hlt := hW.lt
  have hW' := hW
  obtain ⟨p, q, hA, hV, rfl, hfz, hnd⟩ := hW
  have hA' : DataW.TrodAll enc Tryd.prog W 0 (fun _ => true) true fn.params.toList args.toList ds p := hA
  have hV' : DataW.TrodVars enc Tryd.prog W (fun _ => true) s.vars gs q := hV
  rw [hp] at hA'
  obtain ⟨v0, v1, v2, d0, d1, d2, p0, p1, p2, rfl, rfl, rfl, h0, h1, h2⟩ := trodAll_three hA'
  obtain ⟨g, g', rfl⟩ : ∃ g g', gs = [g, g'] := by
    rw [hv] at hV'
    obtain ⟨_, _, _, _, d, _, _, _, _, _, d', _, rfl, _⟩ := trodVars_two hV'
    exact ⟨d, d', rfl⟩
  have e : s.fn H ([d0, d1, d2] ++ [g, g']) = { results := [.lit (.bool true)], args := [d0, d1, d2], vars := [g, g'] } := hs _ _ _ _ _
  have l0 : ∀ x ∈ p0, x.block < W.heap.size := fun x hx => by simpa using hlt x (by simp [hx])
  have l1 : ∀ x ∈ p1, x.block < W.heap.size := fun x hx => by simpa using hlt x (by simp [hx])
  have l2 : ∀ x ∈ p2, x.block < W.heap.size := fun x hx => by simpa using hlt x (by simp [hx])
  refine ⟨_, _, _, [], p0 ++ (p1 ++ p2), q, hW', ?_, ?_, ?_, Below.frame hb _, fun h => by cases h⟩
  · rw [e, hr]
    exact trodAll_mk1 (shut_bool Tryd.underlying4 true)
  · rw [e, hp]
    exact trodAll_mk3 (Below.trod laidOut (by kernel_rfl) (of_decide_eq_true (by kernel_rfl)) h0 hb l0) (Below.trod laidOut (by kernel_rfl) (of_decide_eq_true (by kernel_rfl)) h1 hb l1)
      (Below.trod laidOut (by kernel_rfl) (of_decide_eq_true (by kernel_rfl)) h2 hb l2)
  · rw [e]
    rw [hv] at hV' ⊢
    exact vars_stay hb (fun x hx => by simpa using hlt x (by simp [hx])) hV'

theorem lifted3 (os : Os) (started : os.Started) (H : Type) (enc : TypeId × Value → H) :
    ReturnsInHanded {} Tryd.checked os 3 .any (fun w args => (Rows.fnHashFieldSpec.pre enc Tryd.prog Tryd.f3 [] false w args ∧ laidMetH Tryd.prog laidK w) ∧ sizedMet enc Tryd.prog Tryd.f3 (OpenSpec.ofChange Rows.fnHashFieldSpec) false w args)
      (Rows.fnHashFieldSpec.post enc Tryd.prog Tryd.f3 false true false false) := by
  refine returnsInHanded_of_change_and (C := Tryd.checked) (X := fun w _ => laidMetH Tryd.prog laidK w) (fun _ _ _ hh h => h.of_heap hh) own started (by kernel_rfl) Tryd.func3
    (ChangeSpec.witness_shaped (enc := enc) (C := Tryd.checked) (os := os) (X := fun w _ => laidMetH Tryd.prog laidK w) false (World.doorLaid Tryd.prog 2000 os) #[.slice none 0 0, .slice none 0 0, .int .i64 0] 8 rfl (World.shaped_of_RefB (by kernel_rfl) (by kernel_rfl)) (by kernel_rfl) (by kernel_rfl) (by kernel_rfl) (door_met os _)) ?_
  intro W base args ds gs before hval hW _ _ hL _
  have hW' := hW
  obtain ⟨p, q, hA0, _, _, _, _⟩ := hW
  have hA : DataW.TrodAll enc Tryd.prog W 0 (fun _ => true) true Tryd.f3.params.toList args.toList ds p := hA0
  rw [Tryd.params3] at hA hval
  obtain ⟨v0, v1, v2, d0, d1, d2, p0, p1, p2, rfl, rfl, rfl, h0, h1, h2⟩ := trodAll_three hA
  obtain ⟨n, rfl, rfl, rfl, _⟩ := open_int Tryd.underlying3 (hval 2 3 v2 rfl rfl) h2
  refine (run_law Tryd.func3 walks3 (krow_of hL) (bsl_of (hval 0 22 v0 rfl rfl) h0) (bsl_of (hval 1 22 v1 rfl rfl) h1)).mono fun e W' ⟨he, hb⟩ => ?_
  exact ⟨_, he, post_law Tryd.params3 rfl rfl (fun _ _ _ _ _ => rfl) hW' hb⟩
theorem fnHashField_holds : Rows.FnHashFieldSaid :=
  OpenClaim.holds_of_wide 3 Tryd.f3 rfl rfl rfl rfl rfl rfl rfl ⟨rfl, rfl, rfl, rfl, rfl⟩ rfl rfl rfl rfl rfl (by kernel_rfl) Tryd.func3 (by kernel_rfl)
    (of_decide_eq_true (by kernel_rfl)) (by unfold Func.isWrapper; first | (rw [if_pos (by decide +kernel)]; kernel_rfl) | (rw [if_neg (by decide +kernel)]; exact ⟨rfl, rfl⟩))
    (fun os started H enc _ => lifted3 os started H enc)
theorem fnHashField_card_holds : Rows.FnHashFieldCardSaid :=
  Claim7.holds_tied_plain_at .later [] [.data, .sentinel] true (true, "b24c5f5de29b0d2a78a171d83811d586116774591103ee28c2e767890d41174f") false
    fnHashField_holds (fun _ h => by cases h) (by kernel_rfl) (fun _ h => by cases h) fnHashField_row_tie rfl ⟨rfl, rfl⟩ (by kernel_rfl) rfl
    (fun f fn hf hfn => by
      obtain rfl : f = 3 := Option.some.inj ((show Tryd.prog.funcNamed "loop.example/pub-g03347/laws.FnHashField" = some 3 by kernel_rfl).symm.trans hf) |>.symm
      obtain rfl : fn = Tryd.f3 := (Option.some.inj (Tryd.func3.symm.trans hfn)).symm
      exact ⟨by kernel_rfl, fun j t ht => by
        rw [Tryd.params3] at ht
        have hm : t ∈ [22, 22, 3] := by simpa using Array.mem_of_getElem? ht
        have hall : ([22, 22, 3].all fun u => !Tryd.prog.wantsStandIn u) = true := by kernel_rfl
        exact (show Tryd.prog.wantsStandIn t = false by simpa using List.all_eq_true.1 hall t hm)⟩)
    (by kernel_rfl)
#print axioms fnHashField_card_holds

end Go.Proofs.YtccognfnnchgcaaDoor
