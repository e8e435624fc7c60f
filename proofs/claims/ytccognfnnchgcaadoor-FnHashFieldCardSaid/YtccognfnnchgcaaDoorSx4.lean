/- Part 4 of the proof: for every message, domain and count the law FnHashField returns true (a verified symbolic evaluator, contracts of each function reached, the law, its row and card). Conditions: those of the given statement, none besides. -/
import Derived.Test.YtccognfnnchgcaaDoorSx3
/- spec.block: its condition. -/
namespace Go.Sx
open Go Go.Proofs
set_option maxRecDepth 100000
theorem vc_sb (H : S8) (xs : List Int) (l c : Nat) (K : SV → Mem → Prop) : (execF cxSB (uSB H xs) Tryd.f33 64 [.agg [i32 H.a, i32 H.b, i32 H.c, i32 H.d, i32 H.e, i32 H.f, i32 H.g, i32 H.h], .slice 1 (.lit 0) (.sym l) (.sym c)] (memL [(1, ⟨true, .ints .u8 xs⟩)]) K) =
  (((∃ (i00 : (Go.Sx.LI.ι (Go.Sx.liSB0 xs))), ((((Prod.fst i00) ≤ (16 : Nat)) ∧
 (((List.length (Prod.snd i00)) = (64 : Nat)) ∧
 (∀ (j1 : Nat), ((j1 < (Prod.fst i00)) → ((List.getD (Prod.snd i00) j1 (0 : Int)) = (Go.Sx.W xs j1)))))) ∧
 (((((Go.Sx.S8.a H) = (Go.Sx.S8.a H)) ∧
 (((Go.Sx.S8.b H) = (Go.Sx.S8.b H)) ∧
 (((Go.Sx.S8.c H) = (Go.Sx.S8.c H)) ∧
 (((Go.Sx.S8.d H) = (Go.Sx.S8.d H)) ∧
 (((Go.Sx.S8.e H) = (Go.Sx.S8.e H)) ∧
 (((Go.Sx.S8.f H) = (Go.Sx.S8.f H)) ∧
 (((Go.Sx.S8.g H) = (Go.Sx.S8.g H)) ∧
 ((Go.Sx.S8.h H) = (Go.Sx.S8.h H))))))))) ∧
 (((l = l) ∧
 (c = c)) ∧
 ((0 : Int) = (((Prod.fst i00) : Nat) : Int)))) ∧
 ((xs = xs) ∧
 ((((Go.Sx.S8.a H) = (Go.Sx.S8.a H)) ∧
 (((Go.Sx.S8.b H) = (Go.Sx.S8.b H)) ∧
 (((Go.Sx.S8.c H) = (Go.Sx.S8.c H)) ∧
 (((Go.Sx.S8.d H) = (Go.Sx.S8.d H)) ∧
 (((Go.Sx.S8.e H) = (Go.Sx.S8.e H)) ∧
 (((Go.Sx.S8.f H) = (Go.Sx.S8.f H)) ∧
 (((Go.Sx.S8.g H) = (Go.Sx.S8.g H)) ∧
 ((Go.Sx.S8.h H) = (Go.Sx.S8.h H))))))))) ∧
 ([(0 : Int), (0 : Int), (0 : Int), (0 : Int), (0 : Int), (0 : Int), (0 : Int), (0 : Int), (0 : Int), (0 : Int), (0 : Int), (0 : Int), (0 : Int), (0 : Int), (0 : Int), (0 : Int), (0 : Int), (0 : Int), (0 : Int), (0 : Int), (0 : Int), (0 : Int), (0 : Int), (0 : Int), (0 : Int), (0 : Int), (0 : Int), (0 : Int), (0 : Int), (0 : Int), (0 : Int), (0 : Int), (0 : Int), (0 : Int), (0 : Int), (0 : Int), (0 : Int), (0 : Int), (0 : Int), (0 : Int), (0 : Int), (0 : Int), (0 : Int), (0 : Int), (0 : Int), (0 : Int), (0 : Int), (0 : Int), (0 : Int), (0 : Int), (0 : Int), (0 : Int), (0 : Int), (0 : Int), (0 : Int), (0 : Int), (0 : Int), (0 : Int), (0 : Int), (0 : Int), (0 : Int), (0 : Int), (0 : Int), (0 : Int)] = (Prod.snd i00))))))) ∧
 (∀ (i2 : (Go.Sx.LI.ι (Go.Sx.liSB0 xs))), ((((Prod.fst i2) ≤ (16 : Nat)) ∧
 (((List.length (Prod.snd i2)) = (64 : Nat)) ∧
 (∀ (j3 : Nat), ((j3 < (Prod.fst i2)) → ((List.getD (Prod.snd i2) j3 (0 : Int)) = (Go.Sx.W xs j3)))))) → ((((decide ((((Prod.fst i2) : Nat) : Int) < (16 : Int))) = Bool.true) → (∀ (x4 : Int), ((x4 = (Go.IntKind.wrap Go.IntKind.i64 ((4 : Int) * (((Prod.fst i2) : Nat) : Int)))) → ((((0 : Int) ≤ x4) ∧
 (x4 < ((l : Nat) : Int))) ∧
 (((((Int.toNat x4) * (1 : Nat)) + (1 : Nat)) ≤ (List.length xs)) ∧
 (∀ (x5 : Int), ((x5 = (List.getD xs ((Int.toNat x4) * (1 : Nat)) (0 : Int))) → (∀ (x6 : Int), ((x6 = (Go.IntKind.wrap Go.IntKind.u32 x5)) → (∀ (x7 : Int), ((x7 = (Go.Sx.shlv Go.IntKind.u32 x6 (24 : Nat))) → (∀ (x8 : Int), ((x8 = (Go.IntKind.wrap Go.IntKind.i64 ((4 : Int) * (((Prod.fst i2) : Nat) : Int)))) → (∀ (x9 : Int), ((x9 = (Go.IntKind.wrap Go.IntKind.i64 (x8 + (1 : Int)))) → ((((0 : Int) ≤ x9) ∧
 (x9 < ((l : Nat) : Int))) ∧
 (((((Int.toNat x9) * (1 : Nat)) + (1 : Nat)) ≤ (List.length xs)) ∧
 (∀ (x10 : Int), ((x10 = (List.getD xs ((Int.toNat x9) * (1 : Nat)) (0 : Int))) → (∀ (x11 : Int), ((x11 = (Go.IntKind.wrap Go.IntKind.u32 x10)) → (∀ (x12 : Int), ((x12 = (Go.Sx.shlv Go.IntKind.u32 x11 (16 : Nat))) → (∀ (x13 : Int), ((x13 = (Go.IntKind.wrap Go.IntKind.u32 (x7 + x12))) → (∀ (x14 : Int), ((x14 = (Go.IntKind.wrap Go.IntKind.i64 ((4 : Int) * (((Prod.fst i2) : Nat) : Int)))) → (∀ (x15 : Int), ((x15 = (Go.IntKind.wrap Go.IntKind.i64 (x14 + (2 : Int)))) → ((((0 : Int) ≤ x15) ∧
 (x15 < ((l : Nat) : Int))) ∧
 (((((Int.toNat x15) * (1 : Nat)) + (1 : Nat)) ≤ (List.length xs)) ∧
 (∀ (x16 : Int), ((x16 = (List.getD xs ((Int.toNat x15) * (1 : Nat)) (0 : Int))) → (∀ (x17 : Int), ((x17 = (Go.IntKind.wrap Go.IntKind.u32 x16)) → (∀ (x18 : Int), ((x18 = (Go.Sx.shlv Go.IntKind.u32 x17 (8 : Nat))) → (∀ (x19 : Int), ((x19 = (Go.IntKind.wrap Go.IntKind.u32 (x13 + x18))) → (∀ (x20 : Int), ((x20 = (Go.IntKind.wrap Go.IntKind.i64 ((4 : Int) * (((Prod.fst i2) : Nat) : Int)))) → (∀ (x21 : Int), ((x21 = (Go.IntKind.wrap Go.IntKind.i64 (x20 + (3 : Int)))) → ((((0 : Int) ≤ x21) ∧
 (x21 < ((l : Nat) : Int))) ∧
 (((((Int.toNat x21) * (1 : Nat)) + (1 : Nat)) ≤ (List.length xs)) ∧
 (∀ (x22 : Int), ((x22 = (List.getD xs ((Int.toNat x21) * (1 : Nat)) (0 : Int))) → (∀ (x23 : Int), ((x23 = (Go.IntKind.wrap Go.IntKind.u32 x22)) → (∀ (x24 : Int), ((x24 = (Go.IntKind.wrap Go.IntKind.u32 (x19 + x23))) → ((((0 : Int) ≤ (((Prod.fst i2) : Nat) : Int)) ∧
 ((((Prod.fst i2) : Nat) : Int) < (64 : Int))) ∧
 ((((Int.toNat (((Prod.fst i2) : Nat) : Int)) * (1 : Nat)) < (List.length (Prod.snd i2))) ∧
 (∀ (x25 : Int), ((x25 = (Go.IntKind.wrap Go.IntKind.i64 ((((Prod.fst i2) : Nat) : Int) + (1 : Int)))) → (∃ (x26 : (Go.Sx.LI.ι (Go.Sx.liSB0 xs))), ((((Prod.fst x26) ≤ (16 : Nat)) ∧
 (((List.length (Prod.snd x26)) = (64 : Nat)) ∧
 (∀ (j27 : Nat), ((j27 < (Prod.fst x26)) → ((List.getD (Prod.snd x26) j27 (0 : Int)) = (Go.Sx.W xs j27)))))) ∧
 ((((((Go.Sx.S8.a H) = (Go.Sx.S8.a H)) ∧
 (((Go.Sx.S8.b H) = (Go.Sx.S8.b H)) ∧
 (((Go.Sx.S8.c H) = (Go.Sx.S8.c H)) ∧
 (((Go.Sx.S8.d H) = (Go.Sx.S8.d H)) ∧
 (((Go.Sx.S8.e H) = (Go.Sx.S8.e H)) ∧
 (((Go.Sx.S8.f H) = (Go.Sx.S8.f H)) ∧
 (((Go.Sx.S8.g H) = (Go.Sx.S8.g H)) ∧
 ((Go.Sx.S8.h H) = (Go.Sx.S8.h H))))))))) ∧
 (((l = l) ∧
 (c = c)) ∧
 (x25 = (((Prod.fst x26) : Nat) : Int)))) ∧
 ((xs = xs) ∧
 ((((Go.Sx.S8.a H) = (Go.Sx.S8.a H)) ∧
 (((Go.Sx.S8.b H) = (Go.Sx.S8.b H)) ∧
 (((Go.Sx.S8.c H) = (Go.Sx.S8.c H)) ∧
 (((Go.Sx.S8.d H) = (Go.Sx.S8.d H)) ∧
 (((Go.Sx.S8.e H) = (Go.Sx.S8.e H)) ∧
 (((Go.Sx.S8.f H) = (Go.Sx.S8.f H)) ∧
 (((Go.Sx.S8.g H) = (Go.Sx.S8.g H)) ∧
 ((Go.Sx.S8.h H) = (Go.Sx.S8.h H))))))))) ∧
 ((List.set (Prod.snd i2) ((Int.toNat (((Prod.fst i2) : Nat) : Int)) * (1 : Nat)) x24) = (Prod.snd x26))))) ∧
 (((16 : Nat) - (Prod.fst x26)) < ((16 : Nat) - (Prod.fst i2))))))))))))))))))))))))))))))))))))))))))))))))))))))))))))) ∧
 (((decide ((((Prod.fst i2) : Nat) : Int) < (16 : Int))) = Bool.false) → ((∃ (i028 : (Go.Sx.LI.ι (Go.Sx.liSB2 xs))), ((((16 : Nat) ≤ (Prod.fst i028)) ∧
 (((Prod.fst i028) ≤ (64 : Nat)) ∧
 (((List.length (Prod.snd i028)) = (64 : Nat)) ∧
 (∀ (j29 : Nat), ((j29 < (Prod.fst i028)) → ((List.getD (Prod.snd i028) j29 (0 : Int)) = (Go.Sx.W xs j29))))))) ∧
 (((((Go.Sx.S8.a H) = (Go.Sx.S8.a H)) ∧
 (((Go.Sx.S8.b H) = (Go.Sx.S8.b H)) ∧
 (((Go.Sx.S8.c H) = (Go.Sx.S8.c H)) ∧
 (((Go.Sx.S8.d H) = (Go.Sx.S8.d H)) ∧
 (((Go.Sx.S8.e H) = (Go.Sx.S8.e H)) ∧
 (((Go.Sx.S8.f H) = (Go.Sx.S8.f H)) ∧
 (((Go.Sx.S8.g H) = (Go.Sx.S8.g H)) ∧
 ((Go.Sx.S8.h H) = (Go.Sx.S8.h H))))))))) ∧
 (((l = l) ∧
 (c = c)) ∧
 ((16 : Int) = (((Prod.fst i028) : Nat) : Int)))) ∧
 ((xs = xs) ∧
 ((((Go.Sx.S8.a H) = (Go.Sx.S8.a H)) ∧
 (((Go.Sx.S8.b H) = (Go.Sx.S8.b H)) ∧
 (((Go.Sx.S8.c H) = (Go.Sx.S8.c H)) ∧
 (((Go.Sx.S8.d H) = (Go.Sx.S8.d H)) ∧
 (((Go.Sx.S8.e H) = (Go.Sx.S8.e H)) ∧
 (((Go.Sx.S8.f H) = (Go.Sx.S8.f H)) ∧
 (((Go.Sx.S8.g H) = (Go.Sx.S8.g H)) ∧
 ((Go.Sx.S8.h H) = (Go.Sx.S8.h H))))))))) ∧
 ((Prod.snd i2) = (Prod.snd i028))))))) ∧
 (∀ (i30 : (Go.Sx.LI.ι (Go.Sx.liSB2 xs))), ((((16 : Nat) ≤ (Prod.fst i30)) ∧
 (((Prod.fst i30) ≤ (64 : Nat)) ∧
 (((List.length (Prod.snd i30)) = (64 : Nat)) ∧
 (∀ (j31 : Nat), ((j31 < (Prod.fst i30)) → ((List.getD (Prod.snd i30) j31 (0 : Int)) = (Go.Sx.W xs j31))))))) → ((((decide ((((Prod.fst i30) : Nat) : Int) < (64 : Int))) = Bool.true) → (∀ (x32 : Int), ((x32 = (Go.IntKind.wrap Go.IntKind.i64 ((((Prod.fst i30) : Nat) : Int) - (15 : Int)))) → ((((0 : Int) ≤ x32) ∧
 (x32 < (64 : Int))) ∧
 (((((Int.toNat x32) * (1 : Nat)) + (1 : Nat)) ≤ (List.length (Prod.snd i30))) ∧
 (∀ (x33 : Int), ((x33 = (List.getD (Prod.snd i30) ((Int.toNat x32) * (1 : Nat)) (0 : Int))) → (∀ (x34 : Int), ((x34 = (Go.IntKind.wrap Go.IntKind.i64 ((((Prod.fst i30) : Nat) : Int) - (2 : Int)))) → ((((0 : Int) ≤ x34) ∧
 (x34 < (64 : Int))) ∧
 (((((Int.toNat x34) * (1 : Nat)) + (1 : Nat)) ≤ (List.length (Prod.snd i30))) ∧
 (∀ (x35 : Int), ((x35 = (List.getD (Prod.snd i30) ((Int.toNat x34) * (1 : Nat)) (0 : Int))) → (∀ (x36 : Int), ((x36 = (Go.IntKind.wrap Go.IntKind.i64 ((((Prod.fst i30) : Nat) : Int) - (16 : Int)))) → ((((0 : Int) ≤ x36) ∧
 (x36 < (64 : Int))) ∧
 (((((Int.toNat x36) * (1 : Nat)) + (1 : Nat)) ≤ (List.length (Prod.snd i30))) ∧
 (∀ (x37 : Int), ((x37 = (List.getD (Prod.snd i30) ((Int.toNat x36) * (1 : Nat)) (0 : Int))) → (∀ (x38 : Int), ((x38 = (Go.IntKind.wrap Go.IntKind.i64 ((((Prod.fst i30) : Nat) : Int) - (7 : Int)))) → ((((0 : Int) ≤ x38) ∧
 (x38 < (64 : Int))) ∧
 (((((Int.toNat x38) * (1 : Nat)) + (1 : Nat)) ≤ (List.length (Prod.snd i30))) ∧
 (∀ (x39 : Int), ((x39 = (List.getD (Prod.snd i30) ((Int.toNat x38) * (1 : Nat)) (0 : Int))) → (∀ (x40 : Int), ((x40 = (Go.IntKind.wrap Go.IntKind.u32 (x37 + x39))) → ((((0 : Int) ≤ (7 : Int)) ∧
 ((7 : Int) ≤ (32 : Int))) ∧
 (∀ (x41 : Int), ((x41 = (Go.Sx.rot x33 (7 : Nat))) → ((((0 : Int) ≤ (18 : Int)) ∧
 ((18 : Int) ≤ (32 : Int))) ∧
 (∀ (x42 : Int), ((x42 = (Go.Sx.rot x33 (18 : Nat))) → (∀ (x43 : Int), ((x43 = (Go.Sx.bxor Go.IntKind.u32 x41 x42)) → (∀ (x44 : Int), ((x44 = (Go.Sx.shrv Go.IntKind.u32 x33 (3 : Nat))) → (∀ (x45 : Int), ((x45 = (Go.Sx.bxor Go.IntKind.u32 x43 x44)) → (∀ (x46 : Int), ((x46 = (Go.IntKind.wrap Go.IntKind.u32 (x40 + x45))) → ((((0 : Int) ≤ (17 : Int)) ∧
 ((17 : Int) ≤ (32 : Int))) ∧
 (∀ (x47 : Int), ((x47 = (Go.Sx.rot x35 (17 : Nat))) → ((((0 : Int) ≤ (19 : Int)) ∧
 ((19 : Int) ≤ (32 : Int))) ∧
 (∀ (x48 : Int), ((x48 = (Go.Sx.rot x35 (19 : Nat))) → (∀ (x49 : Int), ((x49 = (Go.Sx.bxor Go.IntKind.u32 x47 x48)) → (∀ (x50 : Int), ((x50 = (Go.Sx.shrv Go.IntKind.u32 x35 (10 : Nat))) → (∀ (x51 : Int), ((x51 = (Go.Sx.bxor Go.IntKind.u32 x49 x50)) → (∀ (x52 : Int), ((x52 = (Go.IntKind.wrap Go.IntKind.u32 (x46 + x51))) → ((((0 : Int) ≤ (((Prod.fst i30) : Nat) : Int)) ∧
 ((((Prod.fst i30) : Nat) : Int) < (64 : Int))) ∧
 ((((Int.toNat (((Prod.fst i30) : Nat) : Int)) * (1 : Nat)) < (List.length (Prod.snd i30))) ∧
 (∀ (x53 : Int), ((x53 = (Go.IntKind.wrap Go.IntKind.i64 ((((Prod.fst i30) : Nat) : Int) + (1 : Int)))) → (∃ (x54 : (Go.Sx.LI.ι (Go.Sx.liSB2 xs))), ((((16 : Nat) ≤ (Prod.fst x54)) ∧
 (((Prod.fst x54) ≤ (64 : Nat)) ∧
 (((List.length (Prod.snd x54)) = (64 : Nat)) ∧
 (∀ (j55 : Nat), ((j55 < (Prod.fst x54)) → ((List.getD (Prod.snd x54) j55 (0 : Int)) = (Go.Sx.W xs j55))))))) ∧
 ((((((Go.Sx.S8.a H) = (Go.Sx.S8.a H)) ∧
 (((Go.Sx.S8.b H) = (Go.Sx.S8.b H)) ∧
 (((Go.Sx.S8.c H) = (Go.Sx.S8.c H)) ∧
 (((Go.Sx.S8.d H) = (Go.Sx.S8.d H)) ∧
 (((Go.Sx.S8.e H) = (Go.Sx.S8.e H)) ∧
 (((Go.Sx.S8.f H) = (Go.Sx.S8.f H)) ∧
 (((Go.Sx.S8.g H) = (Go.Sx.S8.g H)) ∧
 ((Go.Sx.S8.h H) = (Go.Sx.S8.h H))))))))) ∧
 (((l = l) ∧
 (c = c)) ∧
 (x53 = (((Prod.fst x54) : Nat) : Int)))) ∧
 ((xs = xs) ∧
 ((((Go.Sx.S8.a H) = (Go.Sx.S8.a H)) ∧
 (((Go.Sx.S8.b H) = (Go.Sx.S8.b H)) ∧
 (((Go.Sx.S8.c H) = (Go.Sx.S8.c H)) ∧
 (((Go.Sx.S8.d H) = (Go.Sx.S8.d H)) ∧
 (((Go.Sx.S8.e H) = (Go.Sx.S8.e H)) ∧
 (((Go.Sx.S8.f H) = (Go.Sx.S8.f H)) ∧
 (((Go.Sx.S8.g H) = (Go.Sx.S8.g H)) ∧
 ((Go.Sx.S8.h H) = (Go.Sx.S8.h H))))))))) ∧
 ((List.set (Prod.snd i30) ((Int.toNat (((Prod.fst i30) : Nat) : Int)) * (1 : Nat)) x52) = (Prod.snd x54))))) ∧
 (((64 : Nat) - (Prod.fst x54)) < ((64 : Nat) - (Prod.fst i30))))))))))))))))))))))))))))))))))))))))))))))))))))))))))))))))) ∧
 (((decide ((((Prod.fst i30) : Nat) : Int) < (64 : Int))) = Bool.false) → (∀ (x56 : Int), ((x56 = (Go.Sx.S8.a H)) → (∀ (x57 : Int), ((x57 = (Go.Sx.S8.b H)) → (∀ (x58 : Int), ((x58 = (Go.Sx.S8.c H)) → (∀ (x59 : Int), ((x59 = (Go.Sx.S8.d H)) → (∀ (x60 : Int), ((x60 = (Go.Sx.S8.e H)) → (∀ (x61 : Int), ((x61 = (Go.Sx.S8.f H)) → (∀ (x62 : Int), ((x62 = (Go.Sx.S8.g H)) → (∀ (x63 : Int), ((x63 = (Go.Sx.S8.h H)) → ((∃ (i064 : Nat), ((i064 ≤ (64 : Nat)) ∧
 (((((Go.Sx.S8.a H) = (Go.Sx.S8.a H)) ∧
 (((Go.Sx.S8.b H) = (Go.Sx.S8.b H)) ∧
 (((Go.Sx.S8.c H) = (Go.Sx.S8.c H)) ∧
 (((Go.Sx.S8.d H) = (Go.Sx.S8.d H)) ∧
 (((Go.Sx.S8.e H) = (Go.Sx.S8.e H)) ∧
 (((Go.Sx.S8.f H) = (Go.Sx.S8.f H)) ∧
 (((Go.Sx.S8.g H) = (Go.Sx.S8.g H)) ∧
 ((Go.Sx.S8.h H) = (Go.Sx.S8.h H))))))))) ∧
 (((l = l) ∧
 (c = c)) ∧
 ((0 : Int) = ((i064 : Nat) : Int)))) ∧
 ((xs = xs) ∧
 ((((Go.Sx.S8.a H) = (Go.Sx.S8.a H)) ∧
 (((Go.Sx.S8.b H) = (Go.Sx.S8.b H)) ∧
 (((Go.Sx.S8.c H) = (Go.Sx.S8.c H)) ∧
 (((Go.Sx.S8.d H) = (Go.Sx.S8.d H)) ∧
 (((Go.Sx.S8.e H) = (Go.Sx.S8.e H)) ∧
 (((Go.Sx.S8.f H) = (Go.Sx.S8.f H)) ∧
 (((Go.Sx.S8.g H) = (Go.Sx.S8.g H)) ∧
 ((Go.Sx.S8.h H) = (Go.Sx.S8.h H))))))))) ∧
 (((Prod.snd i30) = (Prod.snd i30)) ∧
 (([(1116352408 : Int), (1899447441 : Int), (3049323471 : Int), (3921009573 : Int), (961987163 : Int), (1508970993 : Int), (2453635748 : Int), (2870763221 : Int), (3624381080 : Int), (310598401 : Int), (607225278 : Int), (1426881987 : Int), (1925078388 : Int), (2162078206 : Int), (2614888103 : Int), (3248222580 : Int), (3835390401 : Int), (4022224774 : Int), (264347078 : Int), (604807628 : Int), (770255983 : Int), (1249150122 : Int), (1555081692 : Int), (1996064986 : Int), (2554220882 : Int), (2821834349 : Int), (2952996808 : Int), (3210313671 : Int), (3336571891 : Int), (3584528711 : Int), (113926993 : Int), (338241895 : Int), (666307205 : Int), (773529912 : Int), (1294757372 : Int), (1396182291 : Int), (1695183700 : Int), (1986661051 : Int), (2177026350 : Int), (2456956037 : Int), (2730485921 : Int), (2820302411 : Int), (3259730800 : Int), (3345764771 : Int), (3516065817 : Int), (3600352804 : Int), (4094571909 : Int), (275423344 : Int), (430227734 : Int), (506948616 : Int), (659060556 : Int), (883997877 : Int), (958139571 : Int), (1322822218 : Int), (1537002063 : Int), (1747873779 : Int), (1955562222 : Int), (2024104815 : Int), (2227730452 : Int), (2361852424 : Int), (2428436474 : Int), (2756734187 : Int), (3204031479 : Int), (3329325298 : Int)] = Go.Sx.kL) ∧
 ((x56 = (Go.Sx.S8.a (Go.Sx.rounds H xs i064))) ∧
 ((x57 = (Go.Sx.S8.b (Go.Sx.rounds H xs i064))) ∧
 ((x58 = (Go.Sx.S8.c (Go.Sx.rounds H xs i064))) ∧
 ((x59 = (Go.Sx.S8.d (Go.Sx.rounds H xs i064))) ∧
 ((x60 = (Go.Sx.S8.e (Go.Sx.rounds H xs i064))) ∧
 ((x61 = (Go.Sx.S8.f (Go.Sx.rounds H xs i064))) ∧
 ((x62 = (Go.Sx.S8.g (Go.Sx.rounds H xs i064))) ∧
 (x63 = (Go.Sx.S8.h (Go.Sx.rounds H xs i064))))))))))))))))) ∧
 (∀ (i65 : Nat), ((i65 ≤ (64 : Nat)) → ((((decide (((i65 : Nat) : Int) < (64 : Int))) = Bool.true) → ((((0 : Int) ≤ (6 : Int)) ∧
 ((6 : Int) ≤ (32 : Int))) ∧
 (∀ (x66 : Int), ((x66 = (Go.Sx.rot (Go.Sx.S8.e (Go.Sx.rounds H xs i65)) (6 : Nat))) → ((((0 : Int) ≤ (11 : Int)) ∧
 ((11 : Int) ≤ (32 : Int))) ∧
 (∀ (x67 : Int), ((x67 = (Go.Sx.rot (Go.Sx.S8.e (Go.Sx.rounds H xs i65)) (11 : Nat))) → (∀ (x68 : Int), ((x68 = (Go.Sx.bxor Go.IntKind.u32 x66 x67)) → ((((0 : Int) ≤ (25 : Int)) ∧
 ((25 : Int) ≤ (32 : Int))) ∧
 (∀ (x69 : Int), ((x69 = (Go.Sx.rot (Go.Sx.S8.e (Go.Sx.rounds H xs i65)) (25 : Nat))) → (∀ (x70 : Int), ((x70 = (Go.Sx.bxor Go.IntKind.u32 x68 x69)) → (∀ (x71 : Int), ((x71 = (Go.IntKind.wrap Go.IntKind.u32 ((Go.Sx.S8.h (Go.Sx.rounds H xs i65)) + x70))) → (∀ (x72 : Int), ((x72 = (Go.Sx.band Go.IntKind.u32 (Go.Sx.S8.e (Go.Sx.rounds H xs i65)) (Go.Sx.S8.f (Go.Sx.rounds H xs i65)))) → (∀ (x73 : Int), ((x73 = (Go.Sx.bxor Go.IntKind.u32 (4294967295 : Int) (Go.Sx.S8.e (Go.Sx.rounds H xs i65)))) → (∀ (x74 : Int), ((x74 = (Go.Sx.band Go.IntKind.u32 x73 (Go.Sx.S8.g (Go.Sx.rounds H xs i65)))) → (∀ (x75 : Int), ((x75 = (Go.Sx.bxor Go.IntKind.u32 x72 x74)) → (∀ (x76 : Int), ((x76 = (Go.IntKind.wrap Go.IntKind.u32 (x71 + x75))) → ((((0 : Int) ≤ ((i65 : Nat) : Int)) ∧
 (((i65 : Nat) : Int) < (64 : Int))) ∧
 (((((Int.toNat ((i65 : Nat) : Int)) * (1 : Nat)) + (1 : Nat)) ≤ (64 : Nat)) ∧
 (∀ (x77 : Int), ((x77 = (List.getD Go.Sx.kL ((Int.toNat ((i65 : Nat) : Int)) * (1 : Nat)) (0 : Int))) → (∀ (x78 : Int), ((x78 = (Go.IntKind.wrap Go.IntKind.u32 (x76 + x77))) → ((((0 : Int) ≤ ((i65 : Nat) : Int)) ∧
 (((i65 : Nat) : Int) < (64 : Int))) ∧
 (((((Int.toNat ((i65 : Nat) : Int)) * (1 : Nat)) + (1 : Nat)) ≤ (List.length (Prod.snd i30))) ∧
 (∀ (x79 : Int), ((x79 = (List.getD (Prod.snd i30) ((Int.toNat ((i65 : Nat) : Int)) * (1 : Nat)) (0 : Int))) → (∀ (x80 : Int), ((x80 = (Go.IntKind.wrap Go.IntKind.u32 (x78 + x79))) → ((((0 : Int) ≤ (2 : Int)) ∧
 ((2 : Int) ≤ (32 : Int))) ∧
 (∀ (x81 : Int), ((x81 = (Go.Sx.rot (Go.Sx.S8.a (Go.Sx.rounds H xs i65)) (2 : Nat))) → ((((0 : Int) ≤ (13 : Int)) ∧
 ((13 : Int) ≤ (32 : Int))) ∧
 (∀ (x82 : Int), ((x82 = (Go.Sx.rot (Go.Sx.S8.a (Go.Sx.rounds H xs i65)) (13 : Nat))) → (∀ (x83 : Int), ((x83 = (Go.Sx.bxor Go.IntKind.u32 x81 x82)) → ((((0 : Int) ≤ (22 : Int)) ∧
 ((22 : Int) ≤ (32 : Int))) ∧
 (∀ (x84 : Int), ((x84 = (Go.Sx.rot (Go.Sx.S8.a (Go.Sx.rounds H xs i65)) (22 : Nat))) → (∀ (x85 : Int), ((x85 = (Go.Sx.bxor Go.IntKind.u32 x83 x84)) → (∀ (x86 : Int), ((x86 = (Go.Sx.band Go.IntKind.u32 (Go.Sx.S8.a (Go.Sx.rounds H xs i65)) (Go.Sx.S8.b (Go.Sx.rounds H xs i65)))) → (∀ (x87 : Int), ((x87 = (Go.Sx.band Go.IntKind.u32 (Go.Sx.S8.a (Go.Sx.rounds H xs i65)) (Go.Sx.S8.c (Go.Sx.rounds H xs i65)))) → (∀ (x88 : Int), ((x88 = (Go.Sx.bxor Go.IntKind.u32 x86 x87)) → (∀ (x89 : Int), ((x89 = (Go.Sx.band Go.IntKind.u32 (Go.Sx.S8.b (Go.Sx.rounds H xs i65)) (Go.Sx.S8.c (Go.Sx.rounds H xs i65)))) → (∀ (x90 : Int), ((x90 = (Go.Sx.bxor Go.IntKind.u32 x88 x89)) → (∀ (x91 : Int), ((x91 = (Go.IntKind.wrap Go.IntKind.u32 (x85 + x90))) → (∀ (x92 : Int), ((x92 = (Go.IntKind.wrap Go.IntKind.u32 (x80 + x91))) → (∀ (x93 : Int), ((x93 = (Go.IntKind.wrap Go.IntKind.u32 ((Go.Sx.S8.d (Go.Sx.rounds H xs i65)) + x80))) → (∀ (x94 : Int), ((x94 = (Go.IntKind.wrap Go.IntKind.i64 (((i65 : Nat) : Int) + (1 : Int)))) → (∃ (x95 : Nat), ((x95 ≤ (64 : Nat)) ∧
 ((((((Go.Sx.S8.a H) = (Go.Sx.S8.a H)) ∧
 (((Go.Sx.S8.b H) = (Go.Sx.S8.b H)) ∧
 (((Go.Sx.S8.c H) = (Go.Sx.S8.c H)) ∧
 (((Go.Sx.S8.d H) = (Go.Sx.S8.d H)) ∧
 (((Go.Sx.S8.e H) = (Go.Sx.S8.e H)) ∧
 (((Go.Sx.S8.f H) = (Go.Sx.S8.f H)) ∧
 (((Go.Sx.S8.g H) = (Go.Sx.S8.g H)) ∧
 ((Go.Sx.S8.h H) = (Go.Sx.S8.h H))))))))) ∧
 (((l = l) ∧
 (c = c)) ∧
 (x94 = ((x95 : Nat) : Int)))) ∧
 ((xs = xs) ∧
 ((((Go.Sx.S8.a H) = (Go.Sx.S8.a H)) ∧
 (((Go.Sx.S8.b H) = (Go.Sx.S8.b H)) ∧
 (((Go.Sx.S8.c H) = (Go.Sx.S8.c H)) ∧
 (((Go.Sx.S8.d H) = (Go.Sx.S8.d H)) ∧
 (((Go.Sx.S8.e H) = (Go.Sx.S8.e H)) ∧
 (((Go.Sx.S8.f H) = (Go.Sx.S8.f H)) ∧
 (((Go.Sx.S8.g H) = (Go.Sx.S8.g H)) ∧
 ((Go.Sx.S8.h H) = (Go.Sx.S8.h H))))))))) ∧
 (((Prod.snd i30) = (Prod.snd i30)) ∧
 ((Go.Sx.kL = Go.Sx.kL) ∧
 ((x92 = (Go.Sx.S8.a (Go.Sx.rounds H xs x95))) ∧
 (((Go.Sx.S8.a (Go.Sx.rounds H xs i65)) = (Go.Sx.S8.b (Go.Sx.rounds H xs x95))) ∧
 (((Go.Sx.S8.b (Go.Sx.rounds H xs i65)) = (Go.Sx.S8.c (Go.Sx.rounds H xs x95))) ∧
 (((Go.Sx.S8.c (Go.Sx.rounds H xs i65)) = (Go.Sx.S8.d (Go.Sx.rounds H xs x95))) ∧
 ((x93 = (Go.Sx.S8.e (Go.Sx.rounds H xs x95))) ∧
 (((Go.Sx.S8.e (Go.Sx.rounds H xs i65)) = (Go.Sx.S8.f (Go.Sx.rounds H xs x95))) ∧
 (((Go.Sx.S8.f (Go.Sx.rounds H xs i65)) = (Go.Sx.S8.g (Go.Sx.rounds H xs x95))) ∧
 ((Go.Sx.S8.g (Go.Sx.rounds H xs i65)) = (Go.Sx.S8.h (Go.Sx.rounds H xs x95))))))))))))))) ∧
 (((64 : Nat) - x95) < ((64 : Nat) - i65)))))))))))))))))))))))))))))))))))))))))))))))))))))))))))))))))))))))))) ∧
 (((decide (((i65 : Nat) : Int) < (64 : Int))) = Bool.false) → (∀ (x96 : Int), ((x96 = (Go.IntKind.wrap Go.IntKind.u32 ((Go.Sx.S8.a H) + (Go.Sx.S8.a (Go.Sx.rounds H xs i65))))) → (∀ (x97 : Int), ((x97 = (Go.IntKind.wrap Go.IntKind.u32 ((Go.Sx.S8.b H) + (Go.Sx.S8.b (Go.Sx.rounds H xs i65))))) → (∀ (x98 : Int), ((x98 = (Go.IntKind.wrap Go.IntKind.u32 ((Go.Sx.S8.c H) + (Go.Sx.S8.c (Go.Sx.rounds H xs i65))))) → (∀ (x99 : Int), ((x99 = (Go.IntKind.wrap Go.IntKind.u32 ((Go.Sx.S8.d H) + (Go.Sx.S8.d (Go.Sx.rounds H xs i65))))) → (∀ (x100 : Int), ((x100 = (Go.IntKind.wrap Go.IntKind.u32 ((Go.Sx.S8.e H) + (Go.Sx.S8.e (Go.Sx.rounds H xs i65))))) → (∀ (x101 : Int), ((x101 = (Go.IntKind.wrap Go.IntKind.u32 ((Go.Sx.S8.f H) + (Go.Sx.S8.f (Go.Sx.rounds H xs i65))))) → (∀ (x102 : Int), ((x102 = (Go.IntKind.wrap Go.IntKind.u32 ((Go.Sx.S8.g H) + (Go.Sx.S8.g (Go.Sx.rounds H xs i65))))) → (∀ (x103 : Int), ((x103 = (Go.IntKind.wrap Go.IntKind.u32 ((Go.Sx.S8.h H) + (Go.Sx.S8.h (Go.Sx.rounds H xs i65))))) → (∀ (x104 : Int), ((x104 = x96) → (∀ (x105 : Int), ((x105 = x97) → (∀ (x106 : Int), ((x106 = x98) → (∀ (x107 : Int), ((x107 = x99) → (∀ (x108 : Int), ((x108 = x100) → (∀ (x109 : Int), ((x109 = x101) → (∀ (x110 : Int), ((x110 = x102) → (∀ (x111 : Int), ((x111 = x103) → (K (Go.Sx.SV.agg [(Go.Sx.SV.int Go.IntKind.u32 (Go.Sx.A.sym x104)), (Go.Sx.SV.int Go.IntKind.u32 (Go.Sx.A.sym x105)), (Go.Sx.SV.int Go.IntKind.u32 (Go.Sx.A.sym x106)), (Go.Sx.SV.int Go.IntKind.u32 (Go.Sx.A.sym x107)), (Go.Sx.SV.int Go.IntKind.u32 (Go.Sx.A.sym x108)), (Go.Sx.SV.int Go.IntKind.u32 (Go.Sx.A.sym x109)), (Go.Sx.SV.int Go.IntKind.u32 (Go.Sx.A.sym x110)), (Go.Sx.SV.int Go.IntKind.u32 (Go.Sx.A.sym x111))]) (Go.Sx.memL [((1 : Nat), (Go.Sx.Reg.mk Bool.true (Go.Sx.Ct.ints Go.IntKind.u8 xs))), ((513 : Nat), (Go.Sx.Reg.mk Bool.false (Go.Sx.Ct.cells [(Go.Sx.SV.int Go.IntKind.u32 (Go.Sx.A.sym x96)), (Go.Sx.SV.int Go.IntKind.u32 (Go.Sx.A.sym x97)), (Go.Sx.SV.int Go.IntKind.u32 (Go.Sx.A.sym x98)), (Go.Sx.SV.int Go.IntKind.u32 (Go.Sx.A.sym x99)), (Go.Sx.SV.int Go.IntKind.u32 (Go.Sx.A.sym x100)), (Go.Sx.SV.int Go.IntKind.u32 (Go.Sx.A.sym x101)), (Go.Sx.SV.int Go.IntKind.u32 (Go.Sx.A.sym x102)), (Go.Sx.SV.int Go.IntKind.u32 (Go.Sx.A.sym x103))]))), ((521 : Nat), (Go.Sx.Reg.mk Bool.false (Go.Sx.Ct.cells [(Go.Sx.SV.int Go.IntKind.u32 (Go.Sx.A.sym x104)), (Go.Sx.SV.int Go.IntKind.u32 (Go.Sx.A.sym x105)), (Go.Sx.SV.int Go.IntKind.u32 (Go.Sx.A.sym x106)), (Go.Sx.SV.int Go.IntKind.u32 (Go.Sx.A.sym x107)), (Go.Sx.SV.int Go.IntKind.u32 (Go.Sx.A.sym x108)), (Go.Sx.SV.int Go.IntKind.u32 (Go.Sx.A.sym x109)), (Go.Sx.SV.int Go.IntKind.u32 (Go.Sx.A.sym x110)), (Go.Sx.SV.int Go.IntKind.u32 (Go.Sx.A.sym x111))]))), ((537 : Nat), (Go.Sx.Reg.mk Bool.false (Go.Sx.Ct.ints Go.IntKind.u32 (Prod.snd i30)))), ((617 : Nat), (Go.Sx.Reg.mk Bool.false (Go.Sx.Ct.ints Go.IntKind.u32 Go.Sx.kL))), ((625 : Nat), (Go.Sx.Reg.mk Bool.false (Go.Sx.Ct.cells [(Go.Sx.SV.int Go.IntKind.u32 (Go.Sx.A.sym (Go.Sx.S8.a (Go.Sx.rounds H xs i65)))), (Go.Sx.SV.int Go.IntKind.u32 (Go.Sx.A.sym (Go.Sx.S8.b (Go.Sx.rounds H xs i65)))), (Go.Sx.SV.int Go.IntKind.u32 (Go.Sx.A.sym (Go.Sx.S8.c (Go.Sx.rounds H xs i65)))), (Go.Sx.SV.int Go.IntKind.u32 (Go.Sx.A.sym (Go.Sx.S8.d (Go.Sx.rounds H xs i65)))), (Go.Sx.SV.int Go.IntKind.u32 (Go.Sx.A.sym (Go.Sx.S8.e (Go.Sx.rounds H xs i65)))), (Go.Sx.SV.int Go.IntKind.u32 (Go.Sx.A.sym (Go.Sx.S8.f (Go.Sx.rounds H xs i65)))), (Go.Sx.SV.int Go.IntKind.u32 (Go.Sx.A.sym (Go.Sx.S8.g (Go.Sx.rounds H xs i65)))), (Go.Sx.SV.int Go.IntKind.u32 (Go.Sx.A.sym (Go.Sx.S8.h (Go.Sx.rounds H xs i65))))])))])))))))))))))))))))))))))))))))))))))))))))))))))))))))))))))))))) := by kernel_rfl
end Go.Sx

/- spec.block: what it computes. -/
namespace Go.Sx
open Go Go.Proofs
set_option maxRecDepth 100000
set_option maxHeartbeats 4000000
theorem sb_walk (H : S8) (xs : List Int) (l c : Nat) (K : SV → Mem → Prop) (hl : 64 ≤ l) (hx : 64 ≤ xs.length) (hb : Bytes xs) (hup : KUp K)
    (hK : ∀ H', H' = comp H xs → K (.agg [i32 H'.a, i32 H'.b, i32 H'.c, i32 H'.d, i32 H'.e, i32 H'.f, i32 H'.g, i32 H'.h]) (memL [(1, ⟨true, .ints .u8 xs⟩)])) :
    execF cxSB (uSB H xs) Tryd.f33 64 [.agg [i32 H.a, i32 H.b, i32 H.c, i32 H.d, i32 H.e, i32 H.f, i32 H.g, i32 H.h], .slice 1 (.lit 0) (.sym l) (.sym c)] (memL [(1, ⟨true, .ints .u8 xs⟩)]) K := by
  rw [vc_sb]
  have tail : ∀ (w : List Int) (i : Nat) v, w.length = 64 → (∀ j, j < i → w.getD j 0 = W xs j) → v = W xs i → i < 64 → (∀ j, j < i + 1 → (w.set i v).getD j 0 = W xs j) := by
    intro w i v hw h hv hi j hj
    by_cases hji : j = i
    · rw [hji, getD_set_self (by omega), hv]
    · rw [getD_set_ne (by omega)]; exact h j (by omega)
  have hby := bytes_at hb
  refine ⟨⟨(0, List.replicate 64 0), ⟨by simp, by simp, by simp⟩, ?_⟩, ?_⟩
  · repeat' apply And.intro
    all_goals first | trivial | rfl | simp
  rintro ⟨i, w⟩ ⟨h1, h2, h3⟩
  simp only at h1 h2 h3
  simp only [Int.toNat_natCast, Nat.mul_one]
  refine ⟨fun hi => ?_, fun hi => ?_⟩
  · simp only [decide_eq_true_eq] at hi
    rintro x4 hx4
    rw [wrap64 (by omega) (by omega)] at hx4
    refine ⟨by omega, by omega, ?_⟩
    rintro x5 rfl x6 rfl x7 rfl x8 rfl x9 hx9
    rw [wrap64 (x := 4 * (i : Int)) (by omega) (by omega), wrap64 (by omega) (by omega)] at hx9
    refine ⟨by omega, by omega, ?_⟩
    rintro x10 rfl x11 rfl x12 rfl x13 rfl x14 rfl x15 hx15
    rw [wrap64 (x := 4 * (i : Int)) (by omega) (by omega), wrap64 (by omega) (by omega)] at hx15
    refine ⟨by omega, by omega, ?_⟩
    rintro x16 rfl x17 rfl x18 rfl x19 rfl x20 rfl x21 hx21
    rw [wrap64 (x := 4 * (i : Int)) (by omega) (by omega), wrap64 (by omega) (by omega)] at hx21
    refine ⟨by omega, by omega, ?_⟩
    rintro x22 rfl x23 rfl x24 hx24
    have hv : x24 = W xs i := by
      have e0 : xs.getD x4.toNat 0 = at0 xs (4 * i) := by unfold at0; congr 1; omega
      have e1 : xs.getD x9.toNat 0 = at0 xs (4 * i + 1) := by unfold at0; congr 1; omega
      have e2 : xs.getD x15.toNat 0 = at0 xs (4 * i + 2) := by unfold at0; congr 1; omega
      have e3 : xs.getD x21.toNat 0 = at0 xs (4 * i + 3) := by unfold at0; congr 1; omega
      rw [hx24, e0, e1, e2, e3]
      have w := fun n => w32_byte (hby n)
      unfold w32 at w
      rw [w, w, w, w, W_lo _ (by omega)]
      exact be_add (hby _) (hby _) (hby _) (hby _)
    clear hx24
    refine ⟨by omega, by omega, ?_⟩
    rintro x25 hx25
    rw [wrap64 (by omega) (by omega)] at hx25
    refine ⟨(i + 1, w.set i x24), ⟨by simp only; omega, by simp only [List.length_set]; exact h2, tail w i x24 h2 h3 hv (by omega)⟩, ?_, by simp only; omega⟩
    repeat' apply And.intro
    all_goals first | trivial | rfl | omega | (simp only; omega)
  simp only [decide_eq_false_iff_not] at hi
  obtain rfl : i = 16 := by omega
  refine ⟨⟨(16, w), ⟨by simp, by simp, h2, h3⟩, ?_⟩, ?_⟩
  · repeat' apply And.intro
    all_goals first | trivial | rfl | simp
  clear hi h1 h2 h3 w
  rintro ⟨i, w⟩ ⟨h0, h1, h2, h3⟩
  simp only at h0 h1 h2 h3
  simp only [Int.toNat_natCast]
  refine ⟨fun hi => ?_, fun hi => ?_⟩
  · simp only [decide_eq_true_eq] at hi
    rintro x32 hx32
    rw [wrap64 (by omega) (by omega)] at hx32
    refine ⟨by omega, by omega, ?_⟩
    rintro x33 rfl x34 hx34
    rw [wrap64 (by omega) (by omega)] at hx34
    refine ⟨by omega, by omega, ?_⟩
    rintro x35 rfl x36 hx36
    rw [wrap64 (by omega) (by omega)] at hx36
    refine ⟨by omega, by omega, ?_⟩
    rintro x37 rfl x38 hx38
    rw [wrap64 (by omega) (by omega)] at hx38
    refine ⟨by omega, by omega, ?_⟩
    rintro x39 rfl x40 rfl
    refine ⟨by omega, ?_⟩
    rintro x41 rfl
    refine ⟨by omega, ?_⟩
    rintro x42 rfl x43 rfl x44 rfl x45 rfl x46 rfl
    refine ⟨by omega, ?_⟩
    rintro x47 rfl
    refine ⟨by omega, ?_⟩
    rintro x48 rfl x49 rfl x50 rfl x51 rfl x52 hx52
    have hv : x52 = W xs i := by
      have e1 : w.getD x32.toNat 0 = W xs (i - 15) := by rw [← h3 (i - 15) (by omega)]; congr 1; omega
      have e2 : w.getD x34.toNat 0 = W xs (i - 2) := by rw [← h3 (i - 2) (by omega)]; congr 1; omega
      have e3 : w.getD x36.toNat 0 = W xs (i - 16) := by rw [← h3 (i - 16) (by omega)]; congr 1; omega
      have e4 : w.getD x38.toNat 0 = W xs (i - 7) := by rw [← h3 (i - 7) (by omega)]; congr 1; omega
      rw [hx52, e1, e2, e3, e4, W_hi (t := i) _ (by omega)]
      exact w32_sum2 _ _ _ _
    clear hx52
    refine ⟨by omega, by omega, ?_⟩
    rintro x53 hx53
    rw [wrap64 (by omega) (by omega)] at hx53
    refine ⟨(i + 1, w.set i x52), ⟨by simp only; omega, by simp only; omega, by simp only [List.length_set]; exact h2, tail w i x52 h2 h3 hv (by omega)⟩, ?_, by simp only; omega⟩
    repeat' apply And.intro
    all_goals first | trivial | rfl | omega | (simp only; omega)
  simp only [decide_eq_false_iff_not] at hi
  obtain rfl : i = 64 := by omega
  clear hi h0 h1
  rintro x56 rfl x57 rfl x58 rfl x59 rfl x60 rfl x61 rfl x62 rfl x63 rfl
  refine ⟨⟨(0 : Nat), ⟨by omega, ?_⟩⟩, ?_⟩
  · repeat' apply And.intro
    all_goals first | trivial | rfl
  intro (i : Nat) (hi64 : i ≤ 64)
  refine ⟨fun hi => ?_, fun hi => ?_⟩
  · simp only [decide_eq_true_eq] at hi
    refine ⟨by omega, ?_⟩
    rintro x66 rfl
    refine ⟨by omega, ?_⟩
    rintro x67 rfl x68 rfl
    refine ⟨by omega, ?_⟩
    rintro x69 rfl x70 rfl x71 rfl x72 rfl x73 rfl x74 rfl x75 rfl x76 rfl
    refine ⟨by omega, by omega, ?_⟩
    rintro x77 rfl x78 rfl
    refine ⟨by omega, by omega, ?_⟩
    rintro x79 rfl x80 hx80
    rw [h3 i (by omega)] at hx80
    have hx80' : x80 = tOf (rounds H xs i) (at0 kL i) (W xs i) := hx80
    clear hx80
    refine ⟨by omega, ?_⟩
    rintro x81 rfl
    refine ⟨by omega, ?_⟩
    rintro x82 rfl x83 rfl
    refine ⟨by omega, ?_⟩
    rintro x84 rfl x85 rfl x86 rfl x87 rfl x88 rfl x89 rfl x90 rfl x91 rfl x92 hx92 x93 hx93 x94 hx94
    rw [wrap64 (by omega) (by omega)] at hx94
    subst hx80'
    refine ⟨(i + 1 : Nat), by omega, ?_, by omega⟩
    repeat' apply And.intro
    all_goals first | trivial | rfl | exact hx92 | exact hx93 | omega
  simp only [decide_eq_false_iff_not] at hi
  obtain rfl : i = 64 := by omega
  rintro x96 rfl x97 rfl x98 rfl x99 rfl x100 rfl x101 rfl x102 rfl x103 rfl x104 rfl x105 rfl x106 rfl x107 rfl x108 rfl x109 rfl x110 rfl x111 rfl
  exact hup.le (memL_more (k := [_, _, _, _, _]) (l := [_]) [1, 513, 521, 537, 617, 625] rfl (by decide)) (hK _ rfl)
end Go.Sx

/- The contract of spec.block. -/
namespace Go.Sx
open Go Go.Proofs
set_option maxRecDepth 100000
def gSB : G0 := fun args l K =>
  match args, l with
  | [.agg [.int .u32 (.sym h0), .int .u32 (.sym h1), .int .u32 (.sym h2), .int .u32 (.sym h3), .int .u32 (.sym h4), .int .u32 (.sym h5), .int .u32 (.sym h6), .int .u32 (.sym h7)], .slice 1 (.lit 0) (.sym n) (.sym _)], [(1, ⟨true, .ints .u8 xs⟩)] =>
    (64 ≤ n ∧ 64 ≤ xs.length ∧ Bytes xs) ∧ ∀ H, H = comp ⟨h0, h1, h2, h3, h4, h5, h6, h7⟩ xs → K (.agg [i32 H.a, i32 H.b, i32 H.c, i32 H.d, i32 H.e, i32 H.f, i32 H.g, i32 H.h]) (memL [(1, ⟨true, .ints .u8 xs⟩)])
  | _, _ => False
theorem sb_good : Good gSB := by
  constructor
  · intro args l K K' hk h
    unfold gSB at h ⊢
    split at h
    · exact ⟨h.1, fun H hH => hk _ _ (h.2 H hH)⟩
    · exact h.elim
  · intro args l K h
    unfold gSB at h
    split at h
    · exact ⟨_, _, h.2 _ rfl⟩
    · exact h.elim
theorem sb_ok (args : List SV) (l : List (Nat × Reg)) (K : SV → Mem → Prop) (hup : KUp K) (h : gSB args l K) : ∃ U, execF cxSB U Tryd.f33 64 args (memL l) K := by
  unfold gSB at h
  split at h
  · rename_i h0 h1 h2 h3 h4 h5 h6 h7 n c xs
    exact ⟨uSB ⟨h0, h1, h2, h3, h4, h5, h6, h7⟩ xs, sb_walk ⟨h0, h1, h2, h3, h4, h5, h6, h7⟩ xs n c K h.1.1 h.1.2.1 h.1.2.2 hup h.2⟩
  · exact h.elim
def cSB : Ef Tryd.prog := mkE mixed 33 Tryd.func33 (by decide) (by kernel_rfl) [] [.num, .sl 1 true] gSB sb_good sb_ok
end Go.Sx

/- The loops of spec.Sum. -/
namespace Go.Sx
open Go Go.Proofs
def cxSS : Cx Tryd.prog := { rds := [], efs := [cSB], eqs := [] }
def liSS0 (xs : List Int) (l : Nat) : LI where
  ι := Nat × List Int × Nat
  keep := [0]
  keepR := [1]
  F := fun i => ⟨[(3, .slice 569 (.lit 0) (.sym (l + 1 + i.1)) (.sym i.2.2))], [(569, ⟨false, .ints .u8 i.2.1⟩)]⟩
  I := fun _ i => Rw i.2.1 (xs ++ 128 :: List.replicate i.1 0) (l + 1 + i.1) i.2.2 ∧ i.1 + 1 ≤ padN l
  μ := fun i => padN l - i.1
  k := 1
def liSS4 (m : List Int) : LI where
  ι := Nat
  keep := [0, 3, 6]
  keepR := [1, 1513]
  F := fun i => ⟨[(7, i64n (64 * i))], [(1577, ⟨false, s8C (hB S0 m i)⟩)]⟩
  I := fun _ i => 64 * i ≤ m.length
  μ := fun i => m.length - 64 * i
def uSS (xs : List Int) (l : Nat) : Nat → Lp := fun n =>
  match n with
  | 0 => .inv (liSS0 xs l)
  | 4 => .inv (liSS4 (xs ++ padding xs.length))
  | _ => .un 9
end Go.Sx

/- spec.Sum: its condition. -/
namespace Go.Sx
open Go Go.Proofs
set_option maxRecDepth 100000
theorem vc_ss (xs : List Int) (l c : Nat) (K : SV → Mem → Prop) : (execF cxSS (uSS xs l) Tryd.f15 64 [.slice 1 (.lit 0) (.sym l) (.sym c)] (memL [(1, ⟨true, .ints .u8 xs⟩)]) K) =
  ((((((0 : Nat) ≤ (0 : Nat)) ∧
 ((0 : Nat) ≤ (0 : Nat))) ∧
 ((Nat.le ((0 : Nat) + (l * (1 : Nat))) (List.length xs)) ∧
 (((((0 : Nat) + l) * (1 : Nat)) ≤ (549755813888 : Nat)) ∧
 (((0 : Nat) + l) ≤ (549755813888 : Nat))))) ∧
 (∀ (cap0 : Nat), (∀ (ys1 : (List Int)), (((((0 : Nat) + l) ≤ cap0) ∧
 (((List.length ys1) = (cap0 * (1 : Nat))) ∧
 ((List.take (((0 : Nat) + l) * (1 : Nat)) ys1) = ((List.take (0 : Nat) (List.drop (0 : Nat) [])) ++ (List.take (l * (1 : Nat)) (List.drop (0 : Nat) xs)))))) → ((((l ≤ cap0) ∧
 (((0 : Nat) + (cap0 * (1 : Nat))) ≤ (List.length ys1))) ∧
 ((Nat.le (1 : Nat) (1 : Nat)) ∧
 ((((l + (1 : Nat)) * (1 : Nat)) ≤ (549755813888 : Nat)) ∧
 ((l + (1 : Nat)) ≤ (549755813888 : Nat))))) ∧
 (∀ (cap2 : Nat), (∀ (ys3 : (List Int)), ((((l + (1 : Nat)) ≤ cap2) ∧
 (((List.length ys3) = (cap2 * (1 : Nat))) ∧
 ((List.take ((l + (1 : Nat)) * (1 : Nat)) ys3) = ((List.take (l * (1 : Nat)) (List.drop (0 : Nat) ys1)) ++ (List.take (1 : Nat) (List.drop (0 : Nat) [(128 : Int)])))))) → ((∃ (i04 : (Prod Nat (Prod (List Int) Nat))), (((Go.Sx.Rw (Prod.fst (Prod.snd i04)) (xs ++ (List.cons (128 : Int) (List.replicate (Prod.fst i04) (0 : Int)))) ((l + (1 : Nat)) + (Prod.fst i04)) (Prod.snd (Prod.snd i04))) ∧
 (((Prod.fst i04) + (1 : Nat)) ≤ (Go.Sx.padN l))) ∧
 ((((l = l) ∧
 (c = c)) ∧
 (((l + (1 : Nat)) = ((l + (1 : Nat)) + (Prod.fst i04))) ∧
 (cap2 = (Prod.snd (Prod.snd i04))))) ∧
 ((xs = xs) ∧
 (ys3 = (Prod.fst (Prod.snd i04))))))) ∧
 (∀ (i5 : (Prod Nat (Prod (List Int) Nat))), (((Go.Sx.Rw (Prod.fst (Prod.snd i5)) (xs ++ (List.cons (128 : Int) (List.replicate (Prod.fst i5) (0 : Int)))) ((l + (1 : Nat)) + (Prod.fst i5)) (Prod.snd (Prod.snd i5))) ∧
 (((Prod.fst i5) + (1 : Nat)) ≤ (Go.Sx.padN l))) → (∀ (x6 : Int), ((x6 = ((((l + (1 : Nat)) + (Prod.fst i5)) : Nat) : Int)) → (∀ (x7 : Int), ((x7 = (Int.tmod x6 (64 : Int))) → ((((x7 != (56 : Int)) = Bool.true) → ((((((l + (1 : Nat)) + (Prod.fst i5)) ≤ (Prod.snd (Prod.snd i5))) ∧
 (((0 : Nat) + ((Prod.snd (Prod.snd i5)) * (1 : Nat))) ≤ (List.length (Prod.fst (Prod.snd i5))))) ∧
 ((Nat.le (1 : Nat) (1 : Nat)) ∧
 ((((((l + (1 : Nat)) + (Prod.fst i5)) + (1 : Nat)) * (1 : Nat)) ≤ (549755813888 : Nat)) ∧
 ((((l + (1 : Nat)) + (Prod.fst i5)) + (1 : Nat)) ≤ (549755813888 : Nat))))) ∧
 (∀ (cap8 : Nat), (∀ (ys9 : (List Int)), ((((((l + (1 : Nat)) + (Prod.fst i5)) + (1 : Nat)) ≤ cap8) ∧
 (((List.length ys9) = (cap8 * (1 : Nat))) ∧
 ((List.take ((((l + (1 : Nat)) + (Prod.fst i5)) + (1 : Nat)) * (1 : Nat)) ys9) = ((List.take (((l + (1 : Nat)) + (Prod.fst i5)) * (1 : Nat)) (List.drop (0 : Nat) (Prod.fst (Prod.snd i5)))) ++ (List.take (1 : Nat) (List.drop (0 : Nat) [(0 : Int)])))))) → (∃ (x10 : (Prod Nat (Prod (List Int) Nat))), (((Go.Sx.Rw (Prod.fst (Prod.snd x10)) (xs ++ (List.cons (128 : Int) (List.replicate (Prod.fst x10) (0 : Int)))) ((l + (1 : Nat)) + (Prod.fst x10)) (Prod.snd (Prod.snd x10))) ∧
 (((Prod.fst x10) + (1 : Nat)) ≤ (Go.Sx.padN l))) ∧
 (((((l = l) ∧
 (c = c)) ∧
 (((((l + (1 : Nat)) + (Prod.fst i5)) + (1 : Nat)) = ((l + (1 : Nat)) + (Prod.fst x10))) ∧
 (cap8 = (Prod.snd (Prod.snd x10))))) ∧
 ((xs = xs) ∧
 (ys9 = (Prod.fst (Prod.snd x10))))) ∧
 (((Go.Sx.padN l) - (Prod.fst x10)) < ((Go.Sx.padN l) - (Prod.fst i5))))))))))) ∧
 (((x7 != (56 : Int)) = Bool.false) → (∀ (x11 : Int), ((x11 = ((l : Nat) : Int)) → (∀ (x12 : Int), ((x12 = (Go.IntKind.wrap Go.IntKind.u64 x11)) → (∀ (x13 : Int), ((x13 = (Go.IntKind.wrap Go.IntKind.u64 (x12 * (8 : Int)))) → (∀ (x14 : Int), ((x14 = (Go.Sx.shrv Go.IntKind.u64 x13 (56 : Nat))) → (∀ (x15 : Int), ((x15 = (Go.IntKind.wrap Go.IntKind.u8 x14)) → ((((((l + (1 : Nat)) + (Prod.fst i5)) ≤ (Prod.snd (Prod.snd i5))) ∧
 (((0 : Nat) + ((Prod.snd (Prod.snd i5)) * (1 : Nat))) ≤ (List.length (Prod.fst (Prod.snd i5))))) ∧
 ((Nat.le (1 : Nat) (List.length [x15])) ∧
 ((((((l + (1 : Nat)) + (Prod.fst i5)) + (1 : Nat)) * (1 : Nat)) ≤ (549755813888 : Nat)) ∧
 ((((l + (1 : Nat)) + (Prod.fst i5)) + (1 : Nat)) ≤ (549755813888 : Nat))))) ∧
 (∀ (cap16 : Nat), (∀ (ys17 : (List Int)), ((((((l + (1 : Nat)) + (Prod.fst i5)) + (1 : Nat)) ≤ cap16) ∧
 (((List.length ys17) = (cap16 * (1 : Nat))) ∧
 ((List.take ((((l + (1 : Nat)) + (Prod.fst i5)) + (1 : Nat)) * (1 : Nat)) ys17) = ((List.take (((l + (1 : Nat)) + (Prod.fst i5)) * (1 : Nat)) (List.drop (0 : Nat) (Prod.fst (Prod.snd i5)))) ++ (List.take (1 : Nat) (List.drop (0 : Nat) [x15])))))) → (∀ (x18 : Int), ((x18 = (Go.Sx.shrv Go.IntKind.u64 x13 (48 : Nat))) → (∀ (x19 : Int), ((x19 = (Go.IntKind.wrap Go.IntKind.u8 x18)) → (((((((l + (1 : Nat)) + (Prod.fst i5)) + (1 : Nat)) ≤ cap16) ∧
 (((0 : Nat) + (cap16 * (1 : Nat))) ≤ (List.length ys17))) ∧
 ((Nat.le (1 : Nat) (List.length [x19])) ∧
 (((((((l + (1 : Nat)) + (Prod.fst i5)) + (1 : Nat)) + (1 : Nat)) * (1 : Nat)) ≤ (549755813888 : Nat)) ∧
 (((((l + (1 : Nat)) + (Prod.fst i5)) + (1 : Nat)) + (1 : Nat)) ≤ (549755813888 : Nat))))) ∧
 (∀ (cap20 : Nat), (∀ (ys21 : (List Int)), (((((((l + (1 : Nat)) + (Prod.fst i5)) + (1 : Nat)) + (1 : Nat)) ≤ cap20) ∧
 (((List.length ys21) = (cap20 * (1 : Nat))) ∧
 ((List.take (((((l + (1 : Nat)) + (Prod.fst i5)) + (1 : Nat)) + (1 : Nat)) * (1 : Nat)) ys21) = ((List.take ((((l + (1 : Nat)) + (Prod.fst i5)) + (1 : Nat)) * (1 : Nat)) (List.drop (0 : Nat) ys17)) ++ (List.take (1 : Nat) (List.drop (0 : Nat) [x19])))))) → (∀ (x22 : Int), ((x22 = (Go.Sx.shrv Go.IntKind.u64 x13 (40 : Nat))) → (∀ (x23 : Int), ((x23 = (Go.IntKind.wrap Go.IntKind.u8 x22)) → ((((((((l + (1 : Nat)) + (Prod.fst i5)) + (1 : Nat)) + (1 : Nat)) ≤ cap20) ∧
 (((0 : Nat) + (cap20 * (1 : Nat))) ≤ (List.length ys21))) ∧
 ((Nat.le (1 : Nat) (List.length [x23])) ∧
 ((((((((l + (1 : Nat)) + (Prod.fst i5)) + (1 : Nat)) + (1 : Nat)) + (1 : Nat)) * (1 : Nat)) ≤ (549755813888 : Nat)) ∧
 ((((((l + (1 : Nat)) + (Prod.fst i5)) + (1 : Nat)) + (1 : Nat)) + (1 : Nat)) ≤ (549755813888 : Nat))))) ∧
 (∀ (cap24 : Nat), (∀ (ys25 : (List Int)), ((((((((l + (1 : Nat)) + (Prod.fst i5)) + (1 : Nat)) + (1 : Nat)) + (1 : Nat)) ≤ cap24) ∧
 (((List.length ys25) = (cap24 * (1 : Nat))) ∧
 ((List.take ((((((l + (1 : Nat)) + (Prod.fst i5)) + (1 : Nat)) + (1 : Nat)) + (1 : Nat)) * (1 : Nat)) ys25) = ((List.take (((((l + (1 : Nat)) + (Prod.fst i5)) + (1 : Nat)) + (1 : Nat)) * (1 : Nat)) (List.drop (0 : Nat) ys21)) ++ (List.take (1 : Nat) (List.drop (0 : Nat) [x23])))))) → (∀ (x26 : Int), ((x26 = (Go.Sx.shrv Go.IntKind.u64 x13 (32 : Nat))) → (∀ (x27 : Int), ((x27 = (Go.IntKind.wrap Go.IntKind.u8 x26)) → (((((((((l + (1 : Nat)) + (Prod.fst i5)) + (1 : Nat)) + (1 : Nat)) + (1 : Nat)) ≤ cap24) ∧
 (((0 : Nat) + (cap24 * (1 : Nat))) ≤ (List.length ys25))) ∧
 ((Nat.le (1 : Nat) (List.length [x27])) ∧
 (((((((((l + (1 : Nat)) + (Prod.fst i5)) + (1 : Nat)) + (1 : Nat)) + (1 : Nat)) + (1 : Nat)) * (1 : Nat)) ≤ (549755813888 : Nat)) ∧
 (((((((l + (1 : Nat)) + (Prod.fst i5)) + (1 : Nat)) + (1 : Nat)) + (1 : Nat)) + (1 : Nat)) ≤ (549755813888 : Nat))))) ∧
 (∀ (cap28 : Nat), (∀ (ys29 : (List Int)), (((((((((l + (1 : Nat)) + (Prod.fst i5)) + (1 : Nat)) + (1 : Nat)) + (1 : Nat)) + (1 : Nat)) ≤ cap28) ∧
 (((List.length ys29) = (cap28 * (1 : Nat))) ∧
 ((List.take (((((((l + (1 : Nat)) + (Prod.fst i5)) + (1 : Nat)) + (1 : Nat)) + (1 : Nat)) + (1 : Nat)) * (1 : Nat)) ys29) = ((List.take ((((((l + (1 : Nat)) + (Prod.fst i5)) + (1 : Nat)) + (1 : Nat)) + (1 : Nat)) * (1 : Nat)) (List.drop (0 : Nat) ys25)) ++ (List.take (1 : Nat) (List.drop (0 : Nat) [x27])))))) → (∀ (x30 : Int), ((x30 = (Go.Sx.shrv Go.IntKind.u64 x13 (24 : Nat))) → (∀ (x31 : Int), ((x31 = (Go.IntKind.wrap Go.IntKind.u8 x30)) → ((((((((((l + (1 : Nat)) + (Prod.fst i5)) + (1 : Nat)) + (1 : Nat)) + (1 : Nat)) + (1 : Nat)) ≤ cap28) ∧
 (((0 : Nat) + (cap28 * (1 : Nat))) ≤ (List.length ys29))) ∧
 ((Nat.le (1 : Nat) (List.length [x31])) ∧
 ((((((((((l + (1 : Nat)) + (Prod.fst i5)) + (1 : Nat)) + (1 : Nat)) + (1 : Nat)) + (1 : Nat)) + (1 : Nat)) * (1 : Nat)) ≤ (549755813888 : Nat)) ∧
 ((((((((l + (1 : Nat)) + (Prod.fst i5)) + (1 : Nat)) + (1 : Nat)) + (1 : Nat)) + (1 : Nat)) + (1 : Nat)) ≤ (549755813888 : Nat))))) ∧
 (∀ (cap32 : Nat), (∀ (ys33 : (List Int)), ((((((((((l + (1 : Nat)) + (Prod.fst i5)) + (1 : Nat)) + (1 : Nat)) + (1 : Nat)) + (1 : Nat)) + (1 : Nat)) ≤ cap32) ∧
 (((List.length ys33) = (cap32 * (1 : Nat))) ∧
 ((List.take ((((((((l + (1 : Nat)) + (Prod.fst i5)) + (1 : Nat)) + (1 : Nat)) + (1 : Nat)) + (1 : Nat)) + (1 : Nat)) * (1 : Nat)) ys33) = ((List.take (((((((l + (1 : Nat)) + (Prod.fst i5)) + (1 : Nat)) + (1 : Nat)) + (1 : Nat)) + (1 : Nat)) * (1 : Nat)) (List.drop (0 : Nat) ys29)) ++ (List.take (1 : Nat) (List.drop (0 : Nat) [x31])))))) → (∀ (x34 : Int), ((x34 = (Go.Sx.shrv Go.IntKind.u64 x13 (16 : Nat))) → (∀ (x35 : Int), ((x35 = (Go.IntKind.wrap Go.IntKind.u8 x34)) → (((((((((((l + (1 : Nat)) + (Prod.fst i5)) + (1 : Nat)) + (1 : Nat)) + (1 : Nat)) + (1 : Nat)) + (1 : Nat)) ≤ cap32) ∧
 (((0 : Nat) + (cap32 * (1 : Nat))) ≤ (List.length ys33))) ∧
 ((Nat.le (1 : Nat) (List.length [x35])) ∧
 (((((((((((l + (1 : Nat)) + (Prod.fst i5)) + (1 : Nat)) + (1 : Nat)) + (1 : Nat)) + (1 : Nat)) + (1 : Nat)) + (1 : Nat)) * (1 : Nat)) ≤ (549755813888 : Nat)) ∧
 (((((((((l + (1 : Nat)) + (Prod.fst i5)) + (1 : Nat)) + (1 : Nat)) + (1 : Nat)) + (1 : Nat)) + (1 : Nat)) + (1 : Nat)) ≤ (549755813888 : Nat))))) ∧
 (∀ (cap36 : Nat), (∀ (ys37 : (List Int)), (((((((((((l + (1 : Nat)) + (Prod.fst i5)) + (1 : Nat)) + (1 : Nat)) + (1 : Nat)) + (1 : Nat)) + (1 : Nat)) + (1 : Nat)) ≤ cap36) ∧
 (((List.length ys37) = (cap36 * (1 : Nat))) ∧
 ((List.take (((((((((l + (1 : Nat)) + (Prod.fst i5)) + (1 : Nat)) + (1 : Nat)) + (1 : Nat)) + (1 : Nat)) + (1 : Nat)) + (1 : Nat)) * (1 : Nat)) ys37) = ((List.take ((((((((l + (1 : Nat)) + (Prod.fst i5)) + (1 : Nat)) + (1 : Nat)) + (1 : Nat)) + (1 : Nat)) + (1 : Nat)) * (1 : Nat)) (List.drop (0 : Nat) ys33)) ++ (List.take (1 : Nat) (List.drop (0 : Nat) [x35])))))) → (∀ (x38 : Int), ((x38 = (Go.Sx.shrv Go.IntKind.u64 x13 (8 : Nat))) → (∀ (x39 : Int), ((x39 = (Go.IntKind.wrap Go.IntKind.u8 x38)) → ((((((((((((l + (1 : Nat)) + (Prod.fst i5)) + (1 : Nat)) + (1 : Nat)) + (1 : Nat)) + (1 : Nat)) + (1 : Nat)) + (1 : Nat)) ≤ cap36) ∧
 (((0 : Nat) + (cap36 * (1 : Nat))) ≤ (List.length ys37))) ∧
 ((Nat.le (1 : Nat) (List.length [x39])) ∧
 ((((((((((((l + (1 : Nat)) + (Prod.fst i5)) + (1 : Nat)) + (1 : Nat)) + (1 : Nat)) + (1 : Nat)) + (1 : Nat)) + (1 : Nat)) + (1 : Nat)) * (1 : Nat)) ≤ (549755813888 : Nat)) ∧
 ((((((((((l + (1 : Nat)) + (Prod.fst i5)) + (1 : Nat)) + (1 : Nat)) + (1 : Nat)) + (1 : Nat)) + (1 : Nat)) + (1 : Nat)) + (1 : Nat)) ≤ (549755813888 : Nat))))) ∧
 (∀ (cap40 : Nat), (∀ (ys41 : (List Int)), ((((((((((((l + (1 : Nat)) + (Prod.fst i5)) + (1 : Nat)) + (1 : Nat)) + (1 : Nat)) + (1 : Nat)) + (1 : Nat)) + (1 : Nat)) + (1 : Nat)) ≤ cap40) ∧
 (((List.length ys41) = (cap40 * (1 : Nat))) ∧
 ((List.take ((((((((((l + (1 : Nat)) + (Prod.fst i5)) + (1 : Nat)) + (1 : Nat)) + (1 : Nat)) + (1 : Nat)) + (1 : Nat)) + (1 : Nat)) + (1 : Nat)) * (1 : Nat)) ys41) = ((List.take (((((((((l + (1 : Nat)) + (Prod.fst i5)) + (1 : Nat)) + (1 : Nat)) + (1 : Nat)) + (1 : Nat)) + (1 : Nat)) + (1 : Nat)) * (1 : Nat)) (List.drop (0 : Nat) ys37)) ++ (List.take (1 : Nat) (List.drop (0 : Nat) [x39])))))) → (∀ (x42 : Int), ((x42 = (Go.Sx.shrv Go.IntKind.u64 x13 (0 : Nat))) → (∀ (x43 : Int), ((x43 = (Go.IntKind.wrap Go.IntKind.u8 x42)) → (((((((((((((l + (1 : Nat)) + (Prod.fst i5)) + (1 : Nat)) + (1 : Nat)) + (1 : Nat)) + (1 : Nat)) + (1 : Nat)) + (1 : Nat)) + (1 : Nat)) ≤ cap40) ∧
 (((0 : Nat) + (cap40 * (1 : Nat))) ≤ (List.length ys41))) ∧
 ((Nat.le (1 : Nat) (List.length [x43])) ∧
 (((((((((((((l + (1 : Nat)) + (Prod.fst i5)) + (1 : Nat)) + (1 : Nat)) + (1 : Nat)) + (1 : Nat)) + (1 : Nat)) + (1 : Nat)) + (1 : Nat)) + (1 : Nat)) * (1 : Nat)) ≤ (549755813888 : Nat)) ∧
 (((((((((((l + (1 : Nat)) + (Prod.fst i5)) + (1 : Nat)) + (1 : Nat)) + (1 : Nat)) + (1 : Nat)) + (1 : Nat)) + (1 : Nat)) + (1 : Nat)) + (1 : Nat)) ≤ (549755813888 : Nat))))) ∧
 (∀ (cap44 : Nat), (∀ (ys45 : (List Int)), (((((((((((((l + (1 : Nat)) + (Prod.fst i5)) + (1 : Nat)) + (1 : Nat)) + (1 : Nat)) + (1 : Nat)) + (1 : Nat)) + (1 : Nat)) + (1 : Nat)) + (1 : Nat)) ≤ cap44) ∧
 (((List.length ys45) = (cap44 * (1 : Nat))) ∧
 ((List.take (((((((((((l + (1 : Nat)) + (Prod.fst i5)) + (1 : Nat)) + (1 : Nat)) + (1 : Nat)) + (1 : Nat)) + (1 : Nat)) + (1 : Nat)) + (1 : Nat)) + (1 : Nat)) * (1 : Nat)) ys45) = ((List.take ((((((((((l + (1 : Nat)) + (Prod.fst i5)) + (1 : Nat)) + (1 : Nat)) + (1 : Nat)) + (1 : Nat)) + (1 : Nat)) + (1 : Nat)) + (1 : Nat)) * (1 : Nat)) (List.drop (0 : Nat) ys41)) ++ (List.take (1 : Nat) (List.drop (0 : Nat) [x43])))))) → ((∃ (i046 : Nat), ((((64 : Nat) * i046) ≤ (List.length (xs ++ (Go.Sx.padding (List.length xs))))) ∧
 ((((l = l) ∧
 (c = c)) ∧
 (((((((((((((l + (1 : Nat)) + (Prod.fst i5)) + (1 : Nat)) + (1 : Nat)) + (1 : Nat)) + (1 : Nat)) + (1 : Nat)) + (1 : Nat)) + (1 : Nat)) + (1 : Nat)) = ((((((((((l + (1 : Nat)) + (Prod.fst i5)) + (1 : Nat)) + (1 : Nat)) + (1 : Nat)) + (1 : Nat)) + (1 : Nat)) + (1 : Nat)) + (1 : Nat)) + (1 : Nat))) ∧
 (cap44 = cap44)) ∧
 ((0 : Int) = ((((64 : Nat) * i046) : Nat) : Int)))) ∧
 ((xs = xs) ∧
 ((ys45 = ys45) ∧
 (((1779033703 : Int) = (Go.Sx.S8.a (Go.Sx.hB Go.Sx.S0 (xs ++ (Go.Sx.padding (List.length xs))) i046))) ∧
 (((3144134277 : Int) = (Go.Sx.S8.b (Go.Sx.hB Go.Sx.S0 (xs ++ (Go.Sx.padding (List.length xs))) i046))) ∧
 (((1013904242 : Int) = (Go.Sx.S8.c (Go.Sx.hB Go.Sx.S0 (xs ++ (Go.Sx.padding (List.length xs))) i046))) ∧
 (((2773480762 : Int) = (Go.Sx.S8.d (Go.Sx.hB Go.Sx.S0 (xs ++ (Go.Sx.padding (List.length xs))) i046))) ∧
 (((1359893119 : Int) = (Go.Sx.S8.e (Go.Sx.hB Go.Sx.S0 (xs ++ (Go.Sx.padding (List.length xs))) i046))) ∧
 (((2600822924 : Int) = (Go.Sx.S8.f (Go.Sx.hB Go.Sx.S0 (xs ++ (Go.Sx.padding (List.length xs))) i046))) ∧
 (((528734635 : Int) = (Go.Sx.S8.g (Go.Sx.hB Go.Sx.S0 (xs ++ (Go.Sx.padding (List.length xs))) i046))) ∧
 ((1541459225 : Int) = (Go.Sx.S8.h (Go.Sx.hB Go.Sx.S0 (xs ++ (Go.Sx.padding (List.length xs))) i046))))))))))))))) ∧
 (∀ (i47 : Nat), ((((64 : Nat) * i47) ≤ (List.length (xs ++ (Go.Sx.padding (List.length xs))))) → (∀ (x48 : Int), ((x48 = ((((((((((((l + (1 : Nat)) + (Prod.fst i5)) + (1 : Nat)) + (1 : Nat)) + (1 : Nat)) + (1 : Nat)) + (1 : Nat)) + (1 : Nat)) + (1 : Nat)) + (1 : Nat)) : Nat) : Int)) → ((((decide (((((64 : Nat) * i47) : Nat) : Int) < x48)) = Bool.true) → (∀ (x49 : Int), ((x49 = (Go.Sx.S8.a (Go.Sx.hB Go.Sx.S0 (xs ++ (Go.Sx.padding (List.length xs))) i47))) → (∀ (x50 : Int), ((x50 = (Go.Sx.S8.b (Go.Sx.hB Go.Sx.S0 (xs ++ (Go.Sx.padding (List.length xs))) i47))) → (∀ (x51 : Int), ((x51 = (Go.Sx.S8.c (Go.Sx.hB Go.Sx.S0 (xs ++ (Go.Sx.padding (List.length xs))) i47))) → (∀ (x52 : Int), ((x52 = (Go.Sx.S8.d (Go.Sx.hB Go.Sx.S0 (xs ++ (Go.Sx.padding (List.length xs))) i47))) → (∀ (x53 : Int), ((x53 = (Go.Sx.S8.e (Go.Sx.hB Go.Sx.S0 (xs ++ (Go.Sx.padding (List.length xs))) i47))) → (∀ (x54 : Int), ((x54 = (Go.Sx.S8.f (Go.Sx.hB Go.Sx.S0 (xs ++ (Go.Sx.padding (List.length xs))) i47))) → (∀ (x55 : Int), ((x55 = (Go.Sx.S8.g (Go.Sx.hB Go.Sx.S0 (xs ++ (Go.Sx.padding (List.length xs))) i47))) → (∀ (x56 : Int), ((x56 = (Go.Sx.S8.h (Go.Sx.hB Go.Sx.S0 (xs ++ (Go.Sx.padding (List.length xs))) i47))) → (∀ (x57 : Int), ((x57 = (Go.IntKind.wrap Go.IntKind.i64 (((((64 : Nat) * i47) : Nat) : Int) + (64 : Int)))) → (((((0 : Int) ≤ x57) ∧
 (x57 ≤ ((cap44 : Nat) : Int))) ∧
 (((0 : Int) ≤ ((((64 : Nat) * i47) : Nat) : Int)) ∧
 (((((64 : Nat) * i47) : Nat) : Int) ≤ (((Int.toNat x57) : Nat) : Int)))) ∧
 ((((if (cap44 = (Int.toNat ((((64 : Nat) * i47) : Nat) : Int))) then (0 : Nat) else ((Int.toNat ((((64 : Nat) * i47) : Nat) : Int)) * (1 : Nat))) + (((Int.toNat x57) - (Int.toNat ((((64 : Nat) * i47) : Nat) : Int))) * (1 : Nat))) ≤ (List.length ys45)) ∧
 ((((64 : Nat) ≤ ((Int.toNat x57) - (Int.toNat ((((64 : Nat) * i47) : Nat) : Int)))) ∧
 (((64 : Nat) ≤ (List.length (List.take (((Int.toNat x57) - (Int.toNat ((((64 : Nat) * i47) : Nat) : Int))) * (1 : Nat)) (List.drop (if (cap44 = (Int.toNat ((((64 : Nat) * i47) : Nat) : Int))) then (0 : Nat) else ((Int.toNat ((((64 : Nat) * i47) : Nat) : Int)) * (1 : Nat))) ys45)))) ∧
 (Go.Sx.Bytes (List.take (((Int.toNat x57) - (Int.toNat ((((64 : Nat) * i47) : Nat) : Int))) * (1 : Nat)) (List.drop (if (cap44 = (Int.toNat ((((64 : Nat) * i47) : Nat) : Int))) then (0 : Nat) else ((Int.toNat ((((64 : Nat) * i47) : Nat) : Int)) * (1 : Nat))) ys45))))) ∧
 (∀ (H58 : Go.Sx.S8), ((H58 = (Go.Sx.comp (Go.Sx.S8.mk x49 x50 x51 x52 x53 x54 x55 x56) (List.take (((Int.toNat x57) - (Int.toNat ((((64 : Nat) * i47) : Nat) : Int))) * (1 : Nat)) (List.drop (if (cap44 = (Int.toNat ((((64 : Nat) * i47) : Nat) : Int))) then (0 : Nat) else ((Int.toNat ((((64 : Nat) * i47) : Nat) : Int)) * (1 : Nat))) ys45)))) → (∀ (x59 : Int), ((x59 = (Go.IntKind.wrap Go.IntKind.i64 (((((64 : Nat) * i47) : Nat) : Int) + (64 : Int)))) → (∃ (x60 : Nat), ((((64 : Nat) * x60) ≤ (List.length (xs ++ (Go.Sx.padding (List.length xs))))) ∧
 (((((l = l) ∧
 (c = c)) ∧
 (((((((((((((l + (1 : Nat)) + (Prod.fst i5)) + (1 : Nat)) + (1 : Nat)) + (1 : Nat)) + (1 : Nat)) + (1 : Nat)) + (1 : Nat)) + (1 : Nat)) + (1 : Nat)) = ((((((((((l + (1 : Nat)) + (Prod.fst i5)) + (1 : Nat)) + (1 : Nat)) + (1 : Nat)) + (1 : Nat)) + (1 : Nat)) + (1 : Nat)) + (1 : Nat)) + (1 : Nat))) ∧
 (cap44 = cap44)) ∧
 (x59 = ((((64 : Nat) * x60) : Nat) : Int)))) ∧
 ((xs = xs) ∧
 ((ys45 = ys45) ∧
 (((Go.Sx.S8.a H58) = (Go.Sx.S8.a (Go.Sx.hB Go.Sx.S0 (xs ++ (Go.Sx.padding (List.length xs))) x60))) ∧
 (((Go.Sx.S8.b H58) = (Go.Sx.S8.b (Go.Sx.hB Go.Sx.S0 (xs ++ (Go.Sx.padding (List.length xs))) x60))) ∧
 (((Go.Sx.S8.c H58) = (Go.Sx.S8.c (Go.Sx.hB Go.Sx.S0 (xs ++ (Go.Sx.padding (List.length xs))) x60))) ∧
 (((Go.Sx.S8.d H58) = (Go.Sx.S8.d (Go.Sx.hB Go.Sx.S0 (xs ++ (Go.Sx.padding (List.length xs))) x60))) ∧
 (((Go.Sx.S8.e H58) = (Go.Sx.S8.e (Go.Sx.hB Go.Sx.S0 (xs ++ (Go.Sx.padding (List.length xs))) x60))) ∧
 (((Go.Sx.S8.f H58) = (Go.Sx.S8.f (Go.Sx.hB Go.Sx.S0 (xs ++ (Go.Sx.padding (List.length xs))) x60))) ∧
 (((Go.Sx.S8.g H58) = (Go.Sx.S8.g (Go.Sx.hB Go.Sx.S0 (xs ++ (Go.Sx.padding (List.length xs))) x60))) ∧
 ((Go.Sx.S8.h H58) = (Go.Sx.S8.h (Go.Sx.hB Go.Sx.S0 (xs ++ (Go.Sx.padding (List.length xs))) x60))))))))))))) ∧
 (((List.length (xs ++ (Go.Sx.padding (List.length xs)))) - ((64 : Nat) * x60)) < ((List.length (xs ++ (Go.Sx.padding (List.length xs)))) - ((64 : Nat) * i47)))))))))))))))))))))))))))))))) ∧
 (((decide (((((64 : Nat) * i47) : Nat) : Int) < x48)) = Bool.false) → (∀ (x61 : Int), ((x61 = (Go.Sx.shrv Go.IntKind.u32 (Go.Sx.S8.a (Go.Sx.hB Go.Sx.S0 (xs ++ (Go.Sx.padding (List.length xs))) i47)) (24 : Nat))) → (∀ (x62 : Int), ((x62 = (Go.IntKind.wrap Go.IntKind.u8 x61)) → (∀ (x63 : Int), ((x63 = (Go.Sx.shrv Go.IntKind.u32 (Go.Sx.S8.a (Go.Sx.hB Go.Sx.S0 (xs ++ (Go.Sx.padding (List.length xs))) i47)) (16 : Nat))) → (∀ (x64 : Int), ((x64 = (Go.IntKind.wrap Go.IntKind.u8 x63)) → (∀ (x65 : Int), ((x65 = (Go.Sx.shrv Go.IntKind.u32 (Go.Sx.S8.a (Go.Sx.hB Go.Sx.S0 (xs ++ (Go.Sx.padding (List.length xs))) i47)) (8 : Nat))) → (∀ (x66 : Int), ((x66 = (Go.IntKind.wrap Go.IntKind.u8 x65)) → (∀ (x67 : Int), ((x67 = (Go.IntKind.wrap Go.IntKind.u8 (Go.Sx.S8.a (Go.Sx.hB Go.Sx.S0 (xs ++ (Go.Sx.padding (List.length xs))) i47)))) → (((((0 : Nat) ≤ (0 : Nat)) ∧
 ((0 : Nat) ≤ (0 : Nat))) ∧
 ((Nat.le (4 : Nat) (List.length [x62, x64, x66, x67])) ∧
 (((4 : Nat) ≤ (549755813888 : Nat)) ∧
 ((4 : Nat) ≤ (549755813888 : Nat))))) ∧
 (∀ (cap68 : Nat), (∀ (ys69 : (List Int)), ((((4 : Nat) ≤ cap68) ∧
 (((List.length ys69) = (cap68 * (1 : Nat))) ∧
 ((List.take (4 : Nat) ys69) = ((List.take (0 : Nat) (List.drop (0 : Nat) [])) ++ (List.take (4 : Nat) (List.drop (0 : Nat) [x62, x64, x66, x67])))))) → (∀ (x70 : Int), ((x70 = (Go.Sx.shrv Go.IntKind.u32 (Go.Sx.S8.b (Go.Sx.hB Go.Sx.S0 (xs ++ (Go.Sx.padding (List.length xs))) i47)) (24 : Nat))) → (∀ (x71 : Int), ((x71 = (Go.IntKind.wrap Go.IntKind.u8 x70)) → (∀ (x72 : Int), ((x72 = (Go.Sx.shrv Go.IntKind.u32 (Go.Sx.S8.b (Go.Sx.hB Go.Sx.S0 (xs ++ (Go.Sx.padding (List.length xs))) i47)) (16 : Nat))) → (∀ (x73 : Int), ((x73 = (Go.IntKind.wrap Go.IntKind.u8 x72)) → (∀ (x74 : Int), ((x74 = (Go.Sx.shrv Go.IntKind.u32 (Go.Sx.S8.b (Go.Sx.hB Go.Sx.S0 (xs ++ (Go.Sx.padding (List.length xs))) i47)) (8 : Nat))) → (∀ (x75 : Int), ((x75 = (Go.IntKind.wrap Go.IntKind.u8 x74)) → (∀ (x76 : Int), ((x76 = (Go.IntKind.wrap Go.IntKind.u8 (Go.Sx.S8.b (Go.Sx.hB Go.Sx.S0 (xs ++ (Go.Sx.padding (List.length xs))) i47)))) → (((((4 : Nat) ≤ cap68) ∧
 (((0 : Nat) + (cap68 * (1 : Nat))) ≤ (List.length ys69))) ∧
 ((Nat.le (4 : Nat) (List.length [x71, x73, x75, x76])) ∧
 (((8 : Nat) ≤ (549755813888 : Nat)) ∧
 ((8 : Nat) ≤ (549755813888 : Nat))))) ∧
 (∀ (cap77 : Nat), (∀ (ys78 : (List Int)), ((((8 : Nat) ≤ cap77) ∧
 (((List.length ys78) = (cap77 * (1 : Nat))) ∧
 ((List.take (8 : Nat) ys78) = ((List.take (4 : Nat) (List.drop (0 : Nat) ys69)) ++ (List.take (4 : Nat) (List.drop (0 : Nat) [x71, x73, x75, x76])))))) → (∀ (x79 : Int), ((x79 = (Go.Sx.shrv Go.IntKind.u32 (Go.Sx.S8.c (Go.Sx.hB Go.Sx.S0 (xs ++ (Go.Sx.padding (List.length xs))) i47)) (24 : Nat))) → (∀ (x80 : Int), ((x80 = (Go.IntKind.wrap Go.IntKind.u8 x79)) → (∀ (x81 : Int), ((x81 = (Go.Sx.shrv Go.IntKind.u32 (Go.Sx.S8.c (Go.Sx.hB Go.Sx.S0 (xs ++ (Go.Sx.padding (List.length xs))) i47)) (16 : Nat))) → (∀ (x82 : Int), ((x82 = (Go.IntKind.wrap Go.IntKind.u8 x81)) → (∀ (x83 : Int), ((x83 = (Go.Sx.shrv Go.IntKind.u32 (Go.Sx.S8.c (Go.Sx.hB Go.Sx.S0 (xs ++ (Go.Sx.padding (List.length xs))) i47)) (8 : Nat))) → (∀ (x84 : Int), ((x84 = (Go.IntKind.wrap Go.IntKind.u8 x83)) → (∀ (x85 : Int), ((x85 = (Go.IntKind.wrap Go.IntKind.u8 (Go.Sx.S8.c (Go.Sx.hB Go.Sx.S0 (xs ++ (Go.Sx.padding (List.length xs))) i47)))) → (((((8 : Nat) ≤ cap77) ∧
 (((0 : Nat) + (cap77 * (1 : Nat))) ≤ (List.length ys78))) ∧
 ((Nat.le (4 : Nat) (List.length [x80, x82, x84, x85])) ∧
 (((12 : Nat) ≤ (549755813888 : Nat)) ∧
 ((12 : Nat) ≤ (549755813888 : Nat))))) ∧
 (∀ (cap86 : Nat), (∀ (ys87 : (List Int)), ((((12 : Nat) ≤ cap86) ∧
 (((List.length ys87) = (cap86 * (1 : Nat))) ∧
 ((List.take (12 : Nat) ys87) = ((List.take (8 : Nat) (List.drop (0 : Nat) ys78)) ++ (List.take (4 : Nat) (List.drop (0 : Nat) [x80, x82, x84, x85])))))) → (∀ (x88 : Int), ((x88 = (Go.Sx.shrv Go.IntKind.u32 (Go.Sx.S8.d (Go.Sx.hB Go.Sx.S0 (xs ++ (Go.Sx.padding (List.length xs))) i47)) (24 : Nat))) → (∀ (x89 : Int), ((x89 = (Go.IntKind.wrap Go.IntKind.u8 x88)) → (∀ (x90 : Int), ((x90 = (Go.Sx.shrv Go.IntKind.u32 (Go.Sx.S8.d (Go.Sx.hB Go.Sx.S0 (xs ++ (Go.Sx.padding (List.length xs))) i47)) (16 : Nat))) → (∀ (x91 : Int), ((x91 = (Go.IntKind.wrap Go.IntKind.u8 x90)) → (∀ (x92 : Int), ((x92 = (Go.Sx.shrv Go.IntKind.u32 (Go.Sx.S8.d (Go.Sx.hB Go.Sx.S0 (xs ++ (Go.Sx.padding (List.length xs))) i47)) (8 : Nat))) → (∀ (x93 : Int), ((x93 = (Go.IntKind.wrap Go.IntKind.u8 x92)) → (∀ (x94 : Int), ((x94 = (Go.IntKind.wrap Go.IntKind.u8 (Go.Sx.S8.d (Go.Sx.hB Go.Sx.S0 (xs ++ (Go.Sx.padding (List.length xs))) i47)))) → (((((12 : Nat) ≤ cap86) ∧
 (((0 : Nat) + (cap86 * (1 : Nat))) ≤ (List.length ys87))) ∧
 ((Nat.le (4 : Nat) (List.length [x89, x91, x93, x94])) ∧
 (((16 : Nat) ≤ (549755813888 : Nat)) ∧
 ((16 : Nat) ≤ (549755813888 : Nat))))) ∧
 (∀ (cap95 : Nat), (∀ (ys96 : (List Int)), ((((16 : Nat) ≤ cap95) ∧
 (((List.length ys96) = (cap95 * (1 : Nat))) ∧
 ((List.take (16 : Nat) ys96) = ((List.take (12 : Nat) (List.drop (0 : Nat) ys87)) ++ (List.take (4 : Nat) (List.drop (0 : Nat) [x89, x91, x93, x94])))))) → (∀ (x97 : Int), ((x97 = (Go.Sx.shrv Go.IntKind.u32 (Go.Sx.S8.e (Go.Sx.hB Go.Sx.S0 (xs ++ (Go.Sx.padding (List.length xs))) i47)) (24 : Nat))) → (∀ (x98 : Int), ((x98 = (Go.IntKind.wrap Go.IntKind.u8 x97)) → (∀ (x99 : Int), ((x99 = (Go.Sx.shrv Go.IntKind.u32 (Go.Sx.S8.e (Go.Sx.hB Go.Sx.S0 (xs ++ (Go.Sx.padding (List.length xs))) i47)) (16 : Nat))) → (∀ (x100 : Int), ((x100 = (Go.IntKind.wrap Go.IntKind.u8 x99)) → (∀ (x101 : Int), ((x101 = (Go.Sx.shrv Go.IntKind.u32 (Go.Sx.S8.e (Go.Sx.hB Go.Sx.S0 (xs ++ (Go.Sx.padding (List.length xs))) i47)) (8 : Nat))) → (∀ (x102 : Int), ((x102 = (Go.IntKind.wrap Go.IntKind.u8 x101)) → (∀ (x103 : Int), ((x103 = (Go.IntKind.wrap Go.IntKind.u8 (Go.Sx.S8.e (Go.Sx.hB Go.Sx.S0 (xs ++ (Go.Sx.padding (List.length xs))) i47)))) → (((((16 : Nat) ≤ cap95) ∧
 (((0 : Nat) + (cap95 * (1 : Nat))) ≤ (List.length ys96))) ∧
 ((Nat.le (4 : Nat) (List.length [x98, x100, x102, x103])) ∧
 (((20 : Nat) ≤ (549755813888 : Nat)) ∧
 ((20 : Nat) ≤ (549755813888 : Nat))))) ∧
 (∀ (cap104 : Nat), (∀ (ys105 : (List Int)), ((((20 : Nat) ≤ cap104) ∧
 (((List.length ys105) = (cap104 * (1 : Nat))) ∧
 ((List.take (20 : Nat) ys105) = ((List.take (16 : Nat) (List.drop (0 : Nat) ys96)) ++ (List.take (4 : Nat) (List.drop (0 : Nat) [x98, x100, x102, x103])))))) → (∀ (x106 : Int), ((x106 = (Go.Sx.shrv Go.IntKind.u32 (Go.Sx.S8.f (Go.Sx.hB Go.Sx.S0 (xs ++ (Go.Sx.padding (List.length xs))) i47)) (24 : Nat))) → (∀ (x107 : Int), ((x107 = (Go.IntKind.wrap Go.IntKind.u8 x106)) → (∀ (x108 : Int), ((x108 = (Go.Sx.shrv Go.IntKind.u32 (Go.Sx.S8.f (Go.Sx.hB Go.Sx.S0 (xs ++ (Go.Sx.padding (List.length xs))) i47)) (16 : Nat))) → (∀ (x109 : Int), ((x109 = (Go.IntKind.wrap Go.IntKind.u8 x108)) → (∀ (x110 : Int), ((x110 = (Go.Sx.shrv Go.IntKind.u32 (Go.Sx.S8.f (Go.Sx.hB Go.Sx.S0 (xs ++ (Go.Sx.padding (List.length xs))) i47)) (8 : Nat))) → (∀ (x111 : Int), ((x111 = (Go.IntKind.wrap Go.IntKind.u8 x110)) → (∀ (x112 : Int), ((x112 = (Go.IntKind.wrap Go.IntKind.u8 (Go.Sx.S8.f (Go.Sx.hB Go.Sx.S0 (xs ++ (Go.Sx.padding (List.length xs))) i47)))) → (((((20 : Nat) ≤ cap104) ∧
 (((0 : Nat) + (cap104 * (1 : Nat))) ≤ (List.length ys105))) ∧
 ((Nat.le (4 : Nat) (List.length [x107, x109, x111, x112])) ∧
 (((24 : Nat) ≤ (549755813888 : Nat)) ∧
 ((24 : Nat) ≤ (549755813888 : Nat))))) ∧
 (∀ (cap113 : Nat), (∀ (ys114 : (List Int)), ((((24 : Nat) ≤ cap113) ∧
 (((List.length ys114) = (cap113 * (1 : Nat))) ∧
 ((List.take (24 : Nat) ys114) = ((List.take (20 : Nat) (List.drop (0 : Nat) ys105)) ++ (List.take (4 : Nat) (List.drop (0 : Nat) [x107, x109, x111, x112])))))) → (∀ (x115 : Int), ((x115 = (Go.Sx.shrv Go.IntKind.u32 (Go.Sx.S8.g (Go.Sx.hB Go.Sx.S0 (xs ++ (Go.Sx.padding (List.length xs))) i47)) (24 : Nat))) → (∀ (x116 : Int), ((x116 = (Go.IntKind.wrap Go.IntKind.u8 x115)) → (∀ (x117 : Int), ((x117 = (Go.Sx.shrv Go.IntKind.u32 (Go.Sx.S8.g (Go.Sx.hB Go.Sx.S0 (xs ++ (Go.Sx.padding (List.length xs))) i47)) (16 : Nat))) → (∀ (x118 : Int), ((x118 = (Go.IntKind.wrap Go.IntKind.u8 x117)) → (∀ (x119 : Int), ((x119 = (Go.Sx.shrv Go.IntKind.u32 (Go.Sx.S8.g (Go.Sx.hB Go.Sx.S0 (xs ++ (Go.Sx.padding (List.length xs))) i47)) (8 : Nat))) → (∀ (x120 : Int), ((x120 = (Go.IntKind.wrap Go.IntKind.u8 x119)) → (∀ (x121 : Int), ((x121 = (Go.IntKind.wrap Go.IntKind.u8 (Go.Sx.S8.g (Go.Sx.hB Go.Sx.S0 (xs ++ (Go.Sx.padding (List.length xs))) i47)))) → (((((24 : Nat) ≤ cap113) ∧
 (((0 : Nat) + (cap113 * (1 : Nat))) ≤ (List.length ys114))) ∧
 ((Nat.le (4 : Nat) (List.length [x116, x118, x120, x121])) ∧
 (((28 : Nat) ≤ (549755813888 : Nat)) ∧
 ((28 : Nat) ≤ (549755813888 : Nat))))) ∧
 (∀ (cap122 : Nat), (∀ (ys123 : (List Int)), ((((28 : Nat) ≤ cap122) ∧
 (((List.length ys123) = (cap122 * (1 : Nat))) ∧
 ((List.take (28 : Nat) ys123) = ((List.take (24 : Nat) (List.drop (0 : Nat) ys114)) ++ (List.take (4 : Nat) (List.drop (0 : Nat) [x116, x118, x120, x121])))))) → (∀ (x124 : Int), ((x124 = (Go.Sx.shrv Go.IntKind.u32 (Go.Sx.S8.h (Go.Sx.hB Go.Sx.S0 (xs ++ (Go.Sx.padding (List.length xs))) i47)) (24 : Nat))) → (∀ (x125 : Int), ((x125 = (Go.IntKind.wrap Go.IntKind.u8 x124)) → (∀ (x126 : Int), ((x126 = (Go.Sx.shrv Go.IntKind.u32 (Go.Sx.S8.h (Go.Sx.hB Go.Sx.S0 (xs ++ (Go.Sx.padding (List.length xs))) i47)) (16 : Nat))) → (∀ (x127 : Int), ((x127 = (Go.IntKind.wrap Go.IntKind.u8 x126)) → (∀ (x128 : Int), ((x128 = (Go.Sx.shrv Go.IntKind.u32 (Go.Sx.S8.h (Go.Sx.hB Go.Sx.S0 (xs ++ (Go.Sx.padding (List.length xs))) i47)) (8 : Nat))) → (∀ (x129 : Int), ((x129 = (Go.IntKind.wrap Go.IntKind.u8 x128)) → (∀ (x130 : Int), ((x130 = (Go.IntKind.wrap Go.IntKind.u8 (Go.Sx.S8.h (Go.Sx.hB Go.Sx.S0 (xs ++ (Go.Sx.padding (List.length xs))) i47)))) → (((((28 : Nat) ≤ cap122) ∧
 (((0 : Nat) + (cap122 * (1 : Nat))) ≤ (List.length ys123))) ∧
 ((Nat.le (4 : Nat) (List.length [x125, x127, x129, x130])) ∧
 (((32 : Nat) ≤ (549755813888 : Nat)) ∧
 ((32 : Nat) ≤ (549755813888 : Nat))))) ∧
 (∀ (cap131 : Nat), (∀ (ys132 : (List Int)), ((((32 : Nat) ≤ cap131) ∧
 (((List.length ys132) = (cap131 * (1 : Nat))) ∧
 ((List.take (32 : Nat) ys132) = ((List.take (28 : Nat) (List.drop (0 : Nat) ys123)) ++ (List.take (4 : Nat) (List.drop (0 : Nat) [x125, x127, x129, x130])))))) → (K (Go.Sx.SV.slice (3409 : Nat) (Go.Sx.N.lit (0 : Nat)) (Go.Sx.N.lit (32 : Nat)) (Go.Sx.N.sym cap131)) (Go.Sx.memL [((1 : Nat), (Go.Sx.Reg.mk Bool.true (Go.Sx.Ct.ints Go.IntKind.u8 xs))), ((1513 : Nat), (Go.Sx.Reg.mk Bool.false (Go.Sx.Ct.ints Go.IntKind.u8 ys45))), ((1577 : Nat), (Go.Sx.Reg.mk Bool.false (Go.Sx.Ct.cells [(Go.Sx.SV.int Go.IntKind.u32 (Go.Sx.A.sym (Go.Sx.S8.a (Go.Sx.hB Go.Sx.S0 (xs ++ (Go.Sx.padding (List.length xs))) i47)))), (Go.Sx.SV.int Go.IntKind.u32 (Go.Sx.A.sym (Go.Sx.S8.b (Go.Sx.hB Go.Sx.S0 (xs ++ (Go.Sx.padding (List.length xs))) i47)))), (Go.Sx.SV.int Go.IntKind.u32 (Go.Sx.A.sym (Go.Sx.S8.c (Go.Sx.hB Go.Sx.S0 (xs ++ (Go.Sx.padding (List.length xs))) i47)))), (Go.Sx.SV.int Go.IntKind.u32 (Go.Sx.A.sym (Go.Sx.S8.d (Go.Sx.hB Go.Sx.S0 (xs ++ (Go.Sx.padding (List.length xs))) i47)))), (Go.Sx.SV.int Go.IntKind.u32 (Go.Sx.A.sym (Go.Sx.S8.e (Go.Sx.hB Go.Sx.S0 (xs ++ (Go.Sx.padding (List.length xs))) i47)))), (Go.Sx.SV.int Go.IntKind.u32 (Go.Sx.A.sym (Go.Sx.S8.f (Go.Sx.hB Go.Sx.S0 (xs ++ (Go.Sx.padding (List.length xs))) i47)))), (Go.Sx.SV.int Go.IntKind.u32 (Go.Sx.A.sym (Go.Sx.S8.g (Go.Sx.hB Go.Sx.S0 (xs ++ (Go.Sx.padding (List.length xs))) i47)))), (Go.Sx.SV.int Go.IntKind.u32 (Go.Sx.A.sym (Go.Sx.S8.h (Go.Sx.hB Go.Sx.S0 (xs ++ (Go.Sx.padding (List.length xs))) i47))))]))), ((1833 : Nat), (Go.Sx.Reg.mk Bool.false (Go.Sx.Ct.cells [(Go.Sx.SV.int Go.IntKind.u8 (Go.Sx.A.sym x62)), (Go.Sx.SV.int Go.IntKind.u8 (Go.Sx.A.sym x64)), (Go.Sx.SV.int Go.IntKind.u8 (Go.Sx.A.sym x66)), (Go.Sx.SV.int Go.IntKind.u8 (Go.Sx.A.sym x67))]))), ((2057 : Nat), (Go.Sx.Reg.mk Bool.false (Go.Sx.Ct.cells [(Go.Sx.SV.int Go.IntKind.u8 (Go.Sx.A.sym x71)), (Go.Sx.SV.int Go.IntKind.u8 (Go.Sx.A.sym x73)), (Go.Sx.SV.int Go.IntKind.u8 (Go.Sx.A.sym x75)), (Go.Sx.SV.int Go.IntKind.u8 (Go.Sx.A.sym x76))]))), ((2281 : Nat), (Go.Sx.Reg.mk Bool.false (Go.Sx.Ct.cells [(Go.Sx.SV.int Go.IntKind.u8 (Go.Sx.A.sym x80)), (Go.Sx.SV.int Go.IntKind.u8 (Go.Sx.A.sym x82)), (Go.Sx.SV.int Go.IntKind.u8 (Go.Sx.A.sym x84)), (Go.Sx.SV.int Go.IntKind.u8 (Go.Sx.A.sym x85))]))), ((2505 : Nat), (Go.Sx.Reg.mk Bool.false (Go.Sx.Ct.cells [(Go.Sx.SV.int Go.IntKind.u8 (Go.Sx.A.sym x89)), (Go.Sx.SV.int Go.IntKind.u8 (Go.Sx.A.sym x91)), (Go.Sx.SV.int Go.IntKind.u8 (Go.Sx.A.sym x93)), (Go.Sx.SV.int Go.IntKind.u8 (Go.Sx.A.sym x94))]))), ((2729 : Nat), (Go.Sx.Reg.mk Bool.false (Go.Sx.Ct.cells [(Go.Sx.SV.int Go.IntKind.u8 (Go.Sx.A.sym x98)), (Go.Sx.SV.int Go.IntKind.u8 (Go.Sx.A.sym x100)), (Go.Sx.SV.int Go.IntKind.u8 (Go.Sx.A.sym x102)), (Go.Sx.SV.int Go.IntKind.u8 (Go.Sx.A.sym x103))]))), ((2953 : Nat), (Go.Sx.Reg.mk Bool.false (Go.Sx.Ct.cells [(Go.Sx.SV.int Go.IntKind.u8 (Go.Sx.A.sym x107)), (Go.Sx.SV.int Go.IntKind.u8 (Go.Sx.A.sym x109)), (Go.Sx.SV.int Go.IntKind.u8 (Go.Sx.A.sym x111)), (Go.Sx.SV.int Go.IntKind.u8 (Go.Sx.A.sym x112))]))), ((3177 : Nat), (Go.Sx.Reg.mk Bool.false (Go.Sx.Ct.cells [(Go.Sx.SV.int Go.IntKind.u8 (Go.Sx.A.sym x116)), (Go.Sx.SV.int Go.IntKind.u8 (Go.Sx.A.sym x118)), (Go.Sx.SV.int Go.IntKind.u8 (Go.Sx.A.sym x120)), (Go.Sx.SV.int Go.IntKind.u8 (Go.Sx.A.sym x121))]))), ((3401 : Nat), (Go.Sx.Reg.mk Bool.false (Go.Sx.Ct.cells [(Go.Sx.SV.int Go.IntKind.u8 (Go.Sx.A.sym x125)), (Go.Sx.SV.int Go.IntKind.u8 (Go.Sx.A.sym x127)), (Go.Sx.SV.int Go.IntKind.u8 (Go.Sx.A.sym x129)), (Go.Sx.SV.int Go.IntKind.u8 (Go.Sx.A.sym x130))]))), ((3409 : Nat), (Go.Sx.Reg.mk Bool.false (Go.Sx.Ct.ints Go.IntKind.u8 ys132)))]))))))))))))))))))))))))))))))))))))))))))))))))))))))))))))))))))))))))))))))))))))))))))))))))))))))))))))))))))))))))))))))))))))))))))))))))))))))))))))))))))))))))))))))))))))))))))))))))))))))))))))))))))))))))))))))))))))))))))))))))) := by kernel_rfl
end Go.Sx

/- spec.Sum: what it computes. -/
namespace Go.Sx
open Go Go.Proofs
set_option maxRecDepth 100000
set_option maxHeartbeats 4000000
theorem shl3 {n : Nat} (h : n < 2 ^ 40) : IntKind.u64.wrap (IntKind.u64.wrap (n : Int) * 8) = shlv .u64 (n : Int) 3 := by
  rw [wrapu64 (x := (n : Int)) (by omega) (by omega)]
  rfl
theorem pad_stop {l j : Nat} (h : j + 1 ≤ padN l) (h2 : (l + 1 + j) % 64 = 56) : j + 1 = padN l := by
  unfold padN at *
  split at h <;> split <;> omega
theorem pad_go {l j : Nat} (h : j + 1 ≤ padN l) (h2 : (l + 1 + j) % 64 ≠ 56) : j + 2 ≤ padN l := by
  unfold padN at *
  split at h <;> split <;> omega
theorem padN_pos (l : Nat) : 1 ≤ padN l ∧ padN l ≤ 64 := by unfold padN; split <;> omega
theorem pad_sum (l : Nat) : (l + padN l + 8) % 64 = 0 := by unfold padN; split <;> omega
theorem ss_walk (xs : List Int) (l c : Nat) (K : SV → Mem → Prop) (hl : xs.length = l) (hbig : l ≤ 2 ^ 38) (hb : Bytes xs) (hup : KUp K)
    (hK : ∀ ys cap, Rw ys (sha xs) 32 cap → K (.slice 3409 (.lit 0) (.lit 32) (.sym cap)) (memL [(1, ⟨true, .ints .u8 xs⟩), (3409, ⟨false, .ints .u8 ys⟩)])) :
    execF cxSS (uSS xs l) Tryd.f15 64 [.slice 1 (.lit 0) (.sym l) (.sym c)] (memL [(1, ⟨true, .ints .u8 xs⟩)]) K := by
  rw [vc_ss]
  have hpp := padN_pos l
  refine ⟨⟨by omega, nle (by omega), by omega, by omega⟩, fun cap0 ys1 e0 => ?_⟩
  have r0 := Rw.first hl e0
  refine ⟨⟨r0.fits, nle (Nat.le_refl _), by omega, by omega⟩, fun cap2 ys3 e2 => ?_⟩
  have r1 := r0.next (zs := [128]) (m := 1) rfl e2
  refine ⟨⟨(0, ys3, cap2), ⟨r1, by simp only; omega⟩, ?_⟩, ?_⟩
  · repeat' apply And.intro
    all_goals first | trivial | rfl
  clear r0 r1 e0 e2 ys1 ys3 cap0 cap2
  rintro ⟨j, y, cp⟩ ⟨r0, hj⟩
  simp only at r0 hj
  rintro x6 rfl x7 hx7
  have e7 : x7 = ((l + 1 + j) % 64 : Nat) := by rw [hx7]; exact_mod_cast rfl
  simp only
  refine ⟨fun h => ?_, fun h => ?_⟩
  · have hne : (l + 1 + j) % 64 ≠ 56 := by
      intro e
      rw [e7, e] at h
      exact absurd h (by decide)
    have hj2 := pad_go hj hne
    refine ⟨⟨r0.fits, nle (Nat.le_refl _), by omega, by omega⟩, fun cap8 ys9 e8 => ?_⟩
    have r1 := r0.next (zs := [0]) (m := 1) rfl e8
    refine ⟨(j + 1, ys9, cap8), ⟨?_, by simp only; omega⟩, ?_, by simp only; omega⟩
    · have : xs ++ 128 :: List.replicate j 0 ++ [0] = xs ++ 128 :: List.replicate (j + 1) (0 : Int) := by
        rw [List.append_assoc, List.cons_append, List.replicate_succ' (n := j)]
      rw [this] at r1
      exact r1
    · repeat' apply And.intro
      all_goals first | trivial | rfl | omega
  have h56 : (l + 1 + j) % 64 = 56 := by
    rw [e7] at h
    simp only [bne_eq_false_iff_eq] at h
    omega
  have hjp := pad_stop hj h56
  have hps := pad_sum l
  rintro x11 rfl x12 rfl x13 hx13
  rw [shl3 (by omega)] at hx13
  rintro x14 rfl x15 rfl
  refine ⟨⟨r0.fits, nle (Nat.le_refl _), by omega, by omega⟩, fun cap16 ys17 e16 => ?_⟩
  have r1 := r0.next (zs := [b64 x13 56]) (m := 1) rfl e16
  clear r0
  rintro x18 rfl x19 rfl
  refine ⟨⟨r1.fits, nle (Nat.le_refl _), by omega, by omega⟩, fun cap20 ys21 e20 => ?_⟩
  have r2 := r1.next (zs := [b64 x13 48]) (m := 1) rfl e20
  clear r1
  rintro x22 rfl x23 rfl
  refine ⟨⟨r2.fits, nle (Nat.le_refl _), by omega, by omega⟩, fun cap24 ys25 e24 => ?_⟩
  have r3 := r2.next (zs := [b64 x13 40]) (m := 1) rfl e24
  clear r2
  rintro x26 rfl x27 rfl
  refine ⟨⟨r3.fits, nle (Nat.le_refl _), by omega, by omega⟩, fun cap28 ys29 e28 => ?_⟩
  have r4 := r3.next (zs := [b64 x13 32]) (m := 1) rfl e28
  clear r3
  rintro x30 rfl x31 rfl
  refine ⟨⟨r4.fits, nle (Nat.le_refl _), by omega, by omega⟩, fun cap32 ys33 e32 => ?_⟩
  have r5 := r4.next (zs := [b64 x13 24]) (m := 1) rfl e32
  clear r4
  rintro x34 rfl x35 rfl
  refine ⟨⟨r5.fits, nle (Nat.le_refl _), by omega, by omega⟩, fun cap36 ys37 e36 => ?_⟩
  have r6 := r5.next (zs := [b64 x13 16]) (m := 1) rfl e36
  clear r5
  rintro x38 rfl x39 rfl
  refine ⟨⟨r6.fits, nle (Nat.le_refl _), by omega, by omega⟩, fun cap40 ys41 e40 => ?_⟩
  have r7 := r6.next (zs := [b64 x13 8]) (m := 1) rfl e40
  clear r6
  rintro x42 rfl x43 rfl
  refine ⟨⟨r7.fits, nle (Nat.le_refl _), by omega, by omega⟩, fun cap44 ys45 e44 => ?_⟩
  have r8 := r7.next (zs := [b64 x13 0]) (m := 1) rfl e44
  clear r7
  have hm : xs ++ 128 :: List.replicate j 0 ++ [b64 x13 56] ++ [b64 x13 48] ++ [b64 x13 40] ++ [b64 x13 32] ++ [b64 x13 24] ++ [b64 x13 16] ++ [b64 x13 8] ++ [b64 x13 0] = xs ++ padding xs.length := by
    rw [hl]
    unfold padding
    rw [← hjp, Nat.add_sub_cancel, ← hx13]
    simp only [List.append_assoc, List.cons_append, List.nil_append]
    rfl
  rw [hm] at r8
  have hml := r8.xl
  have hpb : Bytes (xs ++ padding xs.length) := hb.append (padding_bytes _)
  clear hm e7 hx7 h hj hx13 e16 e20 e24 e28 e32 e36 e40 e44
  generalize hmm : xs ++ padding xs.length = m at *
  have hsha : sha xs = out32 (hB S0 m (m.length / 64)) := by
    unfold sha
    rw [hmm]
    congr 2
    rw [hml, hl]
    congr 1
    omega
  refine ⟨⟨(0 : Nat), by omega, ?_⟩, ?_⟩
  · repeat' apply And.intro
    all_goals first | trivial | rfl
  intro (k : Nat) (hk : 64 * k ≤ m.length) x48 hx48
  refine ⟨fun hlt => ?_, fun hlt => ?_⟩
  · simp only [decide_eq_true_eq] at hlt
    have hk2 : 64 * k + 64 ≤ m.length := by omega
    rintro x49 rfl x50 rfl x51 rfl x52 rfl x53 rfl x54 rfl x55 rfl x56 rfl x57 hx57
    rw [wrap64 (by omega) (by omega)] at hx57
    have e1 : x57.toNat = 64 * k + 64 := by omega
    have e2 : Int.toNat ((64 * k : Nat) : Int) = 64 * k := Int.toNat_natCast _
    have hcl := r8.le
    have hcn := r8.len
    rw [e1, e2, if_neg (by omega)]
    simp only [Nat.add_sub_cancel_left, Nat.mul_one]
    have eb : List.take 64 (List.drop (64 * k) ys45) = blk m k := by
      unfold blk
      rw [← r8.row, List.drop_take, List.take_take, Nat.min_eq_left (by omega)]
    rw [eb]
    refine ⟨⟨⟨by omega, by omega⟩, by omega, by omega⟩, by omega, ⟨Nat.le_refl _, by unfold blk; simp; omega, bytes_blk hpb k⟩, ?_⟩
    rintro H58 hH x59 hx59
    rw [wrap64 (by omega) (by omega)] at hx59
    have hH' : H58 = hB S0 m (k + 1) := hH
    refine ⟨(k + 1 : Nat), by omega, ?_, by omega⟩
    rw [← hH']
    repeat' apply And.intro
    all_goals first | trivial | rfl | omega
  simp only [decide_eq_false_iff_not] at hlt
  have hke : k = m.length / 64 := by omega
  rw [← hke] at hsha
  generalize hB S0 m k = H at *
  obtain ⟨a, b, c', d, e, f, g, h⟩ := H
  dsimp only
  rintro x61 rfl x62 rfl x63 rfl x64 rfl x65 rfl x66 rfl x67 rfl
  refine ⟨⟨by omega, nle (Nat.le_refl _), by omega, by omega⟩, fun cap68 ys69 e68 => ?_⟩
  have q1 := Rw.first (n := 4) (xs := out4 a) rfl e68
  rintro x70 rfl x71 rfl x72 rfl x73 rfl x74 rfl x75 rfl x76 rfl
  refine ⟨⟨q1.fits, nle (Nat.le_refl _), by omega, by omega⟩, fun cap77 ys78 e77 => ?_⟩
  have q2 := q1.next (zs := out4 b) (m := 4) rfl e77
  rintro x79 rfl x80 rfl x81 rfl x82 rfl x83 rfl x84 rfl x85 rfl
  refine ⟨⟨q2.fits, nle (Nat.le_refl _), by omega, by omega⟩, fun cap86 ys87 e86 => ?_⟩
  have q3 := q2.next (zs := out4 c') (m := 4) rfl e86
  rintro x88 rfl x89 rfl x90 rfl x91 rfl x92 rfl x93 rfl x94 rfl
  refine ⟨⟨q3.fits, nle (Nat.le_refl _), by omega, by omega⟩, fun cap95 ys96 e95 => ?_⟩
  have q4 := q3.next (zs := out4 d) (m := 4) rfl e95
  rintro x97 rfl x98 rfl x99 rfl x100 rfl x101 rfl x102 rfl x103 rfl
  refine ⟨⟨q4.fits, nle (Nat.le_refl _), by omega, by omega⟩, fun cap104 ys105 e104 => ?_⟩
  have q5 := q4.next (zs := out4 e) (m := 4) rfl e104
  rintro x106 rfl x107 rfl x108 rfl x109 rfl x110 rfl x111 rfl x112 rfl
  refine ⟨⟨q5.fits, nle (Nat.le_refl _), by omega, by omega⟩, fun cap113 ys114 e113 => ?_⟩
  have q6 := q5.next (zs := out4 f) (m := 4) rfl e113
  rintro x115 rfl x116 rfl x117 rfl x118 rfl x119 rfl x120 rfl x121 rfl
  refine ⟨⟨q6.fits, nle (Nat.le_refl _), by omega, by omega⟩, fun cap122 ys123 e122 => ?_⟩
  have q7 := q6.next (zs := out4 g) (m := 4) rfl e122
  rintro x124 rfl x125 rfl x126 rfl x127 rfl x128 rfl x129 rfl x130 rfl
  refine ⟨⟨q7.fits, nle (Nat.le_refl _), by omega, by omega⟩, fun cap131 ys132 e131 => ?_⟩
  have q8 := q7.next (zs := out4 h) (m := 4) rfl e131
  have hq : out4 a ++ out4 b ++ out4 c' ++ out4 d ++ out4 e ++ out4 f ++ out4 g ++ out4 h = sha xs := hsha.symm
  rw [hq] at q8
  exact hup.le (memL_sub [1, 1513, 1577, 1833, 2057, 2281, 2505, 2729, 2953, 3177, 3401, 3409] rfl (by decide) (by
    intro x hx
    simp only [List.mem_cons, List.not_mem_nil, or_false] at hx ⊢
    rcases hx with hx | hx
    · exact .inl hx
    · iterate 11 (apply Or.inr)
      exact hx)) (hK _ _ q8)
end Go.Sx

/- The contract of spec.Sum. -/
namespace Go.Sx
open Go Go.Proofs
set_option maxRecDepth 100000
def gSS : G0 := fun args l K =>
  match args, l with
  | [.slice 1 (.lit 0) (.sym n) (.sym _)], [(1, ⟨true, .ints .u8 xs⟩)] =>
    (xs.length = n ∧ n ≤ 2 ^ 38 ∧ Bytes xs) ∧ ∀ ys cap, Rw ys (sha xs) 32 cap → K (.slice 3409 (.lit 0) (.lit 32) (.sym cap)) (memL [(1, ⟨true, .ints .u8 xs⟩), (3409, ⟨false, .ints .u8 ys⟩)])
  | _, _ => False
theorem ss_good : Good gSS := by
  constructor
  · intro args l K K' hk h
    unfold gSS at h ⊢
    split at h
    · exact ⟨h.1, fun ys cap hy => hk _ _ (h.2 ys cap hy)⟩
    · exact h.elim
  · intro args l K h
    unfold gSS at h
    split at h
    · exact ⟨_, _, h.2 _ _ (Rw.self _)⟩
    · exact h.elim
theorem ss_ok (args : List SV) (l : List (Nat × Reg)) (K : SV → Mem → Prop) (hup : KUp K) (h : gSS args l K) : ∃ U, execF cxSS U Tryd.f15 64 args (memL l) K := by
  unfold gSS at h
  split at h
  · rename_i n c xs
    exact ⟨uSS xs n, ss_walk xs n c K h.1.1 h.1.2.1 h.1.2.2 hup h.2⟩
  · exact h.elim
def cSS : Ef Tryd.prog := mkE mixed 15 Tryd.func15 (by decide) (by kernel_rfl) [] [.sl 1 true] gSS ss_good ss_ok
end Go.Sx

/- The loops of spec.Expand. -/
namespace Go.Sx
open Go Go.Proofs
def cxSE : Cx Tryd.prog := { rds := [], efs := [cJoin, cSS], eqs := [] }
def liSE0 (first D : List Int) (n : Int) : LI where
  ι := Nat × (List Int × Nat) × (List Int × Nat)
  keep := [2, 7, 8]
  keepR := [577, 681]
  F := fun i => ⟨[(9, .slice 737 (.lit 0) (.sym (32 * i.1)) (.sym i.2.1.2)), (10, .slice 739 (.lit 0) (.lit 32) (.sym i.2.2.2)), (11, .int .i64 (.sym ((i.1 : Nat) + 1)))],
    [(737, ⟨false, .ints .u8 i.2.1.1⟩), (739, ⟨false, .ints .u8 i.2.2.1⟩)]⟩
  I := fun _ i => Rw i.2.1.1 (outN first D i.1) (32 * i.1) i.2.1.2 ∧ Rw i.2.2.1 (bI first D i.1) 32 i.2.2.2 ∧ 32 * (i.1 : Int) < n + 32
  μ := fun i => n.toNat + 32 - 32 * i.1
  k := 1
def liSE2 : LI where
  ι := Nat × List Int × Nat
  keep := [2, 7, 8, 9, 10, 11]
  keepR := [577, 681, 737, 739]
  F := fun i => ⟨[(12, .slice 801 (.lit 0) (.sym i.1) (.sym i.2.2)), (13, i64n i.1)], [(801, ⟨false, .ints .u8 i.2.1⟩)]⟩
  I := fun st i => Rw i.2.1 ((xorL (st.reg 681) (st.reg 739)).take i.1) i.1 i.2.2 ∧ i.1 ≤ 32
  μ := fun i => 32 - i.1
  k := 1
def uSE (msg dst : List Int) (n : Int) : Nat → Lp := fun b =>
  match b with
  | 0 => .inv (liSE0 (firstL msg dst n) (domL dst) n)
  | 2 => .inv liSE2
  | _ => .un 0
end Go.Sx

/- spec.Expand: its condition. -/
namespace Go.Sx
open Go Go.Proofs
set_option maxRecDepth 100000
theorem vc_se (msg dst : List Int) (l c l2 c2 : Nat) (n : Int) (K : SV → Mem → Prop) : (execF cxSE (uSE msg dst n) Tryd.f9 64 [.slice 1 (.lit 0) (.sym l) (.sym c), .slice 9 (.lit 0) (.sym l2) (.sym c2), .int .i64 (.sym n)] (memL [(1, ⟨true, .ints .u8 msg⟩), (9, ⟨true, .ints .u8 dst⟩)]) K) =
  ((((((0 : Nat) ≤ (0 : Nat)) ∧
 ((0 : Nat) ≤ (0 : Nat))) ∧
 ((Nat.le ((0 : Nat) + (l2 * (1 : Nat))) (List.length dst)) ∧
 (((((0 : Nat) + l2) * (1 : Nat)) ≤ (549755813888 : Nat)) ∧
 (((0 : Nat) + l2) ≤ (549755813888 : Nat))))) ∧
 (∀ (cap0 : Nat), (∀ (ys1 : (List Int)), (((((0 : Nat) + l2) ≤ cap0) ∧
 (((List.length ys1) = (cap0 * (1 : Nat))) ∧
 ((List.take (((0 : Nat) + l2) * (1 : Nat)) ys1) = ((List.take (0 : Nat) (List.drop (0 : Nat) [])) ++ (List.take (l2 * (1 : Nat)) (List.drop (0 : Nat) dst)))))) → (∀ (x2 : Int), ((x2 = ((l2 : Nat) : Int)) → (∀ (x3 : Int), ((x3 = (Go.IntKind.wrap Go.IntKind.u8 x2)) → ((((l2 ≤ cap0) ∧
 (((0 : Nat) + (cap0 * (1 : Nat))) ≤ (List.length ys1))) ∧
 ((Nat.le (1 : Nat) (List.length [x3])) ∧
 ((((l2 + (1 : Nat)) * (1 : Nat)) ≤ (549755813888 : Nat)) ∧
 ((l2 + (1 : Nat)) ≤ (549755813888 : Nat))))) ∧
 (∀ (cap4 : Nat), (∀ (ys5 : (List Int)), ((((l2 + (1 : Nat)) ≤ cap4) ∧
 (((List.length ys5) = (cap4 * (1 : Nat))) ∧
 ((List.take ((l2 + (1 : Nat)) * (1 : Nat)) ys5) = ((List.take (l2 * (1 : Nat)) (List.drop (0 : Nat) ys1)) ++ (List.take (1 : Nat) (List.drop (0 : Nat) [x3])))))) → ((((0 : Int) ≤ (64 : Int)) ∧
 (((64 : Int) ≤ (140737488355328 : Int)) ∧
 ((64 : Int) ≤ (140737488355328 : Int)))) ∧
 (∀ (x6 : Int), ((x6 = (Go.IntKind.wrap Go.IntKind.i64 (Int.tdiv n (256 : Int)))) → (∀ (x7 : Int), ((x7 = (Go.IntKind.wrap Go.IntKind.u8 x6)) → (∀ (x8 : Int), ((x8 = (Go.IntKind.wrap Go.IntKind.u8 n)) → ((((64 : Nat) ≤ (64 : Nat)) ∧
 ((((0 : Nat) + (l * (1 : Nat))) ≤ (List.length msg)) ∧
 (((3 : Nat) ≤ (List.length [x7, x8, (0 : Int)])) ∧
 (((0 : Nat) + ((l2 + (1 : Nat)) * (1 : Nat))) ≤ (List.length ys5))))) ∧
 (((((64 : Nat) = (64 : Nat)) ∧
 (((List.length (List.take (l * (1 : Nat)) (List.drop (0 : Nat) msg))) = l) ∧
 (((List.length (List.take (3 : Nat) (List.drop (0 : Nat) [x7, x8, (0 : Int)]))) = (3 : Nat)) ∧
 ((List.length (List.take ((l2 + (1 : Nat)) * (1 : Nat)) (List.drop (0 : Nat) ys5))) = (l2 + (1 : Nat)))))) ∧
 (((((64 : Nat) + l) + (3 : Nat)) + (l2 + (1 : Nat))) ≤ (549755813888 : Nat))) ∧
 (∀ (ys9 : (List Int)), (∀ (cap10 : Nat), (∀ (n11 : Nat), ((Go.Sx.Rw ys9 ((((List.take (64 : Nat) (List.drop (0 : Nat) (List.replicate (64 : Nat) (0 : Int)))) ++ (List.take (l * (1 : Nat)) (List.drop (0 : Nat) msg))) ++ (List.take (3 : Nat) (List.drop (0 : Nat) [x7, x8, (0 : Int)]))) ++ (List.take ((l2 + (1 : Nat)) * (1 : Nat)) (List.drop (0 : Nat) ys5))) n11 cap10) → (∀ (ys12 : (List Int)), ((ys12 = ys9) → ((((0 : Nat) + (n11 * (1 : Nat))) ≤ (List.length ys12)) ∧
 ((((List.length (List.take (n11 * (1 : Nat)) (List.drop (0 : Nat) ys12))) = n11) ∧
 ((n11 ≤ (274877906944 : Nat)) ∧
 (Go.Sx.Bytes (List.take (n11 * (1 : Nat)) (List.drop (0 : Nat) ys12))))) ∧
 (∀ (ys13 : (List Int)), (∀ (cap14 : Nat), ((Go.Sx.Rw ys13 (Go.Sx.sha (List.take (n11 * (1 : Nat)) (List.drop (0 : Nat) ys12))) (32 : Nat) cap14) → (∀ (ys15 : (List Int)), ((ys15 = ys13) → ((((0 : Int) ≤ (32 : Int)) ∧
 (((32 : Int) ≤ (140737488355328 : Int)) ∧
 ((32 : Int) ≤ (140737488355328 : Int)))) ∧
 ((∃ (i016 : (Prod Nat (Prod (Prod (List Int) Nat) (Prod (List Int) Nat)))), (((Go.Sx.Rw (Prod.fst (Prod.fst (Prod.snd i016))) (Go.Sx.outN (Go.Sx.firstL msg dst n) (Go.Sx.domL dst) (Prod.fst i016)) ((32 : Nat) * (Prod.fst i016)) (Prod.snd (Prod.fst (Prod.snd i016)))) ∧
 ((Go.Sx.Rw (Prod.fst (Prod.snd (Prod.snd i016))) (Go.Sx.bI (Go.Sx.firstL msg dst n) (Go.Sx.domL dst) (Prod.fst i016)) (32 : Nat) (Prod.snd (Prod.snd (Prod.snd i016)))) ∧
 (((32 : Int) * (((Prod.fst i016) : Nat) : Int)) < (n + (32 : Int))))) ∧
 (((n = n) ∧
 ((((l2 + (1 : Nat)) = (l2 + (1 : Nat))) ∧
 (cap4 = cap4)) ∧
 ((cap14 = cap14) ∧
 ((((0 : Nat) = ((32 : Nat) * (Prod.fst i016))) ∧
 ((0 : Nat) = (Prod.snd (Prod.fst (Prod.snd i016))))) ∧
 (((32 : Nat) = (Prod.snd (Prod.snd (Prod.snd i016)))) ∧
 ((1 : Int) = ((((Prod.fst i016) : Nat) : Int) + (1 : Int)))))))) ∧
 ((ys5 = ys5) ∧
 ((ys15 = ys15) ∧
 (([] = (Prod.fst (Prod.fst (Prod.snd i016)))) ∧
 ((List.replicate (32 : Nat) (0 : Int)) = (Prod.fst (Prod.snd (Prod.snd i016)))))))))) ∧
 (∀ (i17 : (Prod Nat (Prod (Prod (List Int) Nat) (Prod (List Int) Nat)))), (((Go.Sx.Rw (Prod.fst (Prod.fst (Prod.snd i17))) (Go.Sx.outN (Go.Sx.firstL msg dst n) (Go.Sx.domL dst) (Prod.fst i17)) ((32 : Nat) * (Prod.fst i17)) (Prod.snd (Prod.fst (Prod.snd i17)))) ∧
 ((Go.Sx.Rw (Prod.fst (Prod.snd (Prod.snd i17))) (Go.Sx.bI (Go.Sx.firstL msg dst n) (Go.Sx.domL dst) (Prod.fst i17)) (32 : Nat) (Prod.snd (Prod.snd (Prod.snd i17)))) ∧
 (((32 : Int) * (((Prod.fst i17) : Nat) : Int)) < (n + (32 : Int))))) → (∀ (x18 : Int), ((x18 = ((((32 : Nat) * (Prod.fst i17)) : Nat) : Int)) → ((((decide (x18 < n)) = Bool.true) → ((∃ (i019 : (Prod Nat (Prod (List Int) Nat))), (((Go.Sx.Rw (Prod.fst (Prod.snd i019)) (List.take (Prod.fst i019) (Go.Sx.xorL ys15 (Prod.fst (Prod.snd (Prod.snd i17))))) (Prod.fst i019) (Prod.snd (Prod.snd i019))) ∧
 ((Prod.fst i019) ≤ (32 : Nat))) ∧
 (((n = n) ∧
 ((((l2 + (1 : Nat)) = (l2 + (1 : Nat))) ∧
 (cap4 = cap4)) ∧
 ((cap14 = cap14) ∧
 (((((32 : Nat) * (Prod.fst i17)) = ((32 : Nat) * (Prod.fst i17))) ∧
 ((Prod.snd (Prod.fst (Prod.snd i17))) = (Prod.snd (Prod.fst (Prod.snd i17))))) ∧
 (((Prod.snd (Prod.snd (Prod.snd i17))) = (Prod.snd (Prod.snd (Prod.snd i17)))) ∧
 ((((((Prod.fst i17) : Nat) : Int) + (1 : Int)) = ((((Prod.fst i17) : Nat) : Int) + (1 : Int))) ∧
 ((((0 : Nat) = (Prod.fst i019)) ∧
 ((0 : Nat) = (Prod.snd (Prod.snd i019)))) ∧
 ((0 : Int) = (((Prod.fst i019) : Nat) : Int))))))))) ∧
 ((ys5 = ys5) ∧
 ((ys15 = ys15) ∧
 (((Prod.fst (Prod.fst (Prod.snd i17))) = (Prod.fst (Prod.fst (Prod.snd i17)))) ∧
 (((Prod.fst (Prod.snd (Prod.snd i17))) = (Prod.fst (Prod.snd (Prod.snd i17)))) ∧
 ([] = (Prod.fst (Prod.snd i019)))))))))) ∧
 (∀ (i20 : (Prod Nat (Prod (List Int) Nat))), (((Go.Sx.Rw (Prod.fst (Prod.snd i20)) (List.take (Prod.fst i20) (Go.Sx.xorL ys15 (Prod.fst (Prod.snd (Prod.snd i17))))) (Prod.fst i20) (Prod.snd (Prod.snd i20))) ∧
 ((Prod.fst i20) ≤ (32 : Nat))) → ((((decide ((((Prod.fst i20) : Nat) : Int) < (32 : Int))) = Bool.true) → ((((0 : Int) ≤ (((Prod.fst i20) : Nat) : Int)) ∧
 ((((Prod.fst i20) : Nat) : Int) < (32 : Int))) ∧
 (((((Int.toNat (((Prod.fst i20) : Nat) : Int)) * (1 : Nat)) + (1 : Nat)) ≤ (List.length ys15)) ∧
 (∀ (x21 : Int), ((x21 = (List.getD ys15 ((Int.toNat (((Prod.fst i20) : Nat) : Int)) * (1 : Nat)) (0 : Int))) → ((((0 : Int) ≤ (((Prod.fst i20) : Nat) : Int)) ∧
 ((((Prod.fst i20) : Nat) : Int) < (32 : Int))) ∧
 (((((Int.toNat (((Prod.fst i20) : Nat) : Int)) * (1 : Nat)) + (1 : Nat)) ≤ (List.length (Prod.fst (Prod.snd (Prod.snd i17))))) ∧
 (∀ (x22 : Int), ((x22 = (List.getD (Prod.fst (Prod.snd (Prod.snd i17))) ((Int.toNat (((Prod.fst i20) : Nat) : Int)) * (1 : Nat)) (0 : Int))) → (∀ (x23 : Int), ((x23 = (Go.Sx.bxor Go.IntKind.u8 x21 x22)) → (((((Prod.fst i20) ≤ (Prod.snd (Prod.snd i20))) ∧
 (((0 : Nat) + ((Prod.snd (Prod.snd i20)) * (1 : Nat))) ≤ (List.length (Prod.fst (Prod.snd i20))))) ∧
 ((Nat.le (1 : Nat) (List.length [x23])) ∧
 (((((Prod.fst i20) + (1 : Nat)) * (1 : Nat)) ≤ (549755813888 : Nat)) ∧
 (((Prod.fst i20) + (1 : Nat)) ≤ (549755813888 : Nat))))) ∧
 (∀ (cap24 : Nat), (∀ (ys25 : (List Int)), (((((Prod.fst i20) + (1 : Nat)) ≤ cap24) ∧
 (((List.length ys25) = (cap24 * (1 : Nat))) ∧
 ((List.take (((Prod.fst i20) + (1 : Nat)) * (1 : Nat)) ys25) = ((List.take ((Prod.fst i20) * (1 : Nat)) (List.drop (0 : Nat) (Prod.fst (Prod.snd i20)))) ++ (List.take (1 : Nat) (List.drop (0 : Nat) [x23])))))) → (∀ (x26 : Int), ((x26 = (Go.IntKind.wrap Go.IntKind.i64 ((((Prod.fst i20) : Nat) : Int) + (1 : Int)))) → (∃ (x27 : (Prod Nat (Prod (List Int) Nat))), (((Go.Sx.Rw (Prod.fst (Prod.snd x27)) (List.take (Prod.fst x27) (Go.Sx.xorL ys15 (Prod.fst (Prod.snd (Prod.snd i17))))) (Prod.fst x27) (Prod.snd (Prod.snd x27))) ∧
 ((Prod.fst x27) ≤ (32 : Nat))) ∧
 ((((n = n) ∧
 ((((l2 + (1 : Nat)) = (l2 + (1 : Nat))) ∧
 (cap4 = cap4)) ∧
 ((cap14 = cap14) ∧
 (((((32 : Nat) * (Prod.fst i17)) = ((32 : Nat) * (Prod.fst i17))) ∧
 ((Prod.snd (Prod.fst (Prod.snd i17))) = (Prod.snd (Prod.fst (Prod.snd i17))))) ∧
 (((Prod.snd (Prod.snd (Prod.snd i17))) = (Prod.snd (Prod.snd (Prod.snd i17)))) ∧
 ((((((Prod.fst i17) : Nat) : Int) + (1 : Int)) = ((((Prod.fst i17) : Nat) : Int) + (1 : Int))) ∧
 (((((Prod.fst i20) + (1 : Nat)) = (Prod.fst x27)) ∧
 (cap24 = (Prod.snd (Prod.snd x27)))) ∧
 (x26 = (((Prod.fst x27) : Nat) : Int))))))))) ∧
 ((ys5 = ys5) ∧
 ((ys15 = ys15) ∧
 (((Prod.fst (Prod.fst (Prod.snd i17))) = (Prod.fst (Prod.fst (Prod.snd i17)))) ∧
 (((Prod.fst (Prod.snd (Prod.snd i17))) = (Prod.fst (Prod.snd (Prod.snd i17)))) ∧
 (ys25 = (Prod.fst (Prod.snd x27)))))))) ∧
 (((32 : Nat) - (Prod.fst x27)) < ((32 : Nat) - (Prod.fst i20))))))))))))))))))))))) ∧
 (((decide ((((Prod.fst i20) : Nat) : Int) < (32 : Int))) = Bool.false) → (∀ (x28 : Int), ((x28 = (Go.IntKind.wrap Go.IntKind.u8 ((((Prod.fst i17) : Nat) : Int) + (1 : Int)))) → (((((0 : Nat) + ((Prod.fst i20) * (1 : Nat))) ≤ (List.length (Prod.fst (Prod.snd i20)))) ∧
 (((1 : Nat) ≤ (List.length [x28])) ∧
 (((0 : Nat) + ((l2 + (1 : Nat)) * (1 : Nat))) ≤ (List.length ys5)))) ∧
 (((((List.length (List.take ((Prod.fst i20) * (1 : Nat)) (List.drop (0 : Nat) (Prod.fst (Prod.snd i20))))) = (Prod.fst i20)) ∧
 (((List.length (List.take (1 : Nat) (List.drop (0 : Nat) [x28]))) = (1 : Nat)) ∧
 ((List.length (List.take ((l2 + (1 : Nat)) * (1 : Nat)) (List.drop (0 : Nat) ys5))) = (l2 + (1 : Nat))))) ∧
 ((((Prod.fst i20) + (1 : Nat)) + (l2 + (1 : Nat))) ≤ (549755813888 : Nat))) ∧
 (∀ (ys29 : (List Int)), (∀ (cap30 : Nat), (∀ (n31 : Nat), ((Go.Sx.Rw ys29 (((List.take ((Prod.fst i20) * (1 : Nat)) (List.drop (0 : Nat) (Prod.fst (Prod.snd i20)))) ++ (List.take (1 : Nat) (List.drop (0 : Nat) [x28]))) ++ (List.take ((l2 + (1 : Nat)) * (1 : Nat)) (List.drop (0 : Nat) ys5))) n31 cap30) → (∀ (ys32 : (List Int)), ((ys32 = ys29) → ((((0 : Nat) + (n31 * (1 : Nat))) ≤ (List.length ys32)) ∧
 ((((List.length (List.take (n31 * (1 : Nat)) (List.drop (0 : Nat) ys32))) = n31) ∧
 ((n31 ≤ (274877906944 : Nat)) ∧
 (Go.Sx.Bytes (List.take (n31 * (1 : Nat)) (List.drop (0 : Nat) ys32))))) ∧
 (∀ (ys33 : (List Int)), (∀ (cap34 : Nat), ((Go.Sx.Rw ys33 (Go.Sx.sha (List.take (n31 * (1 : Nat)) (List.drop (0 : Nat) ys32))) (32 : Nat) cap34) → (∀ (ys35 : (List Int)), ((ys35 = ys33) → ((((((32 : Nat) * (Prod.fst i17)) ≤ (Prod.snd (Prod.fst (Prod.snd i17)))) ∧
 (((0 : Nat) + ((Prod.snd (Prod.fst (Prod.snd i17))) * (1 : Nat))) ≤ (List.length (Prod.fst (Prod.fst (Prod.snd i17)))))) ∧
 ((Nat.le (32 : Nat) (List.length ys35)) ∧
 ((((((32 : Nat) * (Prod.fst i17)) + (32 : Nat)) * (1 : Nat)) ≤ (549755813888 : Nat)) ∧
 ((((32 : Nat) * (Prod.fst i17)) + (32 : Nat)) ≤ (549755813888 : Nat))))) ∧
 (∀ (cap36 : Nat), (∀ (ys37 : (List Int)), ((((((32 : Nat) * (Prod.fst i17)) + (32 : Nat)) ≤ cap36) ∧
 (((List.length ys37) = (cap36 * (1 : Nat))) ∧
 ((List.take ((((32 : Nat) * (Prod.fst i17)) + (32 : Nat)) * (1 : Nat)) ys37) = ((List.take (((32 : Nat) * (Prod.fst i17)) * (1 : Nat)) (List.drop (0 : Nat) (Prod.fst (Prod.fst (Prod.snd i17))))) ++ (List.take (32 : Nat) (List.drop (0 : Nat) ys35)))))) → (∀ (x38 : Int), ((x38 = (Go.IntKind.wrap Go.IntKind.i64 (((((Prod.fst i17) : Nat) : Int) + (1 : Int)) + (1 : Int)))) → (∃ (x39 : (Prod Nat (Prod (Prod (List Int) Nat) (Prod (List Int) Nat)))), (((Go.Sx.Rw (Prod.fst (Prod.fst (Prod.snd x39))) (Go.Sx.outN (Go.Sx.firstL msg dst n) (Go.Sx.domL dst) (Prod.fst x39)) ((32 : Nat) * (Prod.fst x39)) (Prod.snd (Prod.fst (Prod.snd x39)))) ∧
 ((Go.Sx.Rw (Prod.fst (Prod.snd (Prod.snd x39))) (Go.Sx.bI (Go.Sx.firstL msg dst n) (Go.Sx.domL dst) (Prod.fst x39)) (32 : Nat) (Prod.snd (Prod.snd (Prod.snd x39)))) ∧
 (((32 : Int) * (((Prod.fst x39) : Nat) : Int)) < (n + (32 : Int))))) ∧
 ((((n = n) ∧
 ((((l2 + (1 : Nat)) = (l2 + (1 : Nat))) ∧
 (cap4 = cap4)) ∧
 ((cap14 = cap14) ∧
 ((((((32 : Nat) * (Prod.fst i17)) + (32 : Nat)) = ((32 : Nat) * (Prod.fst x39))) ∧
 (cap36 = (Prod.snd (Prod.fst (Prod.snd x39))))) ∧
 ((cap34 = (Prod.snd (Prod.snd (Prod.snd x39)))) ∧
 (x38 = ((((Prod.fst x39) : Nat) : Int) + (1 : Int)))))))) ∧
 ((ys5 = ys5) ∧
 ((ys15 = ys15) ∧
 ((ys37 = (Prod.fst (Prod.fst (Prod.snd x39)))) ∧
 (ys35 = (Prod.fst (Prod.snd (Prod.snd x39)))))))) ∧
 ((((Int.toNat n) + (32 : Nat)) - ((32 : Nat) * (Prod.fst x39))) < (((Int.toNat n) + (32 : Nat)) - ((32 : Nat) * (Prod.fst i17)))))))))))))))))))))))))))))))))))) ∧
 (((decide (x18 < n)) = Bool.false) → ((((0 : Int) ≤ n) ∧
 (n ≤ (((Prod.snd (Prod.fst (Prod.snd i17))) : Nat) : Int))) ∧
 (K (Go.Sx.SV.slice (737 : Nat) (Go.Sx.N.lit (0 : Nat)) (Go.Sx.N.sym ((Int.toNat n) - (0 : Nat))) (Go.Sx.N.sym ((Prod.snd (Prod.fst (Prod.snd i17))) - (0 : Nat)))) (Go.Sx.memL [((577 : Nat), (Go.Sx.Reg.mk Bool.false (Go.Sx.Ct.ints Go.IntKind.u8 ys5))), ((681 : Nat), (Go.Sx.Reg.mk Bool.false (Go.Sx.Ct.ints Go.IntKind.u8 ys15))), ((737 : Nat), (Go.Sx.Reg.mk Bool.false (Go.Sx.Ct.ints Go.IntKind.u8 (Prod.fst (Prod.fst (Prod.snd i17)))))), ((739 : Nat), (Go.Sx.Reg.mk Bool.false (Go.Sx.Ct.ints Go.IntKind.u8 (Prod.fst (Prod.snd (Prod.snd i17))))))])))))))))))))))))))))))))))))))))))))))))))))) := by kernel_rfl
theorem vc_sen (dst : List Int) (l2 c2 : Nat) (n : Int) (K : SV → Mem → Prop) : (execF cxSE (uSE [] dst n) Tryd.f9 64 [.val (.slice none 0 0), .slice 1 (.lit 0) (.sym l2) (.sym c2), .int .i64 (.sym n)] (memL [(1, ⟨true, .ints .u8 dst⟩)]) K) =
  ((((((0 : Nat) ≤ (0 : Nat)) ∧
 ((0 : Nat) ≤ (0 : Nat))) ∧
 ((Nat.le ((0 : Nat) + (l2 * (1 : Nat))) (List.length dst)) ∧
 (((((0 : Nat) + l2) * (1 : Nat)) ≤ (549755813888 : Nat)) ∧
 (((0 : Nat) + l2) ≤ (549755813888 : Nat))))) ∧
 (∀ (cap0 : Nat), (∀ (ys1 : (List Int)), (((((0 : Nat) + l2) ≤ cap0) ∧
 (((List.length ys1) = (cap0 * (1 : Nat))) ∧
 ((List.take (((0 : Nat) + l2) * (1 : Nat)) ys1) = ((List.take (0 : Nat) (List.drop (0 : Nat) [])) ++ (List.take (l2 * (1 : Nat)) (List.drop (0 : Nat) dst)))))) → (∀ (x2 : Int), ((x2 = ((l2 : Nat) : Int)) → (∀ (x3 : Int), ((x3 = (Go.IntKind.wrap Go.IntKind.u8 x2)) → ((((l2 ≤ cap0) ∧
 (((0 : Nat) + (cap0 * (1 : Nat))) ≤ (List.length ys1))) ∧
 ((Nat.le (1 : Nat) (List.length [x3])) ∧
 ((((l2 + (1 : Nat)) * (1 : Nat)) ≤ (549755813888 : Nat)) ∧
 ((l2 + (1 : Nat)) ≤ (549755813888 : Nat))))) ∧
 (∀ (cap4 : Nat), (∀ (ys5 : (List Int)), ((((l2 + (1 : Nat)) ≤ cap4) ∧
 (((List.length ys5) = (cap4 * (1 : Nat))) ∧
 ((List.take ((l2 + (1 : Nat)) * (1 : Nat)) ys5) = ((List.take (l2 * (1 : Nat)) (List.drop (0 : Nat) ys1)) ++ (List.take (1 : Nat) (List.drop (0 : Nat) [x3])))))) → ((((0 : Int) ≤ (64 : Int)) ∧
 (((64 : Int) ≤ (140737488355328 : Int)) ∧
 ((64 : Int) ≤ (140737488355328 : Int)))) ∧
 (∀ (x6 : Int), ((x6 = (Go.IntKind.wrap Go.IntKind.i64 (Int.tdiv n (256 : Int)))) → (∀ (x7 : Int), ((x7 = (Go.IntKind.wrap Go.IntKind.u8 x6)) → (∀ (x8 : Int), ((x8 = (Go.IntKind.wrap Go.IntKind.u8 n)) → ((((64 : Nat) ≤ (64 : Nat)) ∧
 (((3 : Nat) ≤ (List.length [x7, x8, (0 : Int)])) ∧
 (((0 : Nat) + ((l2 + (1 : Nat)) * (1 : Nat))) ≤ (List.length ys5)))) ∧
 (((((64 : Nat) = (64 : Nat)) ∧
 (((List.length (List.take (3 : Nat) (List.drop (0 : Nat) [x7, x8, (0 : Int)]))) = (3 : Nat)) ∧
 ((List.length (List.take ((l2 + (1 : Nat)) * (1 : Nat)) (List.drop (0 : Nat) ys5))) = (l2 + (1 : Nat))))) ∧
 (((67 : Nat) + (l2 + (1 : Nat))) ≤ (549755813888 : Nat))) ∧
 (∀ (ys9 : (List Int)), (∀ (cap10 : Nat), (∀ (n11 : Nat), ((Go.Sx.Rw ys9 (((List.take (64 : Nat) (List.drop (0 : Nat) (List.replicate (64 : Nat) (0 : Int)))) ++ (List.take (3 : Nat) (List.drop (0 : Nat) [x7, x8, (0 : Int)]))) ++ (List.take ((l2 + (1 : Nat)) * (1 : Nat)) (List.drop (0 : Nat) ys5))) n11 cap10) → (∀ (ys12 : (List Int)), ((ys12 = ys9) → ((((0 : Nat) + (n11 * (1 : Nat))) ≤ (List.length ys12)) ∧
 ((((List.length (List.take (n11 * (1 : Nat)) (List.drop (0 : Nat) ys12))) = n11) ∧
 ((n11 ≤ (274877906944 : Nat)) ∧
 (Go.Sx.Bytes (List.take (n11 * (1 : Nat)) (List.drop (0 : Nat) ys12))))) ∧
 (∀ (ys13 : (List Int)), (∀ (cap14 : Nat), ((Go.Sx.Rw ys13 (Go.Sx.sha (List.take (n11 * (1 : Nat)) (List.drop (0 : Nat) ys12))) (32 : Nat) cap14) → (∀ (ys15 : (List Int)), ((ys15 = ys13) → ((((0 : Int) ≤ (32 : Int)) ∧
 (((32 : Int) ≤ (140737488355328 : Int)) ∧
 ((32 : Int) ≤ (140737488355328 : Int)))) ∧
 ((∃ (i016 : (Prod Nat (Prod (Prod (List Int) Nat) (Prod (List Int) Nat)))), (((Go.Sx.Rw (Prod.fst (Prod.fst (Prod.snd i016))) (Go.Sx.outN (Go.Sx.firstL [] dst n) (Go.Sx.domL dst) (Prod.fst i016)) ((32 : Nat) * (Prod.fst i016)) (Prod.snd (Prod.fst (Prod.snd i016)))) ∧
 ((Go.Sx.Rw (Prod.fst (Prod.snd (Prod.snd i016))) (Go.Sx.bI (Go.Sx.firstL [] dst n) (Go.Sx.domL dst) (Prod.fst i016)) (32 : Nat) (Prod.snd (Prod.snd (Prod.snd i016)))) ∧
 (((32 : Int) * (((Prod.fst i016) : Nat) : Int)) < (n + (32 : Int))))) ∧
 (((n = n) ∧
 ((((l2 + (1 : Nat)) = (l2 + (1 : Nat))) ∧
 (cap4 = cap4)) ∧
 ((cap14 = cap14) ∧
 ((((0 : Nat) = ((32 : Nat) * (Prod.fst i016))) ∧
 ((0 : Nat) = (Prod.snd (Prod.fst (Prod.snd i016))))) ∧
 (((32 : Nat) = (Prod.snd (Prod.snd (Prod.snd i016)))) ∧
 ((1 : Int) = ((((Prod.fst i016) : Nat) : Int) + (1 : Int)))))))) ∧
 ((ys5 = ys5) ∧
 ((ys15 = ys15) ∧
 (([] = (Prod.fst (Prod.fst (Prod.snd i016)))) ∧
 ((List.replicate (32 : Nat) (0 : Int)) = (Prod.fst (Prod.snd (Prod.snd i016)))))))))) ∧
 (∀ (i17 : (Prod Nat (Prod (Prod (List Int) Nat) (Prod (List Int) Nat)))), (((Go.Sx.Rw (Prod.fst (Prod.fst (Prod.snd i17))) (Go.Sx.outN (Go.Sx.firstL [] dst n) (Go.Sx.domL dst) (Prod.fst i17)) ((32 : Nat) * (Prod.fst i17)) (Prod.snd (Prod.fst (Prod.snd i17)))) ∧
 ((Go.Sx.Rw (Prod.fst (Prod.snd (Prod.snd i17))) (Go.Sx.bI (Go.Sx.firstL [] dst n) (Go.Sx.domL dst) (Prod.fst i17)) (32 : Nat) (Prod.snd (Prod.snd (Prod.snd i17)))) ∧
 (((32 : Int) * (((Prod.fst i17) : Nat) : Int)) < (n + (32 : Int))))) → (∀ (x18 : Int), ((x18 = ((((32 : Nat) * (Prod.fst i17)) : Nat) : Int)) → ((((decide (x18 < n)) = Bool.true) → ((∃ (i019 : (Prod Nat (Prod (List Int) Nat))), (((Go.Sx.Rw (Prod.fst (Prod.snd i019)) (List.take (Prod.fst i019) (Go.Sx.xorL ys15 (Prod.fst (Prod.snd (Prod.snd i17))))) (Prod.fst i019) (Prod.snd (Prod.snd i019))) ∧
 ((Prod.fst i019) ≤ (32 : Nat))) ∧
 (((n = n) ∧
 ((((l2 + (1 : Nat)) = (l2 + (1 : Nat))) ∧
 (cap4 = cap4)) ∧
 ((cap14 = cap14) ∧
 (((((32 : Nat) * (Prod.fst i17)) = ((32 : Nat) * (Prod.fst i17))) ∧
 ((Prod.snd (Prod.fst (Prod.snd i17))) = (Prod.snd (Prod.fst (Prod.snd i17))))) ∧
 (((Prod.snd (Prod.snd (Prod.snd i17))) = (Prod.snd (Prod.snd (Prod.snd i17)))) ∧
 ((((((Prod.fst i17) : Nat) : Int) + (1 : Int)) = ((((Prod.fst i17) : Nat) : Int) + (1 : Int))) ∧
 ((((0 : Nat) = (Prod.fst i019)) ∧
 ((0 : Nat) = (Prod.snd (Prod.snd i019)))) ∧
 ((0 : Int) = (((Prod.fst i019) : Nat) : Int))))))))) ∧
 ((ys5 = ys5) ∧
 ((ys15 = ys15) ∧
 (((Prod.fst (Prod.fst (Prod.snd i17))) = (Prod.fst (Prod.fst (Prod.snd i17)))) ∧
 (((Prod.fst (Prod.snd (Prod.snd i17))) = (Prod.fst (Prod.snd (Prod.snd i17)))) ∧
 ([] = (Prod.fst (Prod.snd i019)))))))))) ∧
 (∀ (i20 : (Prod Nat (Prod (List Int) Nat))), (((Go.Sx.Rw (Prod.fst (Prod.snd i20)) (List.take (Prod.fst i20) (Go.Sx.xorL ys15 (Prod.fst (Prod.snd (Prod.snd i17))))) (Prod.fst i20) (Prod.snd (Prod.snd i20))) ∧
 ((Prod.fst i20) ≤ (32 : Nat))) → ((((decide ((((Prod.fst i20) : Nat) : Int) < (32 : Int))) = Bool.true) → ((((0 : Int) ≤ (((Prod.fst i20) : Nat) : Int)) ∧
 ((((Prod.fst i20) : Nat) : Int) < (32 : Int))) ∧
 (((((Int.toNat (((Prod.fst i20) : Nat) : Int)) * (1 : Nat)) + (1 : Nat)) ≤ (List.length ys15)) ∧
 (∀ (x21 : Int), ((x21 = (List.getD ys15 ((Int.toNat (((Prod.fst i20) : Nat) : Int)) * (1 : Nat)) (0 : Int))) → ((((0 : Int) ≤ (((Prod.fst i20) : Nat) : Int)) ∧
 ((((Prod.fst i20) : Nat) : Int) < (32 : Int))) ∧
 (((((Int.toNat (((Prod.fst i20) : Nat) : Int)) * (1 : Nat)) + (1 : Nat)) ≤ (List.length (Prod.fst (Prod.snd (Prod.snd i17))))) ∧
 (∀ (x22 : Int), ((x22 = (List.getD (Prod.fst (Prod.snd (Prod.snd i17))) ((Int.toNat (((Prod.fst i20) : Nat) : Int)) * (1 : Nat)) (0 : Int))) → (∀ (x23 : Int), ((x23 = (Go.Sx.bxor Go.IntKind.u8 x21 x22)) → (((((Prod.fst i20) ≤ (Prod.snd (Prod.snd i20))) ∧
 (((0 : Nat) + ((Prod.snd (Prod.snd i20)) * (1 : Nat))) ≤ (List.length (Prod.fst (Prod.snd i20))))) ∧
 ((Nat.le (1 : Nat) (List.length [x23])) ∧
 (((((Prod.fst i20) + (1 : Nat)) * (1 : Nat)) ≤ (549755813888 : Nat)) ∧
 (((Prod.fst i20) + (1 : Nat)) ≤ (549755813888 : Nat))))) ∧
 (∀ (cap24 : Nat), (∀ (ys25 : (List Int)), (((((Prod.fst i20) + (1 : Nat)) ≤ cap24) ∧
 (((List.length ys25) = (cap24 * (1 : Nat))) ∧
 ((List.take (((Prod.fst i20) + (1 : Nat)) * (1 : Nat)) ys25) = ((List.take ((Prod.fst i20) * (1 : Nat)) (List.drop (0 : Nat) (Prod.fst (Prod.snd i20)))) ++ (List.take (1 : Nat) (List.drop (0 : Nat) [x23])))))) → (∀ (x26 : Int), ((x26 = (Go.IntKind.wrap Go.IntKind.i64 ((((Prod.fst i20) : Nat) : Int) + (1 : Int)))) → (∃ (x27 : (Prod Nat (Prod (List Int) Nat))), (((Go.Sx.Rw (Prod.fst (Prod.snd x27)) (List.take (Prod.fst x27) (Go.Sx.xorL ys15 (Prod.fst (Prod.snd (Prod.snd i17))))) (Prod.fst x27) (Prod.snd (Prod.snd x27))) ∧
 ((Prod.fst x27) ≤ (32 : Nat))) ∧
 ((((n = n) ∧
 ((((l2 + (1 : Nat)) = (l2 + (1 : Nat))) ∧
 (cap4 = cap4)) ∧
 ((cap14 = cap14) ∧
 (((((32 : Nat) * (Prod.fst i17)) = ((32 : Nat) * (Prod.fst i17))) ∧
 ((Prod.snd (Prod.fst (Prod.snd i17))) = (Prod.snd (Prod.fst (Prod.snd i17))))) ∧
 (((Prod.snd (Prod.snd (Prod.snd i17))) = (Prod.snd (Prod.snd (Prod.snd i17)))) ∧
 ((((((Prod.fst i17) : Nat) : Int) + (1 : Int)) = ((((Prod.fst i17) : Nat) : Int) + (1 : Int))) ∧
 (((((Prod.fst i20) + (1 : Nat)) = (Prod.fst x27)) ∧
 (cap24 = (Prod.snd (Prod.snd x27)))) ∧
 (x26 = (((Prod.fst x27) : Nat) : Int))))))))) ∧
 ((ys5 = ys5) ∧
 ((ys15 = ys15) ∧
 (((Prod.fst (Prod.fst (Prod.snd i17))) = (Prod.fst (Prod.fst (Prod.snd i17)))) ∧
 (((Prod.fst (Prod.snd (Prod.snd i17))) = (Prod.fst (Prod.snd (Prod.snd i17)))) ∧
 (ys25 = (Prod.fst (Prod.snd x27)))))))) ∧
 (((32 : Nat) - (Prod.fst x27)) < ((32 : Nat) - (Prod.fst i20))))))))))))))))))))))) ∧
 (((decide ((((Prod.fst i20) : Nat) : Int) < (32 : Int))) = Bool.false) → (∀ (x28 : Int), ((x28 = (Go.IntKind.wrap Go.IntKind.u8 ((((Prod.fst i17) : Nat) : Int) + (1 : Int)))) → (((((0 : Nat) + ((Prod.fst i20) * (1 : Nat))) ≤ (List.length (Prod.fst (Prod.snd i20)))) ∧
 (((1 : Nat) ≤ (List.length [x28])) ∧
 (((0 : Nat) + ((l2 + (1 : Nat)) * (1 : Nat))) ≤ (List.length ys5)))) ∧
 (((((List.length (List.take ((Prod.fst i20) * (1 : Nat)) (List.drop (0 : Nat) (Prod.fst (Prod.snd i20))))) = (Prod.fst i20)) ∧
 (((List.length (List.take (1 : Nat) (List.drop (0 : Nat) [x28]))) = (1 : Nat)) ∧
 ((List.length (List.take ((l2 + (1 : Nat)) * (1 : Nat)) (List.drop (0 : Nat) ys5))) = (l2 + (1 : Nat))))) ∧
 ((((Prod.fst i20) + (1 : Nat)) + (l2 + (1 : Nat))) ≤ (549755813888 : Nat))) ∧
 (∀ (ys29 : (List Int)), (∀ (cap30 : Nat), (∀ (n31 : Nat), ((Go.Sx.Rw ys29 (((List.take ((Prod.fst i20) * (1 : Nat)) (List.drop (0 : Nat) (Prod.fst (Prod.snd i20)))) ++ (List.take (1 : Nat) (List.drop (0 : Nat) [x28]))) ++ (List.take ((l2 + (1 : Nat)) * (1 : Nat)) (List.drop (0 : Nat) ys5))) n31 cap30) → (∀ (ys32 : (List Int)), ((ys32 = ys29) → ((((0 : Nat) + (n31 * (1 : Nat))) ≤ (List.length ys32)) ∧
 ((((List.length (List.take (n31 * (1 : Nat)) (List.drop (0 : Nat) ys32))) = n31) ∧
 ((n31 ≤ (274877906944 : Nat)) ∧
 (Go.Sx.Bytes (List.take (n31 * (1 : Nat)) (List.drop (0 : Nat) ys32))))) ∧
 (∀ (ys33 : (List Int)), (∀ (cap34 : Nat), ((Go.Sx.Rw ys33 (Go.Sx.sha (List.take (n31 * (1 : Nat)) (List.drop (0 : Nat) ys32))) (32 : Nat) cap34) → (∀ (ys35 : (List Int)), ((ys35 = ys33) → ((((((32 : Nat) * (Prod.fst i17)) ≤ (Prod.snd (Prod.fst (Prod.snd i17)))) ∧
 (((0 : Nat) + ((Prod.snd (Prod.fst (Prod.snd i17))) * (1 : Nat))) ≤ (List.length (Prod.fst (Prod.fst (Prod.snd i17)))))) ∧
 ((Nat.le (32 : Nat) (List.length ys35)) ∧
 ((((((32 : Nat) * (Prod.fst i17)) + (32 : Nat)) * (1 : Nat)) ≤ (549755813888 : Nat)) ∧
 ((((32 : Nat) * (Prod.fst i17)) + (32 : Nat)) ≤ (549755813888 : Nat))))) ∧
 (∀ (cap36 : Nat), (∀ (ys37 : (List Int)), ((((((32 : Nat) * (Prod.fst i17)) + (32 : Nat)) ≤ cap36) ∧
 (((List.length ys37) = (cap36 * (1 : Nat))) ∧
 ((List.take ((((32 : Nat) * (Prod.fst i17)) + (32 : Nat)) * (1 : Nat)) ys37) = ((List.take (((32 : Nat) * (Prod.fst i17)) * (1 : Nat)) (List.drop (0 : Nat) (Prod.fst (Prod.fst (Prod.snd i17))))) ++ (List.take (32 : Nat) (List.drop (0 : Nat) ys35)))))) → (∀ (x38 : Int), ((x38 = (Go.IntKind.wrap Go.IntKind.i64 (((((Prod.fst i17) : Nat) : Int) + (1 : Int)) + (1 : Int)))) → (∃ (x39 : (Prod Nat (Prod (Prod (List Int) Nat) (Prod (List Int) Nat)))), (((Go.Sx.Rw (Prod.fst (Prod.fst (Prod.snd x39))) (Go.Sx.outN (Go.Sx.firstL [] dst n) (Go.Sx.domL dst) (Prod.fst x39)) ((32 : Nat) * (Prod.fst x39)) (Prod.snd (Prod.fst (Prod.snd x39)))) ∧
 ((Go.Sx.Rw (Prod.fst (Prod.snd (Prod.snd x39))) (Go.Sx.bI (Go.Sx.firstL [] dst n) (Go.Sx.domL dst) (Prod.fst x39)) (32 : Nat) (Prod.snd (Prod.snd (Prod.snd x39)))) ∧
 (((32 : Int) * (((Prod.fst x39) : Nat) : Int)) < (n + (32 : Int))))) ∧
 ((((n = n) ∧
 ((((l2 + (1 : Nat)) = (l2 + (1 : Nat))) ∧
 (cap4 = cap4)) ∧
 ((cap14 = cap14) ∧
 ((((((32 : Nat) * (Prod.fst i17)) + (32 : Nat)) = ((32 : Nat) * (Prod.fst x39))) ∧
 (cap36 = (Prod.snd (Prod.fst (Prod.snd x39))))) ∧
 ((cap34 = (Prod.snd (Prod.snd (Prod.snd x39)))) ∧
 (x38 = ((((Prod.fst x39) : Nat) : Int) + (1 : Int)))))))) ∧
 ((ys5 = ys5) ∧
 ((ys15 = ys15) ∧
 ((ys37 = (Prod.fst (Prod.fst (Prod.snd x39)))) ∧
 (ys35 = (Prod.fst (Prod.snd (Prod.snd x39)))))))) ∧
 ((((Int.toNat n) + (32 : Nat)) - ((32 : Nat) * (Prod.fst x39))) < (((Int.toNat n) + (32 : Nat)) - ((32 : Nat) * (Prod.fst i17)))))))))))))))))))))))))))))))))))) ∧
 (((decide (x18 < n)) = Bool.false) → ((((0 : Int) ≤ n) ∧
 (n ≤ (((Prod.snd (Prod.fst (Prod.snd i17))) : Nat) : Int))) ∧
 (K (Go.Sx.SV.slice (737 : Nat) (Go.Sx.N.lit (0 : Nat)) (Go.Sx.N.sym ((Int.toNat n) - (0 : Nat))) (Go.Sx.N.sym ((Prod.snd (Prod.fst (Prod.snd i17))) - (0 : Nat)))) (Go.Sx.memL [((577 : Nat), (Go.Sx.Reg.mk Bool.false (Go.Sx.Ct.ints Go.IntKind.u8 ys5))), ((681 : Nat), (Go.Sx.Reg.mk Bool.false (Go.Sx.Ct.ints Go.IntKind.u8 ys15))), ((737 : Nat), (Go.Sx.Reg.mk Bool.false (Go.Sx.Ct.ints Go.IntKind.u8 (Prod.fst (Prod.fst (Prod.snd i17)))))), ((739 : Nat), (Go.Sx.Reg.mk Bool.false (Go.Sx.Ct.ints Go.IntKind.u8 (Prod.fst (Prod.snd (Prod.snd i17))))))])))))))))))))))))))))))))))))))))))))))))))))) := by kernel_rfl
end Go.Sx

/- spec.Expand: what it computes. -/
namespace Go.Sx
open Go Go.Proofs
set_option maxRecDepth 100000
set_option maxHeartbeats 4000000
theorem take1 (xs : List Int) {l : Nat} (h : xs.length = l) : List.take (l * 1) (List.drop 0 xs) = xs := by
  rw [Nat.mul_one, List.drop_zero, List.take_of_length_le (by omega)]
theorem Rw.take1 {ys xs : List Int} {n cap : Nat} (h : Rw ys xs n cap) : List.take (n * 1) (List.drop 0 ys) = xs := by
  rw [Nat.mul_one, List.drop_zero, h.row]
theorem Rw.getD {ys xs : List Int} {n cap k : Nat} (h : Rw ys xs n cap) (hk : k < n) : ys.getD k 0 = xs.getD k 0 := by
  rw [← h.row]
  simp [List.getD_eq_getElem?_getD, List.getElem?_take, hk]
theorem Rw.cut {ys xs : List Int} {n m cap : Nat} (h : Rw ys xs n cap) (hm : m ≤ n) : Rw ys (xs.take m) m cap :=
  ⟨by rw [List.length_take, h.xl]; omega, Nat.le_trans hm h.le, h.len, by rw [← h.row, List.take_take, Nat.min_eq_left hm]⟩
theorem bytes3 {x y : Int} : Bytes [IntKind.u8.wrap x, IntKind.u8.wrap y, 0] := by
  intro z hz
  simp only [List.mem_cons, List.not_mem_nil, or_false] at hz
  rcases hz with rfl | rfl | rfl
  · exact u8_range _
  · exact u8_range _
  · omega
theorem bytes1 {x : Int} : Bytes [IntKind.u8.wrap x] := by
  intro z hz
  simp only [List.mem_cons, List.not_mem_nil, or_false] at hz
  rw [hz]
  exact u8_range _
theorem bytes0 (n : Nat) : Bytes (List.replicate n 0) := by
  intro z hz
  rw [(List.mem_replicate.1 hz).2]
  omega
theorem expand_eq {msg dst : List Int} {n i : Nat} (h1 : n ≤ 32 * i) (h2 : 32 * i < n + 32) : expand msg dst n = (outN (firstL msg dst n) (domL dst) i).take n := by
  unfold expand
  rw [show (n + 31) / 32 = i by omega]
theorem expand_length (msg dst : List Int) (n : Nat) : (expand msg dst n).length = n := by
  unfold expand
  rw [List.length_take, outN_length]
  omega
theorem expand_bytes (msg dst : List Int) (n : Nat) : Bytes (expand msg dst n) := by
  unfold expand
  refine Bytes.take ?_ _
  generalize (n + 31) / 32 = k
  induction k with
  | zero => exact Bytes.nil
  | succ k ih => exact ih.append (bI_bytes _ _ _)
theorem se_walk (msg dst : List Int) (l c l2 c2 : Nat) (n : Int) (K : SV → Mem → Prop) (hl : msg.length = l) (hl2 : dst.length = l2) (hb : Bytes msg) (hb2 : Bytes dst) (h1 : l ≤ 65536) (h2 : l2 ≤ 65536) (hn : 0 ≤ n) (hn2 : n ≤ 65536) (hup : KUp K)
    (hK : ∀ ys cap, Rw ys (expand msg dst n.toNat) n.toNat cap → K (.slice 737 (.lit 0) (.sym n.toNat) (.sym cap)) (memL [(737, ⟨false, .ints .u8 ys⟩)])) :
    execF cxSE (uSE msg dst n) Tryd.f9 64 [.slice 1 (.lit 0) (.sym l) (.sym c), .slice 9 (.lit 0) (.sym l2) (.sym c2), .int .i64 (.sym n)] (memL [(1, ⟨true, .ints .u8 msg⟩), (9, ⟨true, .ints .u8 dst⟩)]) K := by
  rw [vc_se]
  obtain ⟨nn, hnn⟩ : ∃ nn : Nat, n = (nn : Int) := ⟨n.toNat, by omega⟩
  refine ⟨⟨by omega, nle (by omega), by omega, by omega⟩, fun cap0 ys1 e0 => ?_⟩
  have r0 := Rw.first hl2 e0
  rintro x2 rfl x3 rfl
  refine ⟨⟨r0.fits, nle (Nat.le_refl _), by omega, by omega⟩, fun cap4 ys5 e4 => ?_⟩
  have rD := r0.next (zs := [IntKind.u8.wrap ((l2 : Nat) : Int)]) (m := 1) rfl e4
  have hD : dst ++ [IntKind.u8.wrap ((l2 : Nat) : Int)] = domL dst := by unfold domL; rw [hl2]
  rw [hD] at rD
  have hDb := domL_bytes hb2
  have hDl := rD.le
  have hDn := rD.len
  refine ⟨by omega, ?_⟩
  rintro x6 rfl x7 rfl x8 rfl
  refine ⟨⟨by omega, by omega, nle (Nat.le_refl _), by omega⟩, ?_⟩
  refine ⟨⟨⟨rfl, by rw [take1 _ hl, hl], rfl, by rw [rD.take1, rD.xl]⟩, by omega⟩, ?_⟩
  rintro ys9 cap10 n11 rJ ys12 rfl
  have hJ := rJ.le
  have hJn := rJ.len
  have hJx := rJ.xl
  rw [take1 _ hl, rD.take1] at rJ hJx
  have hMl : n11 = 64 + l + 3 + (l2 + 1) := by
    rw [← hJx]
    simp only [List.length_append, domL_length, hl2]
    simp [hl]
  refine ⟨by omega, ⟨by rw [rJ.take1, rJ.xl], by omega, by
    rw [rJ.take1]
    exact (((((bytes0 64).drop 0).take 64).append hb).append ((bytes3.drop 0).take 3)).append hDb⟩, ?_⟩
  rintro ys13 cap14 rF ys15 rfl
  rw [rJ.take1] at rF
  have rF : Rw ys15 (firstL msg dst n) 32 cap14 := rF
  have hFl := rF.le
  have hFn := rF.len
  refine ⟨by omega, ?_⟩
  refine ⟨⟨(0, ([], 0), (List.replicate 32 0, 32)), ⟨⟨rfl, Nat.le_refl _, rfl, rfl⟩, ⟨by simp [bI], Nat.le_refl _, by simp, by simp [bI]⟩, by simp only; omega⟩, ?_⟩, ?_⟩
  · repeat' apply And.intro
    all_goals first | trivial | rfl
  rintro ⟨i, ⟨oy, oc⟩, ⟨ly, lc⟩⟩ ⟨rO, rL, hi⟩ x18 rfl
  simp only at rO rL hi
  simp only
  have hLl := rL.le
  have hLn := rL.len
  refine ⟨fun hlt => ?_, fun hlt => ?_⟩
  · simp only [decide_eq_true_eq] at hlt
    refine ⟨⟨(0, [], 0), ⟨⟨rfl, Nat.le_refl _, rfl, rfl⟩, by simp⟩, ?_⟩, ?_⟩
    · repeat' apply And.intro
      all_goals first | trivial | rfl
    rintro ⟨k, my, mc⟩ ⟨rM, hk⟩
    simp only at rM hk
    simp only [Int.toNat_natCast, Nat.mul_one]
    refine ⟨fun hk1 => ?_, fun hk1 => ?_⟩
    · simp only [decide_eq_true_eq] at hk1
      refine ⟨by omega, by omega, ?_⟩
      rintro x21 rfl
      refine ⟨by omega, by omega, ?_⟩
      rintro x22 rfl x23 hx23
      refine ⟨⟨⟨rM.le, by rw [rM.len]; omega⟩, nle (Nat.le_refl _), by omega, by omega⟩, fun cap24 ys25 e24 => ?_⟩
      have rM2 := rM.next (zs := [x23]) (m := 1) rfl (by simpa only [Nat.mul_one] using e24)
      rw [hx23, ← xorL_take (by omega)] at rM2
      rintro x26 hx26
      rw [wrap64 (by omega) (by omega)] at hx26
      refine ⟨(k + 1, ys25, cap24), ⟨rM2, by simp only; omega⟩, ?_, by simp only; omega⟩
      repeat' apply And.intro
      all_goals first | trivial | rfl | (simp only; omega)
    simp only [decide_eq_false_iff_not] at hk1
    obtain rfl : k = 32 := by omega
    rw [List.take_of_length_le (by rw [xorL_length]; exact Nat.le_refl _)] at rM
    have hxor : xorL ys15 ly = xorL (firstL msg dst n) (bI (firstL msg dst n) (domL dst) i) := xorL_congr (by rw [rF.row, List.take_of_length_le (by rw [rF.xl]; exact Nat.le_refl _)]) (by rw [rL.row, List.take_of_length_le (by rw [rL.xl]; exact Nat.le_refl _)])
    rw [hxor] at rM
    have hMl2 := rM.le
    have hMn2 := rM.len
    rintro x28 rfl
    refine ⟨⟨by omega, Nat.le_refl _, by omega⟩, ?_⟩
    have t1 := rM.take1
    have t2 := rD.take1
    rw [Nat.mul_one] at t1 t2
    rw [t1, t2, rD.xl]
    refine ⟨⟨⟨rM.xl, rfl, rfl⟩, by omega⟩, ?_⟩
    rintro ys29 cap30 n31 rJ2 ys32 rfl
    have hJ2 := rJ2.le
    have hJ2n := rJ2.len
    have hJ2x := rJ2.xl
    have hMl3 : n31 = 32 + 1 + (l2 + 1) := by
      rw [← hJ2x]
      simp only [List.length_append, domL_length, hl2, xorL_length]
      simp
    have t3 := rJ2.take1
    rw [Nat.mul_one] at t3
    rw [t3]
    refine ⟨by omega, ⟨rJ2.xl, by omega, ((xorL_bytes _ _).append bytes1).append hDb⟩, ?_⟩
    rintro ys33 cap34 rB ys35 rfl
    have rB : Rw ys35 (bI (firstL msg dst n) (domL dst) (i + 1)) 32 cap34 := rB
    have hBl := rB.le
    have hBn := rB.len
    refine ⟨⟨⟨rO.le, by rw [rO.len]; omega⟩, nle (by omega), by omega, by omega⟩, fun cap36 ys37 e36 => ?_⟩
    have rO2 : Rw ys37 (outN (firstL msg dst n) (domL dst) (i + 1)) (32 * i + 32) cap36 := by
      refine rO.step (rB.xl) e36.1 e36.2.1 ?_
      have := e36.2.2
      rw [List.drop_zero, List.drop_zero, rB.row] at this
      exact this
    rintro x38 hx38
    rw [wrap64 (by omega) (by omega)] at hx38
    refine ⟨(i + 1, (ys37, cap36), (ys35, cap34)), ⟨rO2, rB, by simp only; omega⟩, ?_, by simp only; omega⟩
    repeat' apply And.intro
    all_goals first | trivial | rfl | (simp only; omega)
  simp only [decide_eq_false_iff_not] at hlt
  have hOl := rO.le
  refine ⟨by omega, ?_⟩
  have hE : expand msg dst n.toNat = (outN (firstL msg dst n) (domL dst) i).take n.toNat := by
    rw [expand_eq (i := i) (by omega) (by omega), hnn, Int.toNat_natCast]
  have rR := rO.cut (m := n.toNat) (by omega)
  rw [← hE] at rR
  exact hup.le (memL_sub [577, 681, 737, 739] rfl (by decide) (by
    intro x hx
    simp only [List.mem_cons, List.not_mem_nil, or_false] at hx ⊢
    exact .inr (.inr (.inl hx)))) (hK _ _ rR)
theorem sen_walk (dst : List Int) (l2 c2 : Nat) (n : Int) (K : SV → Mem → Prop) (hl2 : dst.length = l2) (hb2 : Bytes dst) (h2 : l2 ≤ 65536) (hn : 0 ≤ n) (hn2 : n ≤ 65536) (hup : KUp K)
    (hK : ∀ ys cap, Rw ys (expand [] dst n.toNat) n.toNat cap → K (.slice 737 (.lit 0) (.sym n.toNat) (.sym cap)) (memL [(737, ⟨false, .ints .u8 ys⟩)])) :
    execF cxSE (uSE [] dst n) Tryd.f9 64 [.val (.slice none 0 0), .slice 1 (.lit 0) (.sym l2) (.sym c2), .int .i64 (.sym n)] (memL [(1, ⟨true, .ints .u8 dst⟩)]) K := by
  rw [vc_sen]
  obtain ⟨nn, hnn⟩ : ∃ nn : Nat, n = (nn : Int) := ⟨n.toNat, by omega⟩
  refine ⟨⟨by omega, nle (by omega), by omega, by omega⟩, fun cap0 ys1 e0 => ?_⟩
  have r0 := Rw.first hl2 e0
  rintro x2 rfl x3 rfl
  refine ⟨⟨r0.fits, nle (Nat.le_refl _), by omega, by omega⟩, fun cap4 ys5 e4 => ?_⟩
  have rD := r0.next (zs := [IntKind.u8.wrap ((l2 : Nat) : Int)]) (m := 1) rfl e4
  have hD : dst ++ [IntKind.u8.wrap ((l2 : Nat) : Int)] = domL dst := by unfold domL; rw [hl2]
  rw [hD] at rD
  have hDb := domL_bytes hb2
  have hDl := rD.le
  have hDn := rD.len
  refine ⟨by omega, ?_⟩
  rintro x6 rfl x7 rfl x8 rfl
  refine ⟨⟨by omega, nle (Nat.le_refl _), by omega⟩, ?_⟩
  refine ⟨⟨⟨rfl, rfl, by rw [rD.take1, rD.xl]⟩, by omega⟩, ?_⟩
  rintro ys9 cap10 n11 rJ ys12 rfl
  have hJ := rJ.le
  have hJn := rJ.len
  have hJx := rJ.xl
  rw [rD.take1] at rJ hJx
  have hMl : n11 = 64 + 0 + 3 + (l2 + 1) := by
    rw [← hJx]
    simp only [List.length_append, domL_length, hl2]
    simp
  refine ⟨by omega, ⟨by rw [rJ.take1, rJ.xl], by omega, by
    rw [rJ.take1]
    exact ((((bytes0 64).drop 0).take 64).append ((bytes3.drop 0).take 3)).append hDb⟩, ?_⟩
  rintro ys13 cap14 rF ys15 rfl
  rw [rJ.take1] at rF
  have rF : Rw ys15 (firstL [] dst n) 32 cap14 := by
    unfold firstL
    rw [List.append_nil]
    exact rF
  have hFl := rF.le
  have hFn := rF.len
  refine ⟨by omega, ?_⟩
  refine ⟨⟨(0, ([], 0), (List.replicate 32 0, 32)), ⟨⟨rfl, Nat.le_refl _, rfl, rfl⟩, ⟨by simp [bI], Nat.le_refl _, by simp, by simp [bI]⟩, by simp only; omega⟩, ?_⟩, ?_⟩
  · repeat' apply And.intro
    all_goals first | trivial | rfl
  rintro ⟨i, ⟨oy, oc⟩, ⟨ly, lc⟩⟩ ⟨rO, rL, hi⟩ x18 rfl
  simp only at rO rL hi
  simp only
  have hLl := rL.le
  have hLn := rL.len
  refine ⟨fun hlt => ?_, fun hlt => ?_⟩
  · simp only [decide_eq_true_eq] at hlt
    refine ⟨⟨(0, [], 0), ⟨⟨rfl, Nat.le_refl _, rfl, rfl⟩, by simp⟩, ?_⟩, ?_⟩
    · repeat' apply And.intro
      all_goals first | trivial | rfl
    rintro ⟨k, my, mc⟩ ⟨rM, hk⟩
    simp only at rM hk
    simp only [Int.toNat_natCast, Nat.mul_one]
    refine ⟨fun hk1 => ?_, fun hk1 => ?_⟩
    · simp only [decide_eq_true_eq] at hk1
      refine ⟨by omega, by omega, ?_⟩
      rintro x21 rfl
      refine ⟨by omega, by omega, ?_⟩
      rintro x22 rfl x23 hx23
      refine ⟨⟨⟨rM.le, by rw [rM.len]; omega⟩, nle (Nat.le_refl _), by omega, by omega⟩, fun cap24 ys25 e24 => ?_⟩
      have rM2 := rM.next (zs := [x23]) (m := 1) rfl (by simpa only [Nat.mul_one] using e24)
      rw [hx23, ← xorL_take (by omega)] at rM2
      rintro x26 hx26
      rw [wrap64 (by omega) (by omega)] at hx26
      refine ⟨(k + 1, ys25, cap24), ⟨rM2, by simp only; omega⟩, ?_, by simp only; omega⟩
      repeat' apply And.intro
      all_goals first | trivial | rfl | (simp only; omega)
    simp only [decide_eq_false_iff_not] at hk1
    obtain rfl : k = 32 := by omega
    rw [List.take_of_length_le (by rw [xorL_length]; exact Nat.le_refl _)] at rM
    have hxor : xorL ys15 ly = xorL (firstL [] dst n) (bI (firstL [] dst n) (domL dst) i) := xorL_congr (by rw [rF.row, List.take_of_length_le (by rw [rF.xl]; exact Nat.le_refl _)]) (by rw [rL.row, List.take_of_length_le (by rw [rL.xl]; exact Nat.le_refl _)])
    rw [hxor] at rM
    have hMl2 := rM.le
    have hMn2 := rM.len
    rintro x28 rfl
    refine ⟨⟨by omega, Nat.le_refl _, by omega⟩, ?_⟩
    have t1 := rM.take1
    have t2 := rD.take1
    rw [Nat.mul_one] at t1 t2
    rw [t1, t2, rD.xl]
    refine ⟨⟨⟨rM.xl, rfl, rfl⟩, by omega⟩, ?_⟩
    rintro ys29 cap30 n31 rJ2 ys32 rfl
    have hJ2 := rJ2.le
    have hJ2n := rJ2.len
    have hJ2x := rJ2.xl
    have hMl3 : n31 = 32 + 1 + (l2 + 1) := by
      rw [← hJ2x]
      simp only [List.length_append, domL_length, hl2, xorL_length]
      simp
    have t3 := rJ2.take1
    rw [Nat.mul_one] at t3
    rw [t3]
    refine ⟨by omega, ⟨rJ2.xl, by omega, ((xorL_bytes _ _).append bytes1).append hDb⟩, ?_⟩
    rintro ys33 cap34 rB ys35 rfl
    have rB : Rw ys35 (bI (firstL [] dst n) (domL dst) (i + 1)) 32 cap34 := rB
    have hBl := rB.le
    have hBn := rB.len
    refine ⟨⟨⟨rO.le, by rw [rO.len]; omega⟩, nle (by omega), by omega, by omega⟩, fun cap36 ys37 e36 => ?_⟩
    have rO2 : Rw ys37 (outN (firstL [] dst n) (domL dst) (i + 1)) (32 * i + 32) cap36 := by
      refine rO.step (rB.xl) e36.1 e36.2.1 ?_
      have := e36.2.2
      rw [List.drop_zero, List.drop_zero, rB.row] at this
      exact this
    rintro x38 hx38
    rw [wrap64 (by omega) (by omega)] at hx38
    refine ⟨(i + 1, (ys37, cap36), (ys35, cap34)), ⟨rO2, rB, by simp only; omega⟩, ?_, by simp only; omega⟩
    repeat' apply And.intro
    all_goals first | trivial | rfl | (simp only; omega)
  simp only [decide_eq_false_iff_not] at hlt
  have hOl := rO.le
  refine ⟨by omega, ?_⟩
  have hE : expand [] dst n.toNat = (outN (firstL [] dst n) (domL dst) i).take n.toNat := by
    rw [expand_eq (i := i) (by omega) (by omega), hnn, Int.toNat_natCast]
  have rR := rO.cut (m := n.toNat) (by omega)
  rw [← hE] at rR
  exact hup.le (memL_sub [577, 681, 737, 739] rfl (by decide) (by
    intro x hx
    simp only [List.mem_cons, List.not_mem_nil, or_false] at hx ⊢
    exact .inr (.inr (.inl hx)))) (hK _ _ rR)
end Go.Sx

/- The blocks laid into the answer, in plain Lean. -/
namespace Go.Sx
open Go
theorem bxor_zero {x : Int} (h1 : 0 ≤ x) (h2 : x < 256) : bxor .u8 x 0 = x := by
  obtain ⟨n, rfl⟩ := Int.eq_ofNat_of_zero_le h1
  have : ∀ k : Fin 256, bxor .u8 ((k.val : Nat) : Int) 0 = ((k.val : Nat) : Int) := by decide +kernel
  exact this ⟨n, by omega⟩
theorem xorL_zero {f : List Int} (hl : f.length = 32) (hb : Bytes f) : xorL f (List.replicate 32 0) = f := by
  apply List.ext_getElem
  · rw [xorL_length, hl]
  · intro i h1 h2
    have e0 : (xorL f (List.replicate 32 0))[i] = bxor .u8 (f.getD i 0) ((List.replicate 32 0).getD i 0) := by
      simp [xorL]
    rw [e0]
    have e1 : f.getD i 0 = f[i] := by simp [List.getD_eq_getElem?_getD, h2]
    have e2 : (List.replicate 32 (0 : Int)).getD i 0 = 0 := by
      rw [List.getD_eq_getElem?_getD, List.getElem?_replicate]
      split <;> rfl
    rw [e1, e2]
    exact bxor_zero (hb _ (List.getElem_mem h2)).1 (hb _ (List.getElem_mem h2)).2
theorem shr8 {n : Int} (h1 : 0 ≤ n) (h2 : n ≤ 65536) : shrv .i64 n 8 = IntKind.i64.wrap (Int.tdiv n 256) := by
  have e : shrv .i64 n 8 = n.fdiv 256 := rfl
  rw [e, Int.fdiv_eq_ediv_of_nonneg _ (by omega), Int.tdiv_eq_ediv_of_nonneg h1, wrap64 (by omega) (by omega)]
theorem res_step {res o b : List Int} {n j : Nat} (hl : res.length = n) (h : res.take (32 * j) = o.take n) (ho : o.length = 32 * j) (hb : b.length = 32) (hj : 32 * j < n) :
    (splice res (32 * j) (b.take (min 32 (min n (32 * (j + 1)) - 32 * j)))).length = n ∧
    (splice res (32 * j) (b.take (min 32 (min n (32 * (j + 1)) - 32 * j)))).take (32 * (j + 1)) = (o ++ b).take n := by
  generalize hq : b.take (min 32 (min n (32 * (j + 1)) - 32 * j)) = q
  have hql : q.length = min 32 (min n (32 * (j + 1)) - 32 * j) := by rw [← hq, List.length_take]; omega
  have hsl : (splice res (32 * j) q).length = n := by rw [splice_length (by omega), hl]
  refine ⟨hsl, ?_⟩
  have hmid := take_splice_mid (x := res) (q := q) (n := 32 * j) (by omega)
  rw [h, List.take_of_length_le (l := o) (by omega)] at hmid
  by_cases hc : 32 * (j + 1) ≤ n
  · have e1 : q.length = 32 := by omega
    have e2 : q = b := by rw [← hq, List.take_of_length_le (by omega)]
    rw [e1] at hmid
    rw [show 32 * (j + 1) = 32 * j + 32 by omega, hmid, e2, List.take_of_length_le (by simp; omega)]
  · have e1 : 32 * j + q.length = n := by omega
    rw [List.take_of_length_le (by omega)]
    rw [e1, List.take_of_length_le (by omega)] at hmid
    rw [hmid, List.take_append, List.take_of_length_le (l := o) (by omega), ho, ← hq]
    congr 2
    omega
end Go.Sx

/- hash.ExpandMsgXmd: what it computes. -/
namespace Go.Sx
open Go Go.Proofs
set_option maxRecDepth 100000
set_option maxHeartbeats 4000000
theorem ex_walk (msg dst : List Int) (l c l2 c2 : Nat) (n : Int) (K : SV → Mem → Prop) (hl : msg.length = l) (hl2 : dst.length = l2) (hc : l ≤ c) (hc2 : l2 ≤ c2) (hb : Bytes msg) (hb2 : Bytes dst) (h1 : l ≤ 65536) (h2 : l2 ≤ 65536) (hn : 32 ≤ n) (hn2 : n ≤ 65536) (hup : KUp K)
    (hK1 : n > 8160 → ∀ s, K (.tup [.val (.slice none 0 0), .iface 73 (.ptr 633 (.lit 0))]) (memL [(633, ⟨false, .cells [.val (.string s)]⟩)]))
    (hK2 : n ≤ 8160 → l2 > 255 → ∀ s, K (.tup [.val (.slice none 0 0), .iface 73 (.ptr 657 (.lit 0))]) (memL [(657, ⟨false, .cells [.val (.string s)]⟩)]))
    (hK : n ≤ 8160 → l2 ≤ 255 → ∀ ys, ys = expand msg dst n.toNat → K (.tup [.slice 1569 (.lit 0) (.sym n.toNat) (.sym n.toNat), .val .nilIface]) (memL [(1569, ⟨false, .ints .u8 ys⟩)])) :
    execF cxEX (uEX 17 msg dst n) Tryd.f12 64 [.slice 9 (.lit 0) (.sym l) (.sym c), .slice 17 (.lit 0) (.sym l2) (.sym c2), .int .i64 (.sym n)] (memL [(2, ⟨true, .ints .u32 kL⟩), (9, ⟨true, .ints .u8 msg⟩), (17, ⟨true, .ints .u8 dst⟩)]) K := by
  rw [vc_ex, take1 _ hl, take1 _ hl2]
  have hf : firstL msg dst n = sha (List.replicate 64 0 ++ msg ++ [IntKind.u8.wrap (shrv .i64 n 8), IntKind.u8.wrap n, 0] ++ dst ++ [IntKind.u8.wrap ((l2 : Nat) : Int)]) := by
    unfold firstL domL
    rw [shr8 (by omega) (by omega), hl2]
    simp only [List.append_assoc]
  have hfl : (firstL msg dst n).length = 32 := rfl
  have hfb : Bytes (firstL msg dst n) := sha_bytes _
  have hdom : domL dst = dst ++ [IntKind.u8.wrap ((l2 : Nat) : Int)] := by unfold domL; rw [hl2]
  have hexp : ∀ j : Nat, n ≤ 32 * (j : Int) → 32 * (j : Int) < n + 32 → expand msg dst n.toNat = (outN (firstL msg dst n) (domL dst) j).take n.toNat := fun j q1 q2 => by
    rw [expand_eq (i := j) (by omega) (by omega), show ((n.toNat : Nat) : Int) = n by omega]
  rintro ys0 rfl x1 rfl x2 hx2 x3 hx3
  rw [wrap64 (x := n + 32) (by omega) (by omega), wrap64 (by omega) (by omega)] at hx2
  rw [Int.tdiv_eq_ediv_of_nonneg (by omega), wrap64 (by omega) (by omega)] at hx3
  refine ⟨fun hbig => ?_, fun hbig => ?_⟩
  · simp only [decide_eq_true_eq] at hbig
    exact hup.le (memL_sub [2, 9, 17, 529, 633] rfl (by decide) (by
      intro x hx
      simp only [List.mem_cons, List.not_mem_nil, or_false] at hx ⊢
      iterate 4 (apply Or.inr)
      exact hx)) (hK1 (by omega) _)
  simp only [decide_eq_false_iff_not] at hbig
  rintro x4 rfl
  refine ⟨fun hbig2 => ?_, fun hbig2 => ?_⟩
  · simp only [decide_eq_true_eq] at hbig2
    exact hup.le (memL_sub [2, 9, 17, 529, 657] rfl (by decide) (by
      intro x hx
      simp only [List.mem_cons, List.not_mem_nil, or_false] at hx ⊢
      iterate 4 (apply Or.inr)
      exact hx)) (hK2 (by omega) (by omega) _)
  simp only [decide_eq_false_iff_not] at hbig2
  rintro x5 rfl x6 hx6
  rintro ys7 rfl
  refine ⟨by omega, ?_⟩
  refine ⟨Nat.le_refl _, [], ⟨rfl, Abs.empty rfl, ((bytes0 64).drop 0).take 64, rfl, Nat.le_refl _, by omega, by simp⟩, ?_⟩
  rintro x9 x10 x11 x12 a1 ys13 rfl
  have a1 : Abs (List.replicate 64 0) x9 ys13 x11 x12 := a1
  refine ⟨by omega, _, ⟨rfl, a1, hb, hl, hc, h1, by simp⟩, ?_⟩
  rintro x15 x16 x17 x18 a2 ys19 rfl x20 rfl x21 rfl x22 rfl
  refine ⟨Nat.le_refl _, _, ⟨rfl, a2, (bytes3.drop 0).take 3, rfl, Nat.le_refl _, by omega, by simp <;> omega⟩, ?_⟩
  rintro x24 x25 x26 x27 a3 ys28 rfl
  have a3 : Abs (List.replicate 64 0 ++ msg ++ [IntKind.u8.wrap (shrv .i64 n 8), IntKind.u8.wrap n, 0]) x24 ys28 x26 x27 := a3
  refine ⟨by omega, _, ⟨rfl, a3, hb2, hl2, hc2, h2, by simp <;> omega⟩, ?_⟩
  rintro x30 x31 x32 x33 a4 ys34 rfl
  subst hx6
  refine ⟨Nat.le_refl _, _, ⟨rfl, a4, (bytes1.drop 0).take 1, rfl, Nat.le_refl _, by omega, by simp <;> omega⟩, ?_⟩
  rintro x36 x37 x38 x39 a5 ys40 rfl
  refine ⟨_, ⟨rfl, a5, by simp <;> omega⟩, ?_⟩
  rintro ys42 cap43 ⟨f1, f2, f3⟩ ys44 rfl
  have f1 : ys44.take 32 = firstL msg dst n := f1.trans hf.symm
  rintro ys45 rfl
  have hx64 := a5.xl
  refine ⟨by omega, _, ⟨rfl, Abs.empty hx64, (by rw [List.drop_zero, f1]; exact hfb), (by rw [List.drop_zero, f1]; rfl), f3, by omega, by simp⟩, ?_⟩
  rintro x47 x48 x49 x50 b1 ys51 rfl
  rw [List.drop_zero, f1, List.nil_append] at b1
  refine ⟨Nat.le_refl _, _, ⟨rfl, b1, by simp [Bytes], rfl, Nat.le_refl _, by omega, by rw [hfl]; omega⟩, ?_⟩
  rintro x53 x54 x55 x56 b2 ys57 rfl
  have b2 : Abs (firstL msg dst n ++ [1]) x53 ys57 x55 x56 := b2
  refine ⟨by omega, _, ⟨rfl, b2, hb2, hl2, hc2, h2, by rw [List.length_append, hfl]; simp⟩, ?_⟩
  rintro x59 x60 x61 x62 b3 ys63 rfl
  refine ⟨Nat.le_refl _, _, ⟨rfl, b3, (bytes1.drop 0).take 1, rfl, Nat.le_refl _, by omega, by rw [List.length_append, List.length_append, hfl]; simp; omega⟩, ?_⟩
  rintro x65 x66 x67 x68 b4 ys69 rfl
  refine ⟨_, ⟨rfl, b4, by rw [List.length_append, List.length_append, List.length_append, hfl]; simp; omega⟩, ?_⟩
  rintro ys71 cap72 ⟨g1, g2, g3⟩ ys73 rfl
  have g1 : ys73.take 32 = bI (firstL msg dst n) (domL dst) 1 := by
    rw [g1]
    show sha _ = sha _
    rw [show bI (firstL msg dst n) (domL dst) 0 = List.replicate 32 0 from rfl, xorL_zero hfl hfb, hdom]
    simp only [List.append_assoc]
    rfl
  have rF : Rw ys44 (firstL msg dst n) 32 cap43 := ⟨hfl, f3, f2, f1⟩
  have rB : Rw ys73 (bI (firstL msg dst n) (domL dst) 1) 32 cap72 := ⟨bI_length _ _ _, g3, g2, g1⟩
  have hr0 := res_step (res := List.replicate n.toNat 0) (o := outN (firstL msg dst n) (domL dst) 0) (b := bI (firstL msg dst n) (domL dst) 1) (n := n.toNat) (j := 0) (by simp) (by simp [outN]) rfl (bI_length _ _ _) (by omega)
  rw [show min 32 (min n.toNat (32 * (0 + 1)) - 32 * 0) = 32 by omega, List.take_of_length_le (l := bI (firstL msg dst n) (domL dst) 1) (by rw [bI_length]; exact Nat.le_refl _)] at hr0
  rw [List.drop_zero, g1, Nat.mul_one]
  refine ⟨by omega, by omega, ⟨by omega, by simp <;> omega⟩, ?_⟩
  refine ⟨⟨⟨1, ys73, cap72, splice (List.replicate n.toNat 0) 0 (bI (firstL msg dst n) (domL dst) 1), x65, ys69, x67, x68⟩, ⟨Nat.le_refl _, by simp only; omega, rB, by simp only; rw [hr0.1]; omega, hr0.2, b4.xl⟩, ?_⟩, ?_⟩
  · repeat' apply And.intro
    all_goals first | trivial | rfl
  clear hr0 g1 g2 g3 rB b4 b3 b2 b1 a5 a4 a3 a2 a1
  rintro ⟨j, b, bc, res, H, x, nx, len⟩ ⟨q1, q2, rB, q4, q5, q6⟩
  simp only at q1 q2 rB q4 q5 q6
  simp only
  have hFl := rF.le
  have hFn := rF.len
  have hBl := rB.le
  have hBn := rB.len
  refine ⟨fun hj => ?_, fun hj => ?_⟩
  · simp only [decide_eq_true_eq] at hj
    rintro ys76 rfl
    refine ⟨by omega, ?_⟩
    refine ⟨⟨(0, List.replicate 32 0), ⟨by simp, by simp, by simp⟩, ?_⟩, ?_⟩
    · repeat' apply And.intro
      all_goals first | trivial | rfl
    rintro ⟨k, w⟩ ⟨w1, w2, w3⟩
    simp only at w1 w2 w3
    simp only [Int.toNat_natCast, Nat.mul_one]
    refine ⟨fun hk => ?_, fun hk => ?_⟩
    · simp only [decide_eq_true_eq] at hk
      refine ⟨by omega, by omega, ?_⟩
      rintro x79 rfl
      refine ⟨by omega, by omega, ?_⟩
      rintro x80 rfl x81 hx81
      refine ⟨by omega, by omega, ?_⟩
      rintro x82 hx82
      rw [wrap64 (by omega) (by omega)] at hx82
      refine ⟨(k + 1, w.set k x81), ⟨by simp only [List.length_set]; exact w1, ?_, by simp only; omega⟩, ?_, by simp only; omega⟩
      · simp only
        rw [xorL_take (by omega), ← w2, ← hx81, List.take_add_one, List.take_set_of_le (Nat.le_refl _)]
        simp [show k < w.length by omega]
      · repeat' apply And.intro
        all_goals first | trivial | rfl | (simp only; omega)
    simp only [decide_eq_false_iff_not] at hk
    obtain rfl : k = 32 := by omega
    rw [List.take_of_length_le (by omega), List.take_of_length_le (by rw [xorL_length]; exact Nat.le_refl _)] at w2
    have hxor : w = xorL (firstL msg dst n) (bI (firstL msg dst n) (domL dst) j) := by
      rw [w2]
      exact xorL_congr (by rw [rF.row, List.take_of_length_le (by rw [rF.xl]; exact Nat.le_refl _)]) (by rw [rB.row, List.take_of_length_le (by rw [rB.xl]; exact Nat.le_refl _)])
    have hwb : Bytes w := by rw [hxor]; exact xorL_bytes _ _
    have hw32 : List.take 32 (List.drop 0 w) = w := by rw [List.drop_zero, List.take_of_length_le (by omega)]
    rw [hw32]
    refine ⟨by omega, _, ⟨by trivial, Abs.empty q6, hwb, w1, Nat.le_refl _, by omega, by simp⟩, ?_⟩
    rintro x85 x86 x87 x88 c1 ys89 rfl x90 rfl
    rw [List.nil_append] at c1
    refine ⟨Nat.le_refl _, _, ⟨by trivial, c1, (bytes1.drop 0).take 1, rfl, Nat.le_refl _, by omega, by rw [w1]; omega⟩, ?_⟩
    rintro x92 x93 x94 x95 c2' ys96 rfl
    refine ⟨by omega, _, ⟨by trivial, c2', hb2, hl2, hc2, h2, by rw [List.length_append, w1]; simp⟩, ?_⟩
    rintro x98 x99 x100 x101 c3 ys102 rfl
    refine ⟨Nat.le_refl _, _, ⟨by trivial, c3, (bytes1.drop 0).take 1, rfl, Nat.le_refl _, by omega, by rw [List.length_append, List.length_append, w1]; simp; omega⟩, ?_⟩
    rintro x104 x105 x106 x107 c4 ys108 rfl
    refine ⟨_, ⟨by trivial, c4, by rw [List.length_append, List.length_append, List.length_append, w1]; simp; omega⟩, ?_⟩
    rintro ys110 cap111 ⟨g1, g2, g3⟩ ys112 rfl
    have g1 : ys112.take 32 = bI (firstL msg dst n) (domL dst) (j + 1) := by
      rw [g1]
      show sha _ = sha _
      rw [← hxor, hdom]
      simp only [List.append_assoc]
      rfl
    have rB2 : Rw ys112 (bI (firstL msg dst n) (domL dst) (j + 1)) 32 cap111 := ⟨bI_length _ _ _, g3, g2, g1⟩
    rintro x113 hx113 x114 hx114 x115 hx115 x116 hx116 x117 hx117
    rw [wrap64 (by omega) (by omega)] at hx113
    rw [hx113, wrap64 (by omega) (by omega)] at hx114
    rw [wrap64 (by omega) (by omega)] at hx115
    have e114 : x114.toNat = 32 * j := by omega
    have e117 : x117 = ((min n.toNat (32 * (j + 1)) : Nat) : Int) := by
      rw [hx117]
      split <;> omega
    have e117' : x117.toNat = min n.toNat (32 * (j + 1)) := by omega
    have hres := res_step (res := res) (o := outN (firstL msg dst n) (domL dst) j) (b := bI (firstL msg dst n) (domL dst) (j + 1)) (n := n.toNat) (j := j) (by omega) q5 (outN_length _ _ _) (bI_length _ _ _) (by omega)
    have htk : List.take (min 32 (x117.toNat - x114.toNat)) (List.drop 0 ys112) = (bI (firstL msg dst n) (domL dst) (j + 1)).take (min 32 (min n.toNat (32 * (j + 1)) - 32 * j)) := by
      rw [List.drop_zero, ← g1, List.take_take, e117', e114]
      congr 1
      omega
    rw [htk, if_neg (by omega), e114]
    refine ⟨⟨⟨by omega, by omega⟩, by omega, by omega⟩, ⟨by omega, by omega⟩, ?_⟩
    rintro x118 hx118
    rw [wrap64 (by omega) (by omega)] at hx118
    refine ⟨⟨j + 1, ys112, cap111, splice res (32 * j) ((bI (firstL msg dst n) (domL dst) (j + 1)).take (min 32 (min n.toNat (32 * (j + 1)) - 32 * j))), x104, ys108, x106, x107⟩, ⟨by simp only; omega, by simp only; omega, rB2, by simp only; rw [hres.1]; omega, hres.2, c4.xl⟩, ?_, by simp only; omega⟩
    repeat' apply And.intro
    all_goals first | trivial | rfl | (simp only; omega)
  simp only [decide_eq_false_iff_not] at hj
  rw [List.take_of_length_le (by omega)] at q5
  have hres : res = expand msg dst n.toNat := by rw [q5, hexp j (by omega) (by omega)]
  exact hup.le (memL_sub [2, 17, 529, 1177, 1569, 1641] rfl (by decide) (by
    intro x hx
    simp only [List.mem_cons, List.not_mem_nil, or_false] at hx ⊢
    exact .inr (.inr (.inr (.inr (.inl hx)))))) (hK (by omega) (by omega) _ hres)
theorem exn_walk (dst : List Int) (l2 c2 : Nat) (n : Int) (K : SV → Mem → Prop) (hl2 : dst.length = l2) (hc2 : l2 ≤ c2) (hb2 : Bytes dst) (h2 : l2 ≤ 65536) (hn : 32 ≤ n) (hn2 : n ≤ 65536) (hup : KUp K)
    (hK1 : n > 8160 → ∀ s, K (.tup [.val (.slice none 0 0), .iface 73 (.ptr 633 (.lit 0))]) (memL [(633, ⟨false, .cells [.val (.string s)]⟩)]))
    (hK2 : n ≤ 8160 → l2 > 255 → ∀ s, K (.tup [.val (.slice none 0 0), .iface 73 (.ptr 657 (.lit 0))]) (memL [(657, ⟨false, .cells [.val (.string s)]⟩)]))
    (hK : n ≤ 8160 → l2 ≤ 255 → ∀ ys, ys = expand [] dst n.toNat → K (.tup [.slice 1569 (.lit 0) (.sym n.toNat) (.sym n.toNat), .val .nilIface]) (memL [(1569, ⟨false, .ints .u8 ys⟩)])) :
    execF cxEX (uEX 9 [] dst n) Tryd.f12 64 [.val (.slice none 0 0), .slice 9 (.lit 0) (.sym l2) (.sym c2), .int .i64 (.sym n)] (memL [(2, ⟨true, .ints .u32 kL⟩), (9, ⟨true, .ints .u8 dst⟩)]) K := by
  rw [vc_exn, take1 _ hl2]
  have hf : firstL [] dst n = sha (List.replicate 64 0 ++ [IntKind.u8.wrap (shrv .i64 n 8), IntKind.u8.wrap n, 0] ++ dst ++ [IntKind.u8.wrap ((l2 : Nat) : Int)]) := by
    unfold firstL domL
    rw [shr8 (by omega) (by omega), hl2]
    simp only [List.append_assoc, List.nil_append]
  have hfl : (firstL [] dst n).length = 32 := rfl
  have hfb : Bytes (firstL [] dst n) := sha_bytes _
  have hdom : domL dst = dst ++ [IntKind.u8.wrap ((l2 : Nat) : Int)] := by unfold domL; rw [hl2]
  have hexp : ∀ j : Nat, n ≤ 32 * (j : Int) → 32 * (j : Int) < n + 32 → expand [] dst n.toNat = (outN (firstL [] dst n) (domL dst) j).take n.toNat := fun j q1 q2 => by
    rw [expand_eq (i := j) (by omega) (by omega), show ((n.toNat : Nat) : Int) = n by omega]
  rintro ys0 rfl x1 rfl x2 hx2 x3 hx3
  rw [wrap64 (x := n + 32) (by omega) (by omega), wrap64 (by omega) (by omega)] at hx2
  rw [Int.tdiv_eq_ediv_of_nonneg (by omega), wrap64 (by omega) (by omega)] at hx3
  refine ⟨fun hbig => ?_, fun hbig => ?_⟩
  · simp only [decide_eq_true_eq] at hbig
    exact hup.le (memL_sub [2, 9, 529, 633] rfl (by decide) (by
      intro x hx
      simp only [List.mem_cons, List.not_mem_nil, or_false] at hx ⊢
      iterate 3 (apply Or.inr)
      exact hx)) (hK1 (by omega) _)
  simp only [decide_eq_false_iff_not] at hbig
  rintro x4 rfl
  refine ⟨fun hbig2 => ?_, fun hbig2 => ?_⟩
  · simp only [decide_eq_true_eq] at hbig2
    exact hup.le (memL_sub [2, 9, 529, 657] rfl (by decide) (by
      intro x hx
      simp only [List.mem_cons, List.not_mem_nil, or_false] at hx ⊢
      iterate 3 (apply Or.inr)
      exact hx)) (hK2 (by omega) (by omega) _)
  simp only [decide_eq_false_iff_not] at hbig2
  rintro x5 rfl x6 hx6
  rintro ys7 rfl
  refine ⟨by omega, ?_⟩
  refine ⟨Nat.le_refl _, [], ⟨rfl, Abs.empty rfl, ((bytes0 64).drop 0).take 64, rfl, Nat.le_refl _, by omega, by simp⟩, ?_⟩
  rintro x9 x10 x11 x12 a1 ys13 rfl
  have a1 : Abs (List.replicate 64 0) x9 ys13 x11 x12 := a1
  refine ⟨_, ⟨rfl, a1, by simp, by simp⟩, ?_⟩
  rintro x15 x16 x17 x18 a2 ys19 rfl x20 rfl x21 rfl x22 rfl
  refine ⟨Nat.le_refl _, _, ⟨rfl, a2, (bytes3.drop 0).take 3, rfl, Nat.le_refl _, by omega, by simp <;> omega⟩, ?_⟩
  rintro x24 x25 x26 x27 a3 ys28 rfl
  have a3 : Abs (List.replicate 64 0 ++ [IntKind.u8.wrap (shrv .i64 n 8), IntKind.u8.wrap n, 0]) x24 ys28 x26 x27 := a3
  refine ⟨by omega, _, ⟨rfl, a3, hb2, hl2, hc2, h2, by simp <;> omega⟩, ?_⟩
  rintro x30 x31 x32 x33 a4 ys34 rfl
  subst hx6
  refine ⟨Nat.le_refl _, _, ⟨rfl, a4, (bytes1.drop 0).take 1, rfl, Nat.le_refl _, by omega, by simp <;> omega⟩, ?_⟩
  rintro x36 x37 x38 x39 a5 ys40 rfl
  refine ⟨_, ⟨rfl, a5, by simp <;> omega⟩, ?_⟩
  rintro ys42 cap43 ⟨f1, f2, f3⟩ ys44 rfl
  have f1 : ys44.take 32 = firstL [] dst n := f1.trans hf.symm
  rintro ys45 rfl
  have hx64 := a5.xl
  refine ⟨by omega, _, ⟨rfl, Abs.empty hx64, (by rw [List.drop_zero, f1]; exact hfb), (by rw [List.drop_zero, f1]; rfl), f3, by omega, by simp⟩, ?_⟩
  rintro x47 x48 x49 x50 b1 ys51 rfl
  rw [List.drop_zero, f1, List.nil_append] at b1
  refine ⟨Nat.le_refl _, _, ⟨rfl, b1, by simp [Bytes], rfl, Nat.le_refl _, by omega, by rw [hfl]; omega⟩, ?_⟩
  rintro x53 x54 x55 x56 b2 ys57 rfl
  have b2 : Abs (firstL [] dst n ++ [1]) x53 ys57 x55 x56 := b2
  refine ⟨by omega, _, ⟨rfl, b2, hb2, hl2, hc2, h2, by rw [List.length_append, hfl]; simp⟩, ?_⟩
  rintro x59 x60 x61 x62 b3 ys63 rfl
  refine ⟨Nat.le_refl _, _, ⟨rfl, b3, (bytes1.drop 0).take 1, rfl, Nat.le_refl _, by omega, by rw [List.length_append, List.length_append, hfl]; simp; omega⟩, ?_⟩
  rintro x65 x66 x67 x68 b4 ys69 rfl
  refine ⟨_, ⟨rfl, b4, by rw [List.length_append, List.length_append, List.length_append, hfl]; simp; omega⟩, ?_⟩
  rintro ys71 cap72 ⟨g1, g2, g3⟩ ys73 rfl
  have g1 : ys73.take 32 = bI (firstL [] dst n) (domL dst) 1 := by
    rw [g1]
    show sha _ = sha _
    rw [show bI (firstL [] dst n) (domL dst) 0 = List.replicate 32 0 from rfl, xorL_zero hfl hfb, hdom]
    simp only [List.append_assoc]
    rfl
  have rF : Rw ys44 (firstL [] dst n) 32 cap43 := ⟨hfl, f3, f2, f1⟩
  have rB : Rw ys73 (bI (firstL [] dst n) (domL dst) 1) 32 cap72 := ⟨bI_length _ _ _, g3, g2, g1⟩
  have hr0 := res_step (res := List.replicate n.toNat 0) (o := outN (firstL [] dst n) (domL dst) 0) (b := bI (firstL [] dst n) (domL dst) 1) (n := n.toNat) (j := 0) (by simp) (by simp [outN]) rfl (bI_length _ _ _) (by omega)
  rw [show min 32 (min n.toNat (32 * (0 + 1)) - 32 * 0) = 32 by omega, List.take_of_length_le (l := bI (firstL [] dst n) (domL dst) 1) (by rw [bI_length]; exact Nat.le_refl _)] at hr0
  rw [List.drop_zero, g1, Nat.mul_one]
  refine ⟨by omega, by omega, ⟨by omega, by simp <;> omega⟩, ?_⟩
  refine ⟨⟨⟨1, ys73, cap72, splice (List.replicate n.toNat 0) 0 (bI (firstL [] dst n) (domL dst) 1), x65, ys69, x67, x68⟩, ⟨Nat.le_refl _, by simp only; omega, rB, by simp only; rw [hr0.1]; omega, hr0.2, b4.xl⟩, ?_⟩, ?_⟩
  · repeat' apply And.intro
    all_goals first | trivial | rfl
  clear hr0 g1 g2 g3 rB b4 b3 b2 b1 a5 a4 a3 a2 a1
  rintro ⟨j, b, bc, res, H, x, nx, len⟩ ⟨q1, q2, rB, q4, q5, q6⟩
  simp only at q1 q2 rB q4 q5 q6
  simp only
  have hFl := rF.le
  have hFn := rF.len
  have hBl := rB.le
  have hBn := rB.len
  refine ⟨fun hj => ?_, fun hj => ?_⟩
  · simp only [decide_eq_true_eq] at hj
    rintro ys76 rfl
    refine ⟨by omega, ?_⟩
    refine ⟨⟨(0, List.replicate 32 0), ⟨by simp, by simp, by simp⟩, ?_⟩, ?_⟩
    · repeat' apply And.intro
      all_goals first | trivial | rfl
    rintro ⟨k, w⟩ ⟨w1, w2, w3⟩
    simp only at w1 w2 w3
    simp only [Int.toNat_natCast, Nat.mul_one]
    refine ⟨fun hk => ?_, fun hk => ?_⟩
    · simp only [decide_eq_true_eq] at hk
      refine ⟨by omega, by omega, ?_⟩
      rintro x79 rfl
      refine ⟨by omega, by omega, ?_⟩
      rintro x80 rfl x81 hx81
      refine ⟨by omega, by omega, ?_⟩
      rintro x82 hx82
      rw [wrap64 (by omega) (by omega)] at hx82
      refine ⟨(k + 1, w.set k x81), ⟨by simp only [List.length_set]; exact w1, ?_, by simp only; omega⟩, ?_, by simp only; omega⟩
      · simp only
        rw [xorL_take (by omega), ← w2, ← hx81, List.take_add_one, List.take_set_of_le (Nat.le_refl _)]
        simp [show k < w.length by omega]
      · repeat' apply And.intro
        all_goals first | trivial | rfl | (simp only; omega)
    simp only [decide_eq_false_iff_not] at hk
    obtain rfl : k = 32 := by omega
    rw [List.take_of_length_le (by omega), List.take_of_length_le (by rw [xorL_length]; exact Nat.le_refl _)] at w2
    have hxor : w = xorL (firstL [] dst n) (bI (firstL [] dst n) (domL dst) j) := by
      rw [w2]
      exact xorL_congr (by rw [rF.row, List.take_of_length_le (by rw [rF.xl]; exact Nat.le_refl _)]) (by rw [rB.row, List.take_of_length_le (by rw [rB.xl]; exact Nat.le_refl _)])
    have hwb : Bytes w := by rw [hxor]; exact xorL_bytes _ _
    have hw32 : List.take 32 (List.drop 0 w) = w := by rw [List.drop_zero, List.take_of_length_le (by omega)]
    rw [hw32]
    refine ⟨by omega, _, ⟨by trivial, Abs.empty q6, hwb, w1, Nat.le_refl _, by omega, by simp⟩, ?_⟩
    rintro x85 x86 x87 x88 c1 ys89 rfl x90 rfl
    rw [List.nil_append] at c1
    refine ⟨Nat.le_refl _, _, ⟨by trivial, c1, (bytes1.drop 0).take 1, rfl, Nat.le_refl _, by omega, by rw [w1]; omega⟩, ?_⟩
    rintro x92 x93 x94 x95 c2' ys96 rfl
    refine ⟨by omega, _, ⟨by trivial, c2', hb2, hl2, hc2, h2, by rw [List.length_append, w1]; simp⟩, ?_⟩
    rintro x98 x99 x100 x101 c3 ys102 rfl
    refine ⟨Nat.le_refl _, _, ⟨by trivial, c3, (bytes1.drop 0).take 1, rfl, Nat.le_refl _, by omega, by rw [List.length_append, List.length_append, w1]; simp; omega⟩, ?_⟩
    rintro x104 x105 x106 x107 c4 ys108 rfl
    refine ⟨_, ⟨by trivial, c4, by rw [List.length_append, List.length_append, List.length_append, w1]; simp; omega⟩, ?_⟩
    rintro ys110 cap111 ⟨g1, g2, g3⟩ ys112 rfl
    have g1 : ys112.take 32 = bI (firstL [] dst n) (domL dst) (j + 1) := by
      rw [g1]
      show sha _ = sha _
      rw [← hxor, hdom]
      simp only [List.append_assoc]
      rfl
    have rB2 : Rw ys112 (bI (firstL [] dst n) (domL dst) (j + 1)) 32 cap111 := ⟨bI_length _ _ _, g3, g2, g1⟩
    rintro x113 hx113 x114 hx114 x115 hx115 x116 hx116 x117 hx117
    rw [wrap64 (by omega) (by omega)] at hx113
    rw [hx113, wrap64 (by omega) (by omega)] at hx114
    rw [wrap64 (by omega) (by omega)] at hx115
    have e114 : x114.toNat = 32 * j := by omega
    have e117 : x117 = ((min n.toNat (32 * (j + 1)) : Nat) : Int) := by
      rw [hx117]
      split <;> omega
    have e117' : x117.toNat = min n.toNat (32 * (j + 1)) := by omega
    have hres := res_step (res := res) (o := outN (firstL [] dst n) (domL dst) j) (b := bI (firstL [] dst n) (domL dst) (j + 1)) (n := n.toNat) (j := j) (by omega) q5 (outN_length _ _ _) (bI_length _ _ _) (by omega)
    have htk : List.take (min 32 (x117.toNat - x114.toNat)) (List.drop 0 ys112) = (bI (firstL [] dst n) (domL dst) (j + 1)).take (min 32 (min n.toNat (32 * (j + 1)) - 32 * j)) := by
      rw [List.drop_zero, ← g1, List.take_take, e117', e114]
      congr 1
      omega
    rw [htk, if_neg (by omega), e114]
    refine ⟨⟨⟨by omega, by omega⟩, by omega, by omega⟩, ⟨by omega, by omega⟩, ?_⟩
    rintro x118 hx118
    rw [wrap64 (by omega) (by omega)] at hx118
    refine ⟨⟨j + 1, ys112, cap111, splice res (32 * j) ((bI (firstL [] dst n) (domL dst) (j + 1)).take (min 32 (min n.toNat (32 * (j + 1)) - 32 * j))), x104, ys108, x106, x107⟩, ⟨by simp only; omega, by simp only; omega, rB2, by simp only; rw [hres.1]; omega, hres.2, c4.xl⟩, ?_, by simp only; omega⟩
    repeat' apply And.intro
    all_goals first | trivial | rfl | (simp only; omega)
  simp only [decide_eq_false_iff_not] at hj
  rw [List.take_of_length_le (by omega)] at q5
  have hres : res = expand [] dst n.toNat := by rw [q5, hexp j (by omega) (by omega)]
  exact hup.le (memL_sub [2, 9, 529, 1177, 1569, 1641] rfl (by decide) (by
    intro x hx
    simp only [List.mem_cons, List.not_mem_nil, or_false] at hx ⊢
    exact .inr (.inr (.inr (.inr (.inl hx)))))) (hK (by omega) (by omega) _ hres)
end Go.Sx

/- The contracts of slices.Clone, hash.ExpandMsgXmd, spec.Expand. -/
namespace Go.Sx
open Go Go.Proofs
set_option maxRecDepth 100000
theorem vc_clone (xs : List Int) (l c : Nat) (K : SV → Mem → Prop) : (execF cx0 u0 Tryd.f7 64 [.slice 1 (.lit 0) (.sym l) (.sym c)] (memL [(1, ⟨true, .ints .u8 xs⟩)]) K) =
  ((((((0 : Nat) ≤ (0 : Nat)) ∧
 ((0 : Nat) ≤ (0 : Nat))) ∧
 ((Nat.le ((0 : Nat) + (l * (1 : Nat))) (List.length xs)) ∧
 (((((0 : Nat) + l) * (1 : Nat)) ≤ (549755813888 : Nat)) ∧
 (((0 : Nat) + l) ≤ (549755813888 : Nat))))) ∧
 (∀ (cap0 : Nat), (∀ (ys1 : (List Int)), (((((0 : Nat) + l) ≤ cap0) ∧
 (((List.length ys1) = (cap0 * (1 : Nat))) ∧
 ((List.take (((0 : Nat) + l) * (1 : Nat)) ys1) = ((List.take (0 : Nat) (List.drop (0 : Nat) [])) ++ (List.take (l * (1 : Nat)) (List.drop (0 : Nat) xs)))))) → (K (Go.Sx.SV.slice (553 : Nat) (Go.Sx.N.lit (0 : Nat)) (Go.Sx.N.sym l) (Go.Sx.N.sym cap0)) (Go.Sx.memL [((1 : Nat), (Go.Sx.Reg.mk Bool.true (Go.Sx.Ct.ints Go.IntKind.u8 xs))), ((553 : Nat), (Go.Sx.Reg.mk Bool.false (Go.Sx.Ct.ints Go.IntKind.u8 ys1)))]))))))) := by kernel_rfl
theorem vc_clonen (K : SV → Mem → Prop) : (execF cx0 u0 Tryd.f7 64 [.val (.slice none 0 0)] (memL []) K) =
  ((K (Go.Sx.SV.val (Go.Value.slice Option.none (0 : Nat) (0 : Nat))) Go.Sx.Tr.leaf)) := by kernel_rfl

def gClone : G0 := fun args l K =>
  match args, l with
  | [.slice 1 (.lit 0) (.sym n) (.sym _)], [(1, ⟨true, .ints .u8 xs⟩)] =>
    (xs.length = n ∧ n ≤ 2 ^ 39) ∧ ∀ ys cap, Rw ys xs n cap → K (.slice 553 (.lit 0) (.sym n) (.sym cap)) (memL [(553, ⟨false, .ints .u8 ys⟩)])
  | [.val (.slice none 0 0)], [] => K (.val (.slice none 0 0)) (memL [])
  | _, _ => False
theorem clone_good : Good gClone := by
  constructor
  · intro args l K K' hk h
    unfold gClone at h ⊢
    split at h
    · exact ⟨h.1, fun ys cap hy => hk _ _ (h.2 ys cap hy)⟩
    · exact hk _ _ h
    · exact h.elim
  · intro args l K h
    unfold gClone at h
    split at h
    · obtain ⟨⟨rfl, _⟩, h2⟩ := h
      exact ⟨_, _, h2 _ _ (Rw.self _)⟩
    · exact ⟨_, _, h⟩
    · exact h.elim
theorem clone_ok (args : List SV) (l : List (Nat × Reg)) (K : SV → Mem → Prop) (hup : KUp K) (h : gClone args l K) : ∃ U, execF cx0 U Tryd.f7 64 args (memL l) K := by
  refine ⟨u0, ?_⟩
  unfold gClone at h
  split at h
  · obtain ⟨⟨h1, h2⟩, h3⟩ := h
    rw [vc_clone]
    refine ⟨⟨by omega, nle (by omega), by omega, by omega⟩, fun cap ys e => ?_⟩
    exact hup.le (memL_sub [1, 553] rfl (by decide) (by
      intro x hx
      simp only [List.mem_cons, List.not_mem_nil, or_false] at hx ⊢
      exact .inr hx)) (h3 _ _ (Rw.first h1 e))
  · rw [vc_clonen]
    exact h
  · exact h.elim
def cClone : Ef Tryd.prog := mkE mixed 7 Tryd.func7 (by decide) (by kernel_rfl) [] [.sl 1 true] gClone clone_good clone_ok

/-- What is met behind ExpandMsgXmd. -/
def exK (msg dst : List Int) (n : Int) (K : SV → Mem → Prop) : Prop :=
  (n > 8160 → ∀ s, K (.tup [.val (.slice none 0 0), .iface 73 (.ptr 633 (.lit 0))]) (memL [(633, ⟨false, .cells [.val (.string s)]⟩)])) ∧
  (n ≤ 8160 → dst.length > 255 → ∀ s, K (.tup [.val (.slice none 0 0), .iface 73 (.ptr 657 (.lit 0))]) (memL [(657, ⟨false, .cells [.val (.string s)]⟩)])) ∧
  (n ≤ 8160 → dst.length ≤ 255 → ∀ ys, ys = expand msg dst n.toNat → K (.tup [.slice 1569 (.lit 0) (.sym n.toNat) (.sym n.toNat), .val .nilIface]) (memL [(1569, ⟨false, .ints .u8 ys⟩)]))
def gEX : G0 := fun args l K =>
  match args, l with
  | [.slice 9 (.lit 0) (.sym n1) (.sym c1), .slice 17 (.lit 0) (.sym n2) (.sym c2), .int .i64 (.sym n)], [(2, ⟨true, .ints .u32 ks⟩), (9, ⟨true, .ints .u8 msg⟩), (17, ⟨true, .ints .u8 dst⟩)] =>
    (ks = kL ∧ msg.length = n1 ∧ dst.length = n2 ∧ n1 ≤ c1 ∧ n2 ≤ c2 ∧ Bytes msg ∧ Bytes dst ∧ n1 ≤ 65536 ∧ n2 ≤ 65536 ∧ 32 ≤ n ∧ n ≤ 65536) ∧ exK msg dst n K
  | [.val (.slice none 0 0), .slice 9 (.lit 0) (.sym n2) (.sym c2), .int .i64 (.sym n)], [(2, ⟨true, .ints .u32 ks⟩), (9, ⟨true, .ints .u8 dst⟩)] =>
    (ks = kL ∧ dst.length = n2 ∧ n2 ≤ c2 ∧ Bytes dst ∧ n2 ≤ 65536 ∧ 32 ≤ n ∧ n ≤ 65536) ∧ exK [] dst n K
  | _, _ => False
theorem exK_mono {msg dst : List Int} {n : Int} {K K' : SV → Mem → Prop} (hk : ∀ v m, K v m → K' v m) (h : exK msg dst n K) : exK msg dst n K' :=
  ⟨fun a s => hk _ _ (h.1 a s), fun a b s => hk _ _ (h.2.1 a b s), fun a b ys e => hk _ _ (h.2.2 a b ys e)⟩
theorem exK_live {msg dst : List Int} {n : Int} {K : SV → Mem → Prop} (h : exK msg dst n K) : ∃ v m, K v m := by
  by_cases h1 : n > 8160
  · exact ⟨_, _, h.1 h1 .empty⟩
  · by_cases h2 : dst.length > 255
    · exact ⟨_, _, h.2.1 (by omega) h2 .empty⟩
    · exact ⟨_, _, h.2.2 (by omega) (by omega) _ rfl⟩
theorem ex_good : Good gEX := by
  constructor
  · intro args l K K' hk h
    unfold gEX at h ⊢
    split at h
    · exact ⟨h.1, exK_mono hk h.2⟩
    · exact ⟨h.1, exK_mono hk h.2⟩
    · exact h.elim
  · intro args l K h
    unfold gEX at h
    split at h
    · exact exK_live h.2
    · exact exK_live h.2
    · exact h.elim
theorem ex_ok (args : List SV) (l : List (Nat × Reg)) (K : SV → Mem → Prop) (hup : KUp K) (h : gEX args l K) : ∃ U, execF cxEX U Tryd.f12 64 args (memL l) K := by
  unfold gEX at h
  split at h
  · rename_i n1 c1 n2 c2 n ks msg dst
    obtain ⟨⟨hk, h1, h2, h3, h4, h5, h6, h7, h8, h9, h10⟩, ha, hb, hc⟩ := h
    subst hk
    subst h2
    exact ⟨uEX 17 msg dst n, ex_walk msg dst n1 c1 _ c2 n K h1 rfl h3 h4 h5 h6 h7 h8 h9 h10 hup ha hb hc⟩
  · rename_i n2 c2 n ks dst
    obtain ⟨⟨hk, h2, h4, h6, h8, h9, h10⟩, ha, hb, hc⟩ := h
    subst hk
    subst h2
    exact ⟨uEX 9 [] dst n, exn_walk dst _ c2 n K rfl h4 h6 h8 h9 h10 hup ha hb hc⟩
  · exact h.elim
def cEX : Ef Tryd.prog := mkE mixed 12 Tryd.func12 (by decide) (by kernel_rfl) [1] [.sl 1 true, .sl 1 true, .num] gEX ex_good ex_ok

def gSE : G0 := fun args l K =>
  match args, l with
  | [.slice 1 (.lit 0) (.sym n1) (.sym _), .slice 9 (.lit 0) (.sym n2) (.sym _), .int .i64 (.sym n)], [(1, ⟨true, .ints .u8 msg⟩), (9, ⟨true, .ints .u8 dst⟩)] =>
    (msg.length = n1 ∧ dst.length = n2 ∧ Bytes msg ∧ Bytes dst ∧ n1 ≤ 65536 ∧ n2 ≤ 65536 ∧ 0 ≤ n ∧ n ≤ 65536) ∧
      ∀ ys cap, Rw ys (expand msg dst n.toNat) n.toNat cap → K (.slice 737 (.lit 0) (.sym n.toNat) (.sym cap)) (memL [(737, ⟨false, .ints .u8 ys⟩)])
  | [.val (.slice none 0 0), .slice 1 (.lit 0) (.sym n2) (.sym _), .int .i64 (.sym n)], [(1, ⟨true, .ints .u8 dst⟩)] =>
    (dst.length = n2 ∧ Bytes dst ∧ n2 ≤ 65536 ∧ 0 ≤ n ∧ n ≤ 65536) ∧
      ∀ ys cap, Rw ys (expand [] dst n.toNat) n.toNat cap → K (.slice 737 (.lit 0) (.sym n.toNat) (.sym cap)) (memL [(737, ⟨false, .ints .u8 ys⟩)])
  | _, _ => False
theorem Rw.made {xs : List Int} {n : Nat} (h : xs.length = n) : Rw xs xs n n := ⟨h, Nat.le_refl _, h, List.take_of_length_le (by omega)⟩
theorem se_good : Good gSE := by
  constructor
  · intro args l K K' hk h
    unfold gSE at h ⊢
    split at h
    · exact ⟨h.1, fun ys cap hy => hk _ _ (h.2 ys cap hy)⟩
    · exact ⟨h.1, fun ys cap hy => hk _ _ (h.2 ys cap hy)⟩
    · exact h.elim
  · intro args l K h
    unfold gSE at h
    split at h
    · exact ⟨_, _, h.2 _ _ (Rw.made (expand_length _ _ _))⟩
    · exact ⟨_, _, h.2 _ _ (Rw.made (expand_length _ _ _))⟩
    · exact h.elim
theorem se_ok (args : List SV) (l : List (Nat × Reg)) (K : SV → Mem → Prop) (hup : KUp K) (h : gSE args l K) : ∃ U, execF cxSE U Tryd.f9 64 args (memL l) K := by
  unfold gSE at h
  split at h
  · rename_i n1 c1 n2 c2 n msg dst
    obtain ⟨⟨h1, h2, h5, h6, h7, h8, h9, h10⟩, hc⟩ := h
    exact ⟨uSE msg dst n, se_walk msg dst n1 c1 n2 c2 n K h1 h2 h5 h6 h7 h8 h9 h10 hup hc⟩
  · rename_i n2 c2 n dst
    obtain ⟨⟨h2, h6, h8, h9, h10⟩, hc⟩ := h
    exact ⟨uSE [] dst n, sen_walk dst n2 c2 n K h2 h6 h8 h9 h10 hup hc⟩
  · exact h.elim
def cSE : Ef Tryd.prog := mkNw mixed 9 Tryd.func9 (by decide) (by kernel_rfl) [] [.sl 1 true, .sl 1 true, .num] gSE se_good se_ok
end Go.Sx

/- The loop of fp.Hash. -/
namespace Go.Sx
open Go Go.Proofs
set_option maxRecDepth 100000
def cxFH : Cx Tryd.prog := { rds := [], efs := [cEX, cSY], eqs := [] }
def elW (x : Nat) : List Int := [lm x 0, lm x 1, lm x 2, lm x 3]
def hfW (f : Nat → Nat) : Nat → List Int
  | 0 => []
  | n + 1 => hfW f n ++ elW (f n)
/-- The number of 48 bytes. -/
def chN (ys : List Int) (j : Nat) : Nat := beN ((ys.drop (48 * j)).take 48)
def liFH (ys : List Int) (n : Nat) : LI where
  ι := Nat × List Int
  keep := [9, 11, 27]
  keepR := [2, 577]
  F := fun s => ⟨[(28, i64n s.1)], [(649, ⟨false, .ints .u64 s.2⟩)]⟩
  I := fun _ s => s.1 ≤ n ∧ s.2.length = n * 4 ∧ s.2.take (4 * s.1) = hfW (fun j => mont (chN ys j)) s.1
  μ := fun s => n - s.1
def uFH (ys : List Int) (n : Nat) : Nat → Lp := fun b => match b with | 0 => .inv (liFH ys n) | _ => .un 0
end Go.Sx

/- The contract of fp.Hash. -/
namespace Go.Sx
open Go Go.Proofs
set_option maxRecDepth 100000
theorem vc_fh (ex msg dst : List Int) (l c l2 c2 : Nat) (n : Int) (K : SV → Mem → Prop) : (execF cxFH (uFH ex n.toNat) Tryd.f6 64 [.slice 9 (.lit 0) (.sym l) (.sym c), .slice 17 (.lit 0) (.sym l2) (.sym c2), .int .i64 (.sym n)] (memL [(2, ⟨true, .ints .u32 kL⟩), (9, ⟨true, .ints .u8 msg⟩), (17, ⟨true, .ints .u8 dst⟩)]) K) =
  ((∀ (x0 : Int), ((x0 = (Go.IntKind.wrap Go.IntKind.i64 (n * (48 : Int)))) → (((((0 : Nat) + (l * (1 : Nat))) ≤ (List.length msg)) ∧
 (((0 : Nat) + (l2 * (1 : Nat))) ≤ (List.length dst))) ∧
 (((Go.Sx.kL = Go.Sx.kL) ∧
 (((List.length (List.take (l * (1 : Nat)) (List.drop (0 : Nat) msg))) = l) ∧
 (((List.length (List.take (l2 * (1 : Nat)) (List.drop (0 : Nat) dst))) = l2) ∧
 ((l ≤ c) ∧
 ((l2 ≤ c2) ∧
 ((Go.Sx.Bytes (List.take (l * (1 : Nat)) (List.drop (0 : Nat) msg))) ∧
 ((Go.Sx.Bytes (List.take (l2 * (1 : Nat)) (List.drop (0 : Nat) dst))) ∧
 ((l ≤ (65536 : Nat)) ∧
 ((l2 ≤ (65536 : Nat)) ∧
 (((32 : Int) ≤ x0) ∧
 (x0 ≤ (65536 : Int)))))))))))) ∧
 (((x0 > (8160 : Int)) → (∀ (s1 : ByteArray), (K (Go.Sx.SV.tup [(Go.Sx.SV.val (Go.Value.slice Option.none (0 : Nat) (0 : Nat))), (Go.Sx.SV.iface (73 : Go.TypeId) (Go.Sx.SV.ptr (577 : Nat) (Go.Sx.N.lit (0 : Nat))))]) (Go.Sx.memL [((2 : Nat), (Go.Sx.Reg.mk Bool.true (Go.Sx.Ct.ints Go.IntKind.u32 Go.Sx.kL))), ((9 : Nat), (Go.Sx.Reg.mk Bool.true (Go.Sx.Ct.ints Go.IntKind.u8 msg))), ((17 : Nat), (Go.Sx.Reg.mk Bool.true (Go.Sx.Ct.ints Go.IntKind.u8 dst))), ((577 : Nat), (Go.Sx.Reg.mk Bool.false (Go.Sx.Ct.cells [(Go.Sx.SV.val (Go.Value.string s1))])))])))) ∧
 (((x0 ≤ (8160 : Int)) → (((List.length (List.take (l2 * (1 : Nat)) (List.drop (0 : Nat) dst))) > (255 : Nat)) → (∀ (s2 : ByteArray), (K (Go.Sx.SV.tup [(Go.Sx.SV.val (Go.Value.slice Option.none (0 : Nat) (0 : Nat))), (Go.Sx.SV.iface (73 : Go.TypeId) (Go.Sx.SV.ptr (577 : Nat) (Go.Sx.N.lit (0 : Nat))))]) (Go.Sx.memL [((2 : Nat), (Go.Sx.Reg.mk Bool.true (Go.Sx.Ct.ints Go.IntKind.u32 Go.Sx.kL))), ((9 : Nat), (Go.Sx.Reg.mk Bool.true (Go.Sx.Ct.ints Go.IntKind.u8 msg))), ((17 : Nat), (Go.Sx.Reg.mk Bool.true (Go.Sx.Ct.ints Go.IntKind.u8 dst))), ((577 : Nat), (Go.Sx.Reg.mk Bool.false (Go.Sx.Ct.cells [(Go.Sx.SV.val (Go.Value.string s2))])))]))))) ∧
 ((x0 ≤ (8160 : Int)) → (((List.length (List.take (l2 * (1 : Nat)) (List.drop (0 : Nat) dst))) ≤ (255 : Nat)) → (∀ (ys3 : (List Int)), ((ys3 = (Go.Sx.expand (List.take (l * (1 : Nat)) (List.drop (0 : Nat) msg)) (List.take (l2 * (1 : Nat)) (List.drop (0 : Nat) dst)) (Int.toNat x0))) → (∀ (ys4 : (List Int)), ((ys4 = ys3) → ((((0 : Int) ≤ n) ∧
 (((n * (32 : Int)) ≤ (140737488355328 : Int)) ∧
 (n ≤ (140737488355328 : Int)))) ∧
 ((∃ (i05 : (Prod Nat (List Int))), ((((Prod.fst i05) ≤ (Int.toNat n)) ∧
 (((List.length (Prod.snd i05)) = ((Int.toNat n) * (4 : Nat))) ∧
 ((List.take ((4 : Nat) * (Prod.fst i05)) (Prod.snd i05)) = (Go.Sx.hfW (fun (j6 : Nat) => (Go.Sx.mont (Go.Sx.chN ex j6))) (Prod.fst i05))))) ∧
 (((((Int.toNat x0) = (Int.toNat x0)) ∧
 ((Int.toNat x0) = (Int.toNat x0))) ∧
 ((((Int.toNat n) = (Int.toNat n)) ∧
 ((Int.toNat n) = (Int.toNat n))) ∧
 ((n = n) ∧
 ((0 : Int) = (((Prod.fst i05) : Nat) : Int))))) ∧
 ((Go.Sx.kL = Go.Sx.kL) ∧
 ((ys4 = ys4) ∧
 ((List.replicate ((Int.toNat n) * (4 : Nat)) (0 : Int)) = (Prod.snd i05))))))) ∧
 (∀ (i7 : (Prod Nat (List Int))), ((((Prod.fst i7) ≤ (Int.toNat n)) ∧
 (((List.length (Prod.snd i7)) = ((Int.toNat n) * (4 : Nat))) ∧
 ((List.take ((4 : Nat) * (Prod.fst i7)) (Prod.snd i7)) = (Go.Sx.hfW (fun (j8 : Nat) => (Go.Sx.mont (Go.Sx.chN ex j8))) (Prod.fst i7))))) → ((((decide ((((Prod.fst i7) : Nat) : Int) < n)) = Bool.true) → ((((0 : Int) ≤ (((Prod.fst i7) : Nat) : Int)) ∧
 ((((Prod.fst i7) : Nat) : Int) < (((Int.toNat n) : Nat) : Int))) ∧
 (∀ (x9 : Int), ((x9 = (Go.IntKind.wrap Go.IntKind.i64 ((((Prod.fst i7) : Nat) : Int) * (48 : Int)))) → (∀ (x10 : Int), ((x10 = (Go.IntKind.wrap Go.IntKind.i64 ((((Prod.fst i7) : Nat) : Int) + (1 : Int)))) → (∀ (x11 : Int), ((x11 = (Go.IntKind.wrap Go.IntKind.i64 (x10 * (48 : Int)))) → (((((0 : Int) ≤ x11) ∧
 (x11 ≤ (((Int.toNat x0) : Nat) : Int))) ∧
 (((0 : Int) ≤ x9) ∧
 (x9 ≤ (((Int.toNat x11) : Nat) : Int)))) ∧
 ((((((Int.toNat (((Prod.fst i7) : Nat) : Int)) * (4 : Nat)) + (4 : Nat)) ≤ (List.length (Prod.snd i7))) ∧
 (((if ((Int.toNat x0) = (Int.toNat x9)) then (0 : Nat) else ((Int.toNat x9) * (1 : Nat))) + (((Int.toNat x11) - (Int.toNat x9)) * (1 : Nat))) ≤ (List.length ys4))) ∧
 ((((List.length (List.take (((Int.toNat x11) - (Int.toNat x9)) * (1 : Nat)) (List.drop (if ((Int.toNat x0) = (Int.toNat x9)) then (0 : Nat) else ((Int.toNat x9) * (1 : Nat))) ys4))) = ((Int.toNat x11) - (Int.toNat x9))) ∧
 ((((Int.toNat x11) - (Int.toNat x9)) ≠ (32 : Nat)) ∧
 ((((Int.toNat x11) - (Int.toNat x9)) < (1099511627776 : Nat)) ∧
 (Go.Sx.Bytes (List.take (((Int.toNat x11) - (Int.toNat x9)) * (1 : Nat)) (List.drop (if ((Int.toNat x0) = (Int.toNat x9)) then (0 : Nat) else ((Int.toNat x9) * (1 : Nat))) ys4)))))) ∧
 (∀ (r12 : Nat), ((r12 = (Go.Sx.mont (Go.Sx.beN (List.take (((Int.toNat x11) - (Int.toNat x9)) * (1 : Nat)) (List.drop (if ((Int.toNat x0) = (Int.toNat x9)) then (0 : Nat) else ((Int.toNat x9) * (1 : Nat))) ys4))))) → (((((Int.toNat (((Prod.fst i7) : Nat) : Int)) * (4 : Nat)) + (List.length [(Go.Sx.lm r12 (0 : Nat)), (Go.Sx.lm r12 (1 : Nat)), (Go.Sx.lm r12 (2 : Nat)), (Go.Sx.lm r12 (3 : Nat))])) ≤ (List.length (Prod.snd i7))) ∧
 (∀ (ys13 : (List Int)), ((ys13 = (Go.Sx.splice (Prod.snd i7) ((Int.toNat (((Prod.fst i7) : Nat) : Int)) * (4 : Nat)) [(Go.Sx.lm r12 (0 : Nat)), (Go.Sx.lm r12 (1 : Nat)), (Go.Sx.lm r12 (2 : Nat)), (Go.Sx.lm r12 (3 : Nat))])) → (∀ (x14 : Int), ((x14 = (Go.IntKind.wrap Go.IntKind.i64 ((((Prod.fst i7) : Nat) : Int) + (1 : Int)))) → (∃ (x15 : (Prod Nat (List Int))), ((((Prod.fst x15) ≤ (Int.toNat n)) ∧
 (((List.length (Prod.snd x15)) = ((Int.toNat n) * (4 : Nat))) ∧
 ((List.take ((4 : Nat) * (Prod.fst x15)) (Prod.snd x15)) = (Go.Sx.hfW (fun (j16 : Nat) => (Go.Sx.mont (Go.Sx.chN ex j16))) (Prod.fst x15))))) ∧
 ((((((Int.toNat x0) = (Int.toNat x0)) ∧
 ((Int.toNat x0) = (Int.toNat x0))) ∧
 ((((Int.toNat n) = (Int.toNat n)) ∧
 ((Int.toNat n) = (Int.toNat n))) ∧
 ((n = n) ∧
 (x14 = (((Prod.fst x15) : Nat) : Int))))) ∧
 ((Go.Sx.kL = Go.Sx.kL) ∧
 ((ys4 = ys4) ∧
 (ys13 = (Prod.snd x15))))) ∧
 (((Int.toNat n) - (Prod.fst x15)) < ((Int.toNat n) - (Prod.fst i7)))))))))))))))))))))))) ∧
 (((decide ((((Prod.fst i7) : Nat) : Int) < n)) = Bool.false) → (K (Go.Sx.SV.tup [(Go.Sx.SV.slice (649 : Nat) (Go.Sx.N.lit (0 : Nat)) (Go.Sx.N.sym (Int.toNat n)) (Go.Sx.N.sym (Int.toNat n))), (Go.Sx.SV.val Go.Value.nilIface)]) (Go.Sx.memL [((2 : Nat), (Go.Sx.Reg.mk Bool.true (Go.Sx.Ct.ints Go.IntKind.u32 Go.Sx.kL))), ((577 : Nat), (Go.Sx.Reg.mk Bool.false (Go.Sx.Ct.ints Go.IntKind.u8 ys4))), ((649 : Nat), (Go.Sx.Reg.mk Bool.false (Go.Sx.Ct.ints Go.IntKind.u64 (Prod.snd i7))))]))))))))))))))))))))) := by kernel_rfl
theorem vc_fhn (ex dst : List Int) (l2 c2 : Nat) (n : Int) (K : SV → Mem → Prop) : (execF cxFH (uFH ex n.toNat) Tryd.f6 64 [.val (.slice none 0 0), .slice 9 (.lit 0) (.sym l2) (.sym c2), .int .i64 (.sym n)] (memL [(2, ⟨true, .ints .u32 kL⟩), (9, ⟨true, .ints .u8 dst⟩)]) K) =
  ((∀ (x0 : Int), ((x0 = (Go.IntKind.wrap Go.IntKind.i64 (n * (48 : Int)))) → ((((0 : Nat) + (l2 * (1 : Nat))) ≤ (List.length dst)) ∧
 (((Go.Sx.kL = Go.Sx.kL) ∧
 (((List.length (List.take (l2 * (1 : Nat)) (List.drop (0 : Nat) dst))) = l2) ∧
 ((l2 ≤ c2) ∧
 ((Go.Sx.Bytes (List.take (l2 * (1 : Nat)) (List.drop (0 : Nat) dst))) ∧
 ((l2 ≤ (65536 : Nat)) ∧
 (((32 : Int) ≤ x0) ∧
 (x0 ≤ (65536 : Int)))))))) ∧
 (((x0 > (8160 : Int)) → (∀ (s1 : ByteArray), (K (Go.Sx.SV.tup [(Go.Sx.SV.val (Go.Value.slice Option.none (0 : Nat) (0 : Nat))), (Go.Sx.SV.iface (73 : Go.TypeId) (Go.Sx.SV.ptr (577 : Nat) (Go.Sx.N.lit (0 : Nat))))]) (Go.Sx.memL [((2 : Nat), (Go.Sx.Reg.mk Bool.true (Go.Sx.Ct.ints Go.IntKind.u32 Go.Sx.kL))), ((9 : Nat), (Go.Sx.Reg.mk Bool.true (Go.Sx.Ct.ints Go.IntKind.u8 dst))), ((577 : Nat), (Go.Sx.Reg.mk Bool.false (Go.Sx.Ct.cells [(Go.Sx.SV.val (Go.Value.string s1))])))])))) ∧
 (((x0 ≤ (8160 : Int)) → (((List.length (List.take (l2 * (1 : Nat)) (List.drop (0 : Nat) dst))) > (255 : Nat)) → (∀ (s2 : ByteArray), (K (Go.Sx.SV.tup [(Go.Sx.SV.val (Go.Value.slice Option.none (0 : Nat) (0 : Nat))), (Go.Sx.SV.iface (73 : Go.TypeId) (Go.Sx.SV.ptr (577 : Nat) (Go.Sx.N.lit (0 : Nat))))]) (Go.Sx.memL [((2 : Nat), (Go.Sx.Reg.mk Bool.true (Go.Sx.Ct.ints Go.IntKind.u32 Go.Sx.kL))), ((9 : Nat), (Go.Sx.Reg.mk Bool.true (Go.Sx.Ct.ints Go.IntKind.u8 dst))), ((577 : Nat), (Go.Sx.Reg.mk Bool.false (Go.Sx.Ct.cells [(Go.Sx.SV.val (Go.Value.string s2))])))]))))) ∧
 ((x0 ≤ (8160 : Int)) → (((List.length (List.take (l2 * (1 : Nat)) (List.drop (0 : Nat) dst))) ≤ (255 : Nat)) → (∀ (ys3 : (List Int)), ((ys3 = (Go.Sx.expand [] (List.take (l2 * (1 : Nat)) (List.drop (0 : Nat) dst)) (Int.toNat x0))) → (∀ (ys4 : (List Int)), ((ys4 = ys3) → ((((0 : Int) ≤ n) ∧
 (((n * (32 : Int)) ≤ (140737488355328 : Int)) ∧
 (n ≤ (140737488355328 : Int)))) ∧
 ((∃ (i05 : (Prod Nat (List Int))), ((((Prod.fst i05) ≤ (Int.toNat n)) ∧
 (((List.length (Prod.snd i05)) = ((Int.toNat n) * (4 : Nat))) ∧
 ((List.take ((4 : Nat) * (Prod.fst i05)) (Prod.snd i05)) = (Go.Sx.hfW (fun (j6 : Nat) => (Go.Sx.mont (Go.Sx.chN ex j6))) (Prod.fst i05))))) ∧
 (((((Int.toNat x0) = (Int.toNat x0)) ∧
 ((Int.toNat x0) = (Int.toNat x0))) ∧
 ((((Int.toNat n) = (Int.toNat n)) ∧
 ((Int.toNat n) = (Int.toNat n))) ∧
 ((n = n) ∧
 ((0 : Int) = (((Prod.fst i05) : Nat) : Int))))) ∧
 ((Go.Sx.kL = Go.Sx.kL) ∧
 ((ys4 = ys4) ∧
 ((List.replicate ((Int.toNat n) * (4 : Nat)) (0 : Int)) = (Prod.snd i05))))))) ∧
 (∀ (i7 : (Prod Nat (List Int))), ((((Prod.fst i7) ≤ (Int.toNat n)) ∧
 (((List.length (Prod.snd i7)) = ((Int.toNat n) * (4 : Nat))) ∧
 ((List.take ((4 : Nat) * (Prod.fst i7)) (Prod.snd i7)) = (Go.Sx.hfW (fun (j8 : Nat) => (Go.Sx.mont (Go.Sx.chN ex j8))) (Prod.fst i7))))) → ((((decide ((((Prod.fst i7) : Nat) : Int) < n)) = Bool.true) → ((((0 : Int) ≤ (((Prod.fst i7) : Nat) : Int)) ∧
 ((((Prod.fst i7) : Nat) : Int) < (((Int.toNat n) : Nat) : Int))) ∧
 (∀ (x9 : Int), ((x9 = (Go.IntKind.wrap Go.IntKind.i64 ((((Prod.fst i7) : Nat) : Int) * (48 : Int)))) → (∀ (x10 : Int), ((x10 = (Go.IntKind.wrap Go.IntKind.i64 ((((Prod.fst i7) : Nat) : Int) + (1 : Int)))) → (∀ (x11 : Int), ((x11 = (Go.IntKind.wrap Go.IntKind.i64 (x10 * (48 : Int)))) → (((((0 : Int) ≤ x11) ∧
 (x11 ≤ (((Int.toNat x0) : Nat) : Int))) ∧
 (((0 : Int) ≤ x9) ∧
 (x9 ≤ (((Int.toNat x11) : Nat) : Int)))) ∧
 ((((((Int.toNat (((Prod.fst i7) : Nat) : Int)) * (4 : Nat)) + (4 : Nat)) ≤ (List.length (Prod.snd i7))) ∧
 (((if ((Int.toNat x0) = (Int.toNat x9)) then (0 : Nat) else ((Int.toNat x9) * (1 : Nat))) + (((Int.toNat x11) - (Int.toNat x9)) * (1 : Nat))) ≤ (List.length ys4))) ∧
 ((((List.length (List.take (((Int.toNat x11) - (Int.toNat x9)) * (1 : Nat)) (List.drop (if ((Int.toNat x0) = (Int.toNat x9)) then (0 : Nat) else ((Int.toNat x9) * (1 : Nat))) ys4))) = ((Int.toNat x11) - (Int.toNat x9))) ∧
 ((((Int.toNat x11) - (Int.toNat x9)) ≠ (32 : Nat)) ∧
 ((((Int.toNat x11) - (Int.toNat x9)) < (1099511627776 : Nat)) ∧
 (Go.Sx.Bytes (List.take (((Int.toNat x11) - (Int.toNat x9)) * (1 : Nat)) (List.drop (if ((Int.toNat x0) = (Int.toNat x9)) then (0 : Nat) else ((Int.toNat x9) * (1 : Nat))) ys4)))))) ∧
 (∀ (r12 : Nat), ((r12 = (Go.Sx.mont (Go.Sx.beN (List.take (((Int.toNat x11) - (Int.toNat x9)) * (1 : Nat)) (List.drop (if ((Int.toNat x0) = (Int.toNat x9)) then (0 : Nat) else ((Int.toNat x9) * (1 : Nat))) ys4))))) → (((((Int.toNat (((Prod.fst i7) : Nat) : Int)) * (4 : Nat)) + (List.length [(Go.Sx.lm r12 (0 : Nat)), (Go.Sx.lm r12 (1 : Nat)), (Go.Sx.lm r12 (2 : Nat)), (Go.Sx.lm r12 (3 : Nat))])) ≤ (List.length (Prod.snd i7))) ∧
 (∀ (ys13 : (List Int)), ((ys13 = (Go.Sx.splice (Prod.snd i7) ((Int.toNat (((Prod.fst i7) : Nat) : Int)) * (4 : Nat)) [(Go.Sx.lm r12 (0 : Nat)), (Go.Sx.lm r12 (1 : Nat)), (Go.Sx.lm r12 (2 : Nat)), (Go.Sx.lm r12 (3 : Nat))])) → (∀ (x14 : Int), ((x14 = (Go.IntKind.wrap Go.IntKind.i64 ((((Prod.fst i7) : Nat) : Int) + (1 : Int)))) → (∃ (x15 : (Prod Nat (List Int))), ((((Prod.fst x15) ≤ (Int.toNat n)) ∧
 (((List.length (Prod.snd x15)) = ((Int.toNat n) * (4 : Nat))) ∧
 ((List.take ((4 : Nat) * (Prod.fst x15)) (Prod.snd x15)) = (Go.Sx.hfW (fun (j16 : Nat) => (Go.Sx.mont (Go.Sx.chN ex j16))) (Prod.fst x15))))) ∧
 ((((((Int.toNat x0) = (Int.toNat x0)) ∧
 ((Int.toNat x0) = (Int.toNat x0))) ∧
 ((((Int.toNat n) = (Int.toNat n)) ∧
 ((Int.toNat n) = (Int.toNat n))) ∧
 ((n = n) ∧
 (x14 = (((Prod.fst x15) : Nat) : Int))))) ∧
 ((Go.Sx.kL = Go.Sx.kL) ∧
 ((ys4 = ys4) ∧
 (ys13 = (Prod.snd x15))))) ∧
 (((Int.toNat n) - (Prod.fst x15)) < ((Int.toNat n) - (Prod.fst i7)))))))))))))))))))))))) ∧
 (((decide ((((Prod.fst i7) : Nat) : Int) < n)) = Bool.false) → (K (Go.Sx.SV.tup [(Go.Sx.SV.slice (649 : Nat) (Go.Sx.N.lit (0 : Nat)) (Go.Sx.N.sym (Int.toNat n)) (Go.Sx.N.sym (Int.toNat n))), (Go.Sx.SV.val Go.Value.nilIface)]) (Go.Sx.memL [((2 : Nat), (Go.Sx.Reg.mk Bool.true (Go.Sx.Ct.ints Go.IntKind.u32 Go.Sx.kL))), ((577 : Nat), (Go.Sx.Reg.mk Bool.false (Go.Sx.Ct.ints Go.IntKind.u8 ys4))), ((649 : Nat), (Go.Sx.Reg.mk Bool.false (Go.Sx.Ct.ints Go.IntKind.u64 (Prod.snd i7))))]))))))))))))))))))))) := by kernel_rfl

theorem fh_step {w : List Int} {n i r : Nat} {f : Nat → Nat} (hi : i < n) (hwl : w.length = n * 4) (hw : w.take (4 * i) = hfW f i) (hr : r = f i) :
    (splice w (i * 4) [lm r 0, lm r 1, lm r 2, lm r 3]).length = n * 4 ∧ (splice w (i * 4) [lm r 0, lm r 1, lm r 2, lm r 3]).take (4 * (i + 1)) = hfW f (i + 1) := by
  rw [Nat.mul_comm i 4]
  refine ⟨?_, ?_⟩
  · rw [splice_length (by simp only [List.length_cons, List.length_nil]; omega)]
    exact hwl
  · have := take_splice_mid (x := w) (n := 4 * i) (q := [lm r 0, lm r 1, lm r 2, lm r 3]) (by omega)
    rw [show 4 * (i + 1) = 4 * i + [lm r 0, lm r 1, lm r 2, lm r 3].length by simp only [List.length_cons, List.length_nil]; omega, this, hw, hr]
    rfl
theorem fh_walk (msg dst : List Int) (l c l2 c2 : Nat) (n : Int) (K : SV → Mem → Prop) (h1 : msg.length = l) (h2 : dst.length = l2) (hc1 : l ≤ c) (hc2 : l2 ≤ c2) (b1 : Bytes msg) (b2 : Bytes dst) (m1 : l ≤ 65536) (m2 : l2 ≤ 65536) (n1 : 1 ≤ n) (n2 : n ≤ 170) (hup : KUp K)
    (hE : dst.length > 255 → ∀ s, K (.tup [.val (.slice none 0 0), .iface 73 (.ptr 577 (.lit 0))]) (memL [(577, ⟨false, .cells [.val (.string s)]⟩)]))
    (hS : dst.length ≤ 255 → ∀ ws, ws = hfW (fun j => mont (chN (expand msg dst (n * 48).toNat) j)) n.toNat → K (.tup [.slice 649 (.lit 0) (.sym n.toNat) (.sym n.toNat), .val .nilIface]) (memL [(649, ⟨false, .ints .u64 ws⟩)])) :
    execF cxFH (uFH (expand msg dst (n * 48).toNat) n.toNat) Tryd.f6 64 [.slice 9 (.lit 0) (.sym l) (.sym c), .slice 17 (.lit 0) (.sym l2) (.sym c2), .int .i64 (.sym n)] (memL [(2, ⟨true, .ints .u32 kL⟩), (9, ⟨true, .ints .u8 msg⟩), (17, ⟨true, .ints .u8 dst⟩)]) K := by
  have t1 : List.take (l * 1) (List.drop 0 msg) = msg := by rw [Nat.mul_one, List.drop_zero, ← h1, List.take_length]
  have t2 : List.take (l2 * 1) (List.drop 0 dst) = dst := by rw [Nat.mul_one, List.drop_zero, ← h2, List.take_length]
  rw [vc_fh]
  intro x0 h0
  rw [wrap64 (by omega) (by omega)] at h0
  simp only [t1, t2]
  refine ⟨⟨by omega, by omega⟩, ⟨trivial, h1, h2, hc1, hc2, b1, b2, m1, m2, by omega, by omega⟩, fun h => absurd h (by omega), fun _ h s => ?_, fun _ hd => ?_⟩
  · exact hup.le (memL_sub [2, 9, 17, 577] rfl (by decide) (by
      intro x hx
      simp only [List.mem_cons, List.not_mem_nil, or_false] at hx ⊢
      simp [hx])) (hE h s)
  · intro ys3 h3'
    intro ys4 h4
    have ey : ys4 = expand msg dst (n * 48).toNat := by rw [h4, h3', h0]
    refine ⟨⟨by omega, by omega, by omega⟩, ⟨(0, List.replicate (n.toNat * 4) 0), ⟨⟨Nat.zero_le _, by simp, by simp [hfW]⟩, by simp⟩⟩, ?_⟩
    rintro ⟨i, w⟩ ⟨hi, hwl, hw⟩
    dsimp only at hi hwl hw ⊢
    refine ⟨fun h => ?_, fun h => ?_⟩
    · simp only [decide_eq_true_eq] at h
      refine ⟨⟨by omega, by omega⟩, ?_⟩
      rintro x9 h9 x10 h10 x11 h11
      rw [wrap64 (by omega) (by omega)] at h9 h10
      rw [wrap64 (by omega) (by omega)] at h11
      have e9 : x9.toNat = 48 * i := by omega
      have e11 : x11.toNat = 48 * i + 48 := by omega
      have e0 : x0.toNat = 48 * n.toNat := by omega
      have yl : ys4.length = 48 * n.toNat := by rw [ey, expand_length]; omega
      have hi' : i < n.toNat := by omega
      simp only [e9, e11, e0, Int.toNat_natCast, Nat.mul_one]
      rw [if_neg (by omega), show 48 * i + 48 - 48 * i = 48 by omega]
      refine ⟨⟨⟨by omega, by omega⟩, by omega, by omega⟩, ⟨by omega, by omega⟩, ⟨?_, by decide, by decide, ?_⟩, ?_⟩
      · rw [List.length_take, List.length_drop]; omega
      · rw [ey]
        exact fun z hz => expand_bytes _ _ _ z (List.mem_of_mem_drop (List.mem_of_mem_take hz))
      intro r12 h12
      refine ⟨by simp only [List.length_cons, List.length_nil]; omega, ?_⟩
      rintro ys13 h13 x14 h14
      rw [wrap64 (by omega) (by omega)] at h14
      obtain ⟨s1, s2⟩ := fh_step (r := r12) hi' hwl hw (by rw [h12, ← ey]; rfl)
      rw [← h13] at s1 s2
      refine ⟨(i + 1, ys13), ⟨hi', s1, s2⟩, ?_⟩
      repeat' apply And.intro
      all_goals first | rfl | trivial | (simp only; omega)
    · simp only [decide_eq_false_iff_not] at h
      have hin : i = n.toNat := by omega
      have e : w = hfW (fun j => mont (chN (expand msg dst (n * 48).toNat) j)) n.toNat := by
        rw [hin, List.take_of_length_le (by omega)] at hw
        exact hw
      exact hup.le (memL_sub [2, 577, 649] rfl (by decide) (by
        intro x hx
        simp only [List.mem_cons, List.not_mem_nil, or_false] at hx ⊢
        simp [hx])) (hS hd w e)
theorem fhn_walk (dst : List Int) (l2 c2 : Nat) (n : Int) (K : SV → Mem → Prop) (h2 : dst.length = l2) (hc2 : l2 ≤ c2) (b2 : Bytes dst) (m2 : l2 ≤ 65536) (n1 : 1 ≤ n) (n2 : n ≤ 170) (hup : KUp K)
    (hE : dst.length > 255 → ∀ s, K (.tup [.val (.slice none 0 0), .iface 73 (.ptr 577 (.lit 0))]) (memL [(577, ⟨false, .cells [.val (.string s)]⟩)]))
    (hS : dst.length ≤ 255 → ∀ ws, ws = hfW (fun j => mont (chN (expand [] dst (n * 48).toNat) j)) n.toNat → K (.tup [.slice 649 (.lit 0) (.sym n.toNat) (.sym n.toNat), .val .nilIface]) (memL [(649, ⟨false, .ints .u64 ws⟩)])) :
    execF cxFH (uFH (expand [] dst (n * 48).toNat) n.toNat) Tryd.f6 64 [.val (.slice none 0 0), .slice 9 (.lit 0) (.sym l2) (.sym c2), .int .i64 (.sym n)] (memL [(2, ⟨true, .ints .u32 kL⟩), (9, ⟨true, .ints .u8 dst⟩)]) K := by
  have t2 : List.take (l2 * 1) (List.drop 0 dst) = dst := by rw [Nat.mul_one, List.drop_zero, ← h2, List.take_length]
  rw [vc_fhn]
  intro x0 h0
  rw [wrap64 (by omega) (by omega)] at h0
  simp only [t2]
  refine ⟨by omega, ⟨trivial, h2, hc2, b2, m2, by omega, by omega⟩, fun h => absurd h (by omega), fun _ h s => ?_, fun _ hd => ?_⟩
  · exact hup.le (memL_sub [2, 9, 577] rfl (by decide) (by
      intro x hx
      simp only [List.mem_cons, List.not_mem_nil, or_false] at hx ⊢
      simp [hx])) (hE h s)
  · intro ys3 h3'
    intro ys4 h4
    have ey : ys4 = expand [] dst (n * 48).toNat := by rw [h4, h3', h0]
    refine ⟨⟨by omega, by omega, by omega⟩, ⟨(0, List.replicate (n.toNat * 4) 0), ⟨⟨Nat.zero_le _, by simp, by simp [hfW]⟩, by simp⟩⟩, ?_⟩
    rintro ⟨i, w⟩ ⟨hi, hwl, hw⟩
    dsimp only at hi hwl hw ⊢
    refine ⟨fun h => ?_, fun h => ?_⟩
    · simp only [decide_eq_true_eq] at h
      refine ⟨⟨by omega, by omega⟩, ?_⟩
      rintro x9 h9 x10 h10 x11 h11
      rw [wrap64 (by omega) (by omega)] at h9 h10
      rw [wrap64 (by omega) (by omega)] at h11
      have e9 : x9.toNat = 48 * i := by omega
      have e11 : x11.toNat = 48 * i + 48 := by omega
      have e0 : x0.toNat = 48 * n.toNat := by omega
      have yl : ys4.length = 48 * n.toNat := by rw [ey, expand_length]; omega
      have hi' : i < n.toNat := by omega
      simp only [e9, e11, e0, Int.toNat_natCast, Nat.mul_one]
      rw [if_neg (by omega), show 48 * i + 48 - 48 * i = 48 by omega]
      refine ⟨⟨⟨by omega, by omega⟩, by omega, by omega⟩, ⟨by omega, by omega⟩, ⟨?_, by decide, by decide, ?_⟩, ?_⟩
      · rw [List.length_take, List.length_drop]; omega
      · rw [ey]
        exact fun z hz => expand_bytes _ _ _ z (List.mem_of_mem_drop (List.mem_of_mem_take hz))
      intro r12 h12
      refine ⟨by simp only [List.length_cons, List.length_nil]; omega, ?_⟩
      rintro ys13 h13 x14 h14
      rw [wrap64 (by omega) (by omega)] at h14
      obtain ⟨s1, s2⟩ := fh_step (r := r12) hi' hwl hw (by rw [h12, ← ey]; rfl)
      rw [← h13] at s1 s2
      refine ⟨(i + 1, ys13), ⟨hi', s1, s2⟩, ?_⟩
      repeat' apply And.intro
      all_goals first | rfl | trivial | (simp only; omega)
    · simp only [decide_eq_false_iff_not] at h
      have hin : i = n.toNat := by omega
      have e : w = hfW (fun j => mont (chN (expand [] dst (n * 48).toNat) j)) n.toNat := by
        rw [hin, List.take_of_length_le (by omega)] at hw
        exact hw
      exact hup.le (memL_sub [2, 577, 649] rfl (by decide) (by
        intro x hx
        simp only [List.mem_cons, List.not_mem_nil, or_false] at hx ⊢
        simp [hx])) (hS hd w e)
/-- What is met behind Hash. -/
def fhK (msg dst : List Int) (n : Int) (K : SV → Mem → Prop) : Prop :=
  (dst.length > 255 → ∀ s, K (.tup [.val (.slice none 0 0), .iface 73 (.ptr 577 (.lit 0))]) (memL [(577, ⟨false, .cells [.val (.string s)]⟩)])) ∧
  (dst.length ≤ 255 → ∀ ws, ws = hfW (fun j => mont (chN (expand msg dst (n * 48).toNat) j)) n.toNat → K (.tup [.slice 649 (.lit 0) (.sym n.toNat) (.sym n.toNat), .val .nilIface]) (memL [(649, ⟨false, .ints .u64 ws⟩)]))
def gFH : G0 := fun args l K =>
  match args, l with
  | [.slice 9 (.lit 0) (.sym n1) (.sym c1), .slice 17 (.lit 0) (.sym n2) (.sym c2), .int .i64 (.sym n)], [(2, ⟨true, .ints .u32 ks⟩), (9, ⟨true, .ints .u8 msg⟩), (17, ⟨true, .ints .u8 dst⟩)] =>
    (ks = kL ∧ msg.length = n1 ∧ dst.length = n2 ∧ n1 ≤ c1 ∧ n2 ≤ c2 ∧ Bytes msg ∧ Bytes dst ∧ n1 ≤ 65536 ∧ n2 ≤ 65536 ∧ 1 ≤ n ∧ n ≤ 170) ∧ fhK msg dst n K
  | [.val (.slice none 0 0), .slice 9 (.lit 0) (.sym n2) (.sym c2), .int .i64 (.sym n)], [(2, ⟨true, .ints .u32 ks⟩), (9, ⟨true, .ints .u8 dst⟩)] =>
    (ks = kL ∧ dst.length = n2 ∧ n2 ≤ c2 ∧ Bytes dst ∧ n2 ≤ 65536 ∧ 1 ≤ n ∧ n ≤ 170) ∧ fhK [] dst n K
  | _, _ => False
theorem fhK_mono {msg dst : List Int} {n : Int} {K K' : SV → Mem → Prop} (hk : ∀ v m, K v m → K' v m) (h : fhK msg dst n K) : fhK msg dst n K' :=
  ⟨fun a s => hk _ _ (h.1 a s), fun a ys e => hk _ _ (h.2 a ys e)⟩
theorem fhK_live {msg dst : List Int} {n : Int} {K : SV → Mem → Prop} (h : fhK msg dst n K) : ∃ v m, K v m := by
  by_cases h2 : dst.length > 255
  · exact ⟨_, _, h.1 h2 .empty⟩
  · exact ⟨_, _, h.2 (by omega) _ rfl⟩
theorem fh_good : Good gFH := by
  constructor
  · intro args l K K' hk h
    unfold gFH at h ⊢
    split at h
    · exact ⟨h.1, fhK_mono hk h.2⟩
    · exact ⟨h.1, fhK_mono hk h.2⟩
    · exact h.elim
  · intro args l K h
    unfold gFH at h
    split at h
    · exact fhK_live h.2
    · exact fhK_live h.2
    · exact h.elim
theorem fh_ok (args : List SV) (l : List (Nat × Reg)) (K : SV → Mem → Prop) (hup : KUp K) (h : gFH args l K) : ∃ U, execF cxFH U Tryd.f6 64 args (memL l) K := by
  unfold gFH at h
  split at h
  · rename_i n1 c1 n2 c2 n ks msg dst
    obtain ⟨⟨hk, h1, h2, h3, h4, h5, h6, h7, h8, h9, h10⟩, ha, hb⟩ := h
    subst hk
    exact ⟨_, fh_walk msg dst n1 c1 n2 c2 n K h1 h2 h3 h4 h5 h6 h7 h8 h9 h10 hup ha hb⟩
  · rename_i n2 c2 n ks dst
    obtain ⟨⟨hk, h2, h4, h6, h8, h9, h10⟩, ha, hb⟩ := h
    subst hk
    exact ⟨_, fhn_walk dst n2 c2 n K h2 h4 h6 h8 h9 h10 hup ha hb⟩
  · exact h.elim
def cFH : Ef Tryd.prog := mkE mixed 6 Tryd.func6 (by decide) (by kernel_rfl) [1] [.sl 1 true, .sl 1 true, .num] gFH fh_good fh_ok
end Go.Sx

/- The loops of spec.sum and spec.less. -/
namespace Go.Sx
open Go Go.Proofs
set_option maxRecDepth 100000
def ag4 (a b c d : Int) : SV := .agg [.int .u64 (.sym a), .int .u64 (.sym b), .int .u64 (.sym c), .int .u64 (.sym d)]
def pv (l : List Int) : Nat → Int
  | 0 => 0
  | i + 1 => pv l i + l.getD i 0 * 18446744073709551616 ^ i
structure WI where
  i : Nat
  c : Int
  o : List Int
def liSum (a b : List Int) : LI where
  ι := WI
  keep := [2, 3, 4, 5, 6]
  keepR := [529]
  F := fun s => ⟨[(7, .int .u64 (.sym s.c)), (8, i64n s.i)], [(513, ⟨false, .ints .u64 a⟩), (521, ⟨false, .ints .u64 b⟩), (553, ⟨false, .ints .u64 s.o⟩)]⟩
  I := fun _ s => s.i ≤ 4 ∧ s.o.length = 4 ∧ (∀ x ∈ s.o, Wd x) ∧ 0 ≤ s.c ∧ s.c ≤ 1 ∧ pv s.o s.i + s.c * 18446744073709551616 ^ s.i = pv a s.i + pv b s.i
  μ := fun s => 4 - s.i
def liDif (a b : List Int) : LI where
  ι := WI
  keep := [2, 3, 4, 5]
  keepR := [529]
  F := fun s => ⟨[(6, .int .u64 (.sym s.c)), (7, i64n s.i)], [(513, ⟨false, .ints .u64 a⟩), (521, ⟨false, .ints .u64 b⟩), (545, ⟨false, .ints .u64 s.o⟩)]⟩
  I := fun _ s => s.i ≤ 4 ∧ s.o.length = 4 ∧ (∀ x ∈ s.o, Wd x) ∧ 0 ≤ s.c ∧ s.c ≤ 1 ∧ pv s.o s.i = pv a s.i - pv b s.i + s.c * 18446744073709551616 ^ s.i
  μ := fun s => 4 - s.i
end Go.Sx

/- The contracts of spec.Less and spec.P. -/
namespace Go.Sx
open Go Go.Proofs
set_option maxRecDepth 100000
theorem vc_less (a0 a1 a2 a3 b0 b1 b2 b3 : Int) (K : SV → Mem → Prop) : (execF cx0 u9 Tryd.f35 64 [ag4 a0 a1 a2 a3, ag4 b0 b1 b2 b3] (memL []) K) =
  (((((a3 != b3) = Bool.true) → (K (Go.Sx.SV.bool (Go.Sx.B.sym (decide (a3 < b3)))) (Go.Sx.memL [((513 : Nat), (Go.Sx.Reg.mk Bool.false (Go.Sx.Ct.cells [(Go.Sx.SV.int Go.IntKind.u64 (Go.Sx.A.sym a0)), (Go.Sx.SV.int Go.IntKind.u64 (Go.Sx.A.sym a1)), (Go.Sx.SV.int Go.IntKind.u64 (Go.Sx.A.sym a2)), (Go.Sx.SV.int Go.IntKind.u64 (Go.Sx.A.sym a3))]))), ((521 : Nat), (Go.Sx.Reg.mk Bool.false (Go.Sx.Ct.cells [(Go.Sx.SV.int Go.IntKind.u64 (Go.Sx.A.sym b0)), (Go.Sx.SV.int Go.IntKind.u64 (Go.Sx.A.sym b1)), (Go.Sx.SV.int Go.IntKind.u64 (Go.Sx.A.sym b2)), (Go.Sx.SV.int Go.IntKind.u64 (Go.Sx.A.sym b3))])))]))) ∧
 (((a3 != b3) = Bool.false) → ((((a2 != b2) = Bool.true) → (K (Go.Sx.SV.bool (Go.Sx.B.sym (decide (a2 < b2)))) (Go.Sx.memL [((513 : Nat), (Go.Sx.Reg.mk Bool.false (Go.Sx.Ct.cells [(Go.Sx.SV.int Go.IntKind.u64 (Go.Sx.A.sym a0)), (Go.Sx.SV.int Go.IntKind.u64 (Go.Sx.A.sym a1)), (Go.Sx.SV.int Go.IntKind.u64 (Go.Sx.A.sym a2)), (Go.Sx.SV.int Go.IntKind.u64 (Go.Sx.A.sym a3))]))), ((521 : Nat), (Go.Sx.Reg.mk Bool.false (Go.Sx.Ct.cells [(Go.Sx.SV.int Go.IntKind.u64 (Go.Sx.A.sym b0)), (Go.Sx.SV.int Go.IntKind.u64 (Go.Sx.A.sym b1)), (Go.Sx.SV.int Go.IntKind.u64 (Go.Sx.A.sym b2)), (Go.Sx.SV.int Go.IntKind.u64 (Go.Sx.A.sym b3))])))]))) ∧
 (((a2 != b2) = Bool.false) → ((((a1 != b1) = Bool.true) → (K (Go.Sx.SV.bool (Go.Sx.B.sym (decide (a1 < b1)))) (Go.Sx.memL [((513 : Nat), (Go.Sx.Reg.mk Bool.false (Go.Sx.Ct.cells [(Go.Sx.SV.int Go.IntKind.u64 (Go.Sx.A.sym a0)), (Go.Sx.SV.int Go.IntKind.u64 (Go.Sx.A.sym a1)), (Go.Sx.SV.int Go.IntKind.u64 (Go.Sx.A.sym a2)), (Go.Sx.SV.int Go.IntKind.u64 (Go.Sx.A.sym a3))]))), ((521 : Nat), (Go.Sx.Reg.mk Bool.false (Go.Sx.Ct.cells [(Go.Sx.SV.int Go.IntKind.u64 (Go.Sx.A.sym b0)), (Go.Sx.SV.int Go.IntKind.u64 (Go.Sx.A.sym b1)), (Go.Sx.SV.int Go.IntKind.u64 (Go.Sx.A.sym b2)), (Go.Sx.SV.int Go.IntKind.u64 (Go.Sx.A.sym b3))])))]))) ∧
 (((a1 != b1) = Bool.false) → ((((a0 != b0) = Bool.true) → (K (Go.Sx.SV.bool (Go.Sx.B.sym (decide (a0 < b0)))) (Go.Sx.memL [((513 : Nat), (Go.Sx.Reg.mk Bool.false (Go.Sx.Ct.cells [(Go.Sx.SV.int Go.IntKind.u64 (Go.Sx.A.sym a0)), (Go.Sx.SV.int Go.IntKind.u64 (Go.Sx.A.sym a1)), (Go.Sx.SV.int Go.IntKind.u64 (Go.Sx.A.sym a2)), (Go.Sx.SV.int Go.IntKind.u64 (Go.Sx.A.sym a3))]))), ((521 : Nat), (Go.Sx.Reg.mk Bool.false (Go.Sx.Ct.cells [(Go.Sx.SV.int Go.IntKind.u64 (Go.Sx.A.sym b0)), (Go.Sx.SV.int Go.IntKind.u64 (Go.Sx.A.sym b1)), (Go.Sx.SV.int Go.IntKind.u64 (Go.Sx.A.sym b2)), (Go.Sx.SV.int Go.IntKind.u64 (Go.Sx.A.sym b3))])))]))) ∧
 (((a0 != b0) = Bool.false) → (K (Go.Sx.SV.bool (Go.Sx.B.lit Bool.false)) (Go.Sx.memL [((513 : Nat), (Go.Sx.Reg.mk Bool.false (Go.Sx.Ct.cells [(Go.Sx.SV.int Go.IntKind.u64 (Go.Sx.A.sym a0)), (Go.Sx.SV.int Go.IntKind.u64 (Go.Sx.A.sym a1)), (Go.Sx.SV.int Go.IntKind.u64 (Go.Sx.A.sym a2)), (Go.Sx.SV.int Go.IntKind.u64 (Go.Sx.A.sym a3))]))), ((521 : Nat), (Go.Sx.Reg.mk Bool.false (Go.Sx.Ct.cells [(Go.Sx.SV.int Go.IntKind.u64 (Go.Sx.A.sym b0)), (Go.Sx.SV.int Go.IntKind.u64 (Go.Sx.A.sym b1)), (Go.Sx.SV.int Go.IntKind.u64 (Go.Sx.A.sym b2)), (Go.Sx.SV.int Go.IntKind.u64 (Go.Sx.A.sym b3))])))]))))))))))) := by kernel_rfl

def rLs : R0 := fun args l =>
  match args, l with
  | [.agg [.int .u64 (.sym a0), .int .u64 (.sym a1), .int .u64 (.sym a2), .int .u64 (.sym a3)], .agg [.int .u64 (.sym b0), .int .u64 (.sym b1), .int .u64 (.sym b2), .int .u64 (.sym b3)]], [] =>
    some (some ((Wd a0 ∧ Wd a1 ∧ Wd a2 ∧ Wd a3) ∧ Wd b0 ∧ Wd b1 ∧ Wd b2 ∧ Wd b3), .bool (.sym (decide (V4 a0 a1 a2 a3 < V4 b0 b1 b2 b3))))
  | _, _ => none
theorem ls_ok (args : List SV) (l : List (Nat × Reg)) (p : Ob) (v : SV) (h : rLs args l = some (p, v)) (hp : p.ok) : ∃ U, execF cx0 U Tryd.f35 64 args (memL l) fun v' _ => ∀ β u, Den β v' u → Den β v u := by
  refine ⟨u9, ?_⟩
  unfold rLs at h
  split at h
  · rename_i a0 a1 a2 a3 b0 b1 b2 b3
    simp only [Option.some.injEq, Prod.mk.injEq] at h
    obtain ⟨rfl, rfl⟩ := h
    obtain ⟨⟨ha0, ha1, ha2, ha3⟩, hb0, hb1, hb2, hb3⟩ : (Wd a0 ∧ Wd a1 ∧ Wd a2 ∧ Wd a3) ∧ Wd b0 ∧ Wd b1 ∧ Wd b2 ∧ Wd b3 := hp
    unfold Wd at *
    have := vc_less a0 a1 a2 a3 b0 b1 b2 b3 fun v' _ => ∀ β u, Den β v' u → Den β (.bool (.sym (decide (V4 a0 a1 a2 a3 < V4 b0 b1 b2 b3)))) u
    unfold ag4 at this
    rw [this]
    simp only [bne_iff_ne, ne_eq, bne_eq_false_iff_eq]
    repeat' first
      | exact den_f (by unfold V4; omega)
      | exact den_s (by unfold V4; omega)
      | apply And.intro
      | intro _
  · cases h
def cLs : Rd Tryd.prog := mkQ mixed 35 Tryd.func35 (by decide) (by kernel_rfl) [] [.num, .num] rLs ls_ok
theorem vc_pp (K : SV → Mem → Prop) : execF cx0 u9 Tryd.f18 64 [] (memL []) K =
  K (.agg [.int .u64 (.lit 4332616871279656263), .int .u64 (.lit 10917124144477883021), .int .u64 (.lit 13281191951274694749), .int .u64 (.lit 3486998266802970665)])
    (memL [(513, ⟨false, .cells [.int .u64 (.lit 4332616871279656263), .int .u64 (.lit 10917124144477883021), .int .u64 (.lit 13281191951274694749), .int .u64 (.lit 3486998266802970665)]⟩)]) := by kernel_rfl
def rPP : R0 := fun args l =>
  match args, l with
  | [], [] => some (none, .agg [.int .u64 (.lit 4332616871279656263), .int .u64 (.lit 10917124144477883021), .int .u64 (.lit 13281191951274694749), .int .u64 (.lit 3486998266802970665)])
  | _, _ => none
theorem pp_ok (args : List SV) (l : List (Nat × Reg)) (p : Ob) (v : SV) (h : rPP args l = some (p, v)) (_ : p.ok) : ∃ U, execF cx0 U Tryd.f18 64 args (memL l) fun v' _ => v' = v := by
  refine ⟨u9, ?_⟩
  unfold rPP at h
  split at h
  · simp only [Option.some.injEq, Prod.mk.injEq] at h
    obtain ⟨rfl, rfl⟩ := h
    rw [vc_pp]
  · cases h
def cPP : Rd Tryd.prog := mkR mixed 18 Tryd.func18 (by decide) (by kernel_rfl) [] [] rPP pp_ok
end Go.Sx

/- The contract of spec.sum. -/
namespace Go.Sx
open Go Go.Proofs
set_option maxRecDepth 100000
theorem vc_wsum (a0 a1 a2 a3 b0 b1 b2 b3 : Int) (K : SV → Mem → Prop) : (execF cx0 (fun n => if n = 0 then .inv (liSum [a0,a1,a2,a3] [b0,b1,b2,b3]) else .un 0) Tryd.f34 64 [ag4 a0 a1 a2 a3, ag4 b0 b1 b2 b3] (memL []) K) =
  (((∃ (i00 : Go.Sx.WI), ((((Go.Sx.WI.i i00) ≤ (4 : Nat)) ∧
 (((List.length (Go.Sx.WI.o i00)) = (4 : Nat)) ∧
 ((∀ (x1 : Int), ((List.Mem x1 (Go.Sx.WI.o i00)) → (Go.Sx.Wd x1))) ∧
 (((0 : Int) ≤ (Go.Sx.WI.c i00)) ∧
 (((Go.Sx.WI.c i00) ≤ (1 : Int)) ∧
 (((Go.Sx.pv (Go.Sx.WI.o i00) (Go.Sx.WI.i i00)) + ((Go.Sx.WI.c i00) * ((18446744073709551616 : Int) ^ (Go.Sx.WI.i i00)))) = ((Go.Sx.pv [a0, a1, a2, a3] (Go.Sx.WI.i i00)) + (Go.Sx.pv [b0, b1, b2, b3] (Go.Sx.WI.i i00))))))))) ∧
 ((((0 : Int) = (Go.Sx.WI.c i00)) ∧
 ((0 : Int) = (((Go.Sx.WI.i i00) : Nat) : Int))) ∧
 (([a0, a1, a2, a3] = [a0, a1, a2, a3]) ∧
 (([b0, b1, b2, b3] = [b0, b1, b2, b3]) ∧
 ([(0 : Int), (0 : Int), (0 : Int), (0 : Int)] = (Go.Sx.WI.o i00))))))) ∧
 (∀ (i2 : Go.Sx.WI), ((((Go.Sx.WI.i i2) ≤ (4 : Nat)) ∧
 (((List.length (Go.Sx.WI.o i2)) = (4 : Nat)) ∧
 ((∀ (x3 : Int), ((List.Mem x3 (Go.Sx.WI.o i2)) → (Go.Sx.Wd x3))) ∧
 (((0 : Int) ≤ (Go.Sx.WI.c i2)) ∧
 (((Go.Sx.WI.c i2) ≤ (1 : Int)) ∧
 (((Go.Sx.pv (Go.Sx.WI.o i2) (Go.Sx.WI.i i2)) + ((Go.Sx.WI.c i2) * ((18446744073709551616 : Int) ^ (Go.Sx.WI.i i2)))) = ((Go.Sx.pv [a0, a1, a2, a3] (Go.Sx.WI.i i2)) + (Go.Sx.pv [b0, b1, b2, b3] (Go.Sx.WI.i i2))))))))) → ((((decide ((((Go.Sx.WI.i i2) : Nat) : Int) < (4 : Int))) = Bool.true) → ((((0 : Int) ≤ (((Go.Sx.WI.i i2) : Nat) : Int)) ∧
 ((((Go.Sx.WI.i i2) : Nat) : Int) < (4 : Int))) ∧
 (((((Int.toNat (((Go.Sx.WI.i i2) : Nat) : Int)) * (1 : Nat)) + (1 : Nat)) ≤ (List.length [a0, a1, a2, a3])) ∧
 (∀ (x4 : Int), ((x4 = (List.getD [a0, a1, a2, a3] ((Int.toNat (((Go.Sx.WI.i i2) : Nat) : Int)) * (1 : Nat)) (0 : Int))) → ((((0 : Int) ≤ (((Go.Sx.WI.i i2) : Nat) : Int)) ∧
 ((((Go.Sx.WI.i i2) : Nat) : Int) < (4 : Int))) ∧
 (((((Int.toNat (((Go.Sx.WI.i i2) : Nat) : Int)) * (1 : Nat)) + (1 : Nat)) ≤ (List.length [b0, b1, b2, b3])) ∧
 (∀ (x5 : Int), ((x5 = (List.getD [b0, b1, b2, b3] ((Int.toNat (((Go.Sx.WI.i i2) : Nat) : Int)) * (1 : Nat)) (0 : Int))) → (∀ (x6 : Int), ((x6 = (Go.IntKind.wrap Go.IntKind.u64 (x4 + x5))) → ((((0 : Int) ≤ (((Go.Sx.WI.i i2) : Nat) : Int)) ∧
 ((((Go.Sx.WI.i i2) : Nat) : Int) < (4 : Int))) ∧
 (((((Int.toNat (((Go.Sx.WI.i i2) : Nat) : Int)) * (1 : Nat)) + (1 : Nat)) ≤ (List.length [a0, a1, a2, a3])) ∧
 (∀ (x7 : Int), ((x7 = (List.getD [a0, a1, a2, a3] ((Int.toNat (((Go.Sx.WI.i i2) : Nat) : Int)) * (1 : Nat)) (0 : Int))) → ((((decide (x6 < x7)) = Bool.true) → (∀ (x8 : Int), ((x8 = (Go.IntKind.wrap Go.IntKind.u64 (x6 + (Go.Sx.WI.c i2)))) → ((((0 : Int) ≤ (((Go.Sx.WI.i i2) : Nat) : Int)) ∧
 ((((Go.Sx.WI.i i2) : Nat) : Int) < (4 : Int))) ∧
 ((((Int.toNat (((Go.Sx.WI.i i2) : Nat) : Int)) * (1 : Nat)) < (List.length (Go.Sx.WI.o i2))) ∧
 ((((0 : Int) ≤ (((Go.Sx.WI.i i2) : Nat) : Int)) ∧
 ((((Go.Sx.WI.i i2) : Nat) : Int) < (4 : Int))) ∧
 (((((Int.toNat (((Go.Sx.WI.i i2) : Nat) : Int)) * (1 : Nat)) + (1 : Nat)) ≤ (List.length (List.set (Go.Sx.WI.o i2) ((Int.toNat (((Go.Sx.WI.i i2) : Nat) : Int)) * (1 : Nat)) x8))) ∧
 (∀ (x9 : Int), ((x9 = (List.getD (List.set (Go.Sx.WI.o i2) ((Int.toNat (((Go.Sx.WI.i i2) : Nat) : Int)) * (1 : Nat)) x8) ((Int.toNat (((Go.Sx.WI.i i2) : Nat) : Int)) * (1 : Nat)) (0 : Int))) → ((((decide (x9 < x6)) = Bool.true) → (∀ (x10 : Int), ((x10 = (Go.IntKind.wrap Go.IntKind.i64 ((((Go.Sx.WI.i i2) : Nat) : Int) + (1 : Int)))) → (∃ (x11 : Go.Sx.WI), ((((Go.Sx.WI.i x11) ≤ (4 : Nat)) ∧
 (((List.length (Go.Sx.WI.o x11)) = (4 : Nat)) ∧
 ((∀ (x12 : Int), ((List.Mem x12 (Go.Sx.WI.o x11)) → (Go.Sx.Wd x12))) ∧
 (((0 : Int) ≤ (Go.Sx.WI.c x11)) ∧
 (((Go.Sx.WI.c x11) ≤ (1 : Int)) ∧
 (((Go.Sx.pv (Go.Sx.WI.o x11) (Go.Sx.WI.i x11)) + ((Go.Sx.WI.c x11) * ((18446744073709551616 : Int) ^ (Go.Sx.WI.i x11)))) = ((Go.Sx.pv [a0, a1, a2, a3] (Go.Sx.WI.i x11)) + (Go.Sx.pv [b0, b1, b2, b3] (Go.Sx.WI.i x11))))))))) ∧
 (((((1 : Int) = (Go.Sx.WI.c x11)) ∧
 (x10 = (((Go.Sx.WI.i x11) : Nat) : Int))) ∧
 (([a0, a1, a2, a3] = [a0, a1, a2, a3]) ∧
 (([b0, b1, b2, b3] = [b0, b1, b2, b3]) ∧
 ((List.set (Go.Sx.WI.o i2) ((Int.toNat (((Go.Sx.WI.i i2) : Nat) : Int)) * (1 : Nat)) x8) = (Go.Sx.WI.o x11))))) ∧
 (((4 : Nat) - (Go.Sx.WI.i x11)) < ((4 : Nat) - (Go.Sx.WI.i i2))))))))) ∧
 (((decide (x9 < x6)) = Bool.false) → (∀ (x13 : Int), ((x13 = (Go.IntKind.wrap Go.IntKind.i64 ((((Go.Sx.WI.i i2) : Nat) : Int) + (1 : Int)))) → (∃ (x14 : Go.Sx.WI), ((((Go.Sx.WI.i x14) ≤ (4 : Nat)) ∧
 (((List.length (Go.Sx.WI.o x14)) = (4 : Nat)) ∧
 ((∀ (x15 : Int), ((List.Mem x15 (Go.Sx.WI.o x14)) → (Go.Sx.Wd x15))) ∧
 (((0 : Int) ≤ (Go.Sx.WI.c x14)) ∧
 (((Go.Sx.WI.c x14) ≤ (1 : Int)) ∧
 (((Go.Sx.pv (Go.Sx.WI.o x14) (Go.Sx.WI.i x14)) + ((Go.Sx.WI.c x14) * ((18446744073709551616 : Int) ^ (Go.Sx.WI.i x14)))) = ((Go.Sx.pv [a0, a1, a2, a3] (Go.Sx.WI.i x14)) + (Go.Sx.pv [b0, b1, b2, b3] (Go.Sx.WI.i x14))))))))) ∧
 (((((1 : Int) = (Go.Sx.WI.c x14)) ∧
 (x13 = (((Go.Sx.WI.i x14) : Nat) : Int))) ∧
 (([a0, a1, a2, a3] = [a0, a1, a2, a3]) ∧
 (([b0, b1, b2, b3] = [b0, b1, b2, b3]) ∧
 ((List.set (Go.Sx.WI.o i2) ((Int.toNat (((Go.Sx.WI.i i2) : Nat) : Int)) * (1 : Nat)) x8) = (Go.Sx.WI.o x14))))) ∧
 (((4 : Nat) - (Go.Sx.WI.i x14)) < ((4 : Nat) - (Go.Sx.WI.i i2))))))))))))))))))) ∧
 (((decide (x6 < x7)) = Bool.false) → (∀ (x16 : Int), ((x16 = (Go.IntKind.wrap Go.IntKind.u64 (x6 + (Go.Sx.WI.c i2)))) → ((((0 : Int) ≤ (((Go.Sx.WI.i i2) : Nat) : Int)) ∧
 ((((Go.Sx.WI.i i2) : Nat) : Int) < (4 : Int))) ∧
 ((((Int.toNat (((Go.Sx.WI.i i2) : Nat) : Int)) * (1 : Nat)) < (List.length (Go.Sx.WI.o i2))) ∧
 ((((0 : Int) ≤ (((Go.Sx.WI.i i2) : Nat) : Int)) ∧
 ((((Go.Sx.WI.i i2) : Nat) : Int) < (4 : Int))) ∧
 (((((Int.toNat (((Go.Sx.WI.i i2) : Nat) : Int)) * (1 : Nat)) + (1 : Nat)) ≤ (List.length (List.set (Go.Sx.WI.o i2) ((Int.toNat (((Go.Sx.WI.i i2) : Nat) : Int)) * (1 : Nat)) x16))) ∧
 (∀ (x17 : Int), ((x17 = (List.getD (List.set (Go.Sx.WI.o i2) ((Int.toNat (((Go.Sx.WI.i i2) : Nat) : Int)) * (1 : Nat)) x16) ((Int.toNat (((Go.Sx.WI.i i2) : Nat) : Int)) * (1 : Nat)) (0 : Int))) → ((((decide (x17 < x6)) = Bool.true) → (∀ (x18 : Int), ((x18 = (Go.IntKind.wrap Go.IntKind.i64 ((((Go.Sx.WI.i i2) : Nat) : Int) + (1 : Int)))) → (∃ (x19 : Go.Sx.WI), ((((Go.Sx.WI.i x19) ≤ (4 : Nat)) ∧
 (((List.length (Go.Sx.WI.o x19)) = (4 : Nat)) ∧
 ((∀ (x20 : Int), ((List.Mem x20 (Go.Sx.WI.o x19)) → (Go.Sx.Wd x20))) ∧
 (((0 : Int) ≤ (Go.Sx.WI.c x19)) ∧
 (((Go.Sx.WI.c x19) ≤ (1 : Int)) ∧
 (((Go.Sx.pv (Go.Sx.WI.o x19) (Go.Sx.WI.i x19)) + ((Go.Sx.WI.c x19) * ((18446744073709551616 : Int) ^ (Go.Sx.WI.i x19)))) = ((Go.Sx.pv [a0, a1, a2, a3] (Go.Sx.WI.i x19)) + (Go.Sx.pv [b0, b1, b2, b3] (Go.Sx.WI.i x19))))))))) ∧
 (((((1 : Int) = (Go.Sx.WI.c x19)) ∧
 (x18 = (((Go.Sx.WI.i x19) : Nat) : Int))) ∧
 (([a0, a1, a2, a3] = [a0, a1, a2, a3]) ∧
 (([b0, b1, b2, b3] = [b0, b1, b2, b3]) ∧
 ((List.set (Go.Sx.WI.o i2) ((Int.toNat (((Go.Sx.WI.i i2) : Nat) : Int)) * (1 : Nat)) x16) = (Go.Sx.WI.o x19))))) ∧
 (((4 : Nat) - (Go.Sx.WI.i x19)) < ((4 : Nat) - (Go.Sx.WI.i i2))))))))) ∧
 (((decide (x17 < x6)) = Bool.false) → (∀ (x21 : Int), ((x21 = (Go.IntKind.wrap Go.IntKind.i64 ((((Go.Sx.WI.i i2) : Nat) : Int) + (1 : Int)))) → (∃ (x22 : Go.Sx.WI), ((((Go.Sx.WI.i x22) ≤ (4 : Nat)) ∧
 (((List.length (Go.Sx.WI.o x22)) = (4 : Nat)) ∧
 ((∀ (x23 : Int), ((List.Mem x23 (Go.Sx.WI.o x22)) → (Go.Sx.Wd x23))) ∧
 (((0 : Int) ≤ (Go.Sx.WI.c x22)) ∧
 (((Go.Sx.WI.c x22) ≤ (1 : Int)) ∧
 (((Go.Sx.pv (Go.Sx.WI.o x22) (Go.Sx.WI.i x22)) + ((Go.Sx.WI.c x22) * ((18446744073709551616 : Int) ^ (Go.Sx.WI.i x22)))) = ((Go.Sx.pv [a0, a1, a2, a3] (Go.Sx.WI.i x22)) + (Go.Sx.pv [b0, b1, b2, b3] (Go.Sx.WI.i x22))))))))) ∧
 (((((0 : Int) = (Go.Sx.WI.c x22)) ∧
 (x21 = (((Go.Sx.WI.i x22) : Nat) : Int))) ∧
 (([a0, a1, a2, a3] = [a0, a1, a2, a3]) ∧
 (([b0, b1, b2, b3] = [b0, b1, b2, b3]) ∧
 ((List.set (Go.Sx.WI.o i2) ((Int.toNat (((Go.Sx.WI.i i2) : Nat) : Int)) * (1 : Nat)) x16) = (Go.Sx.WI.o x22))))) ∧
 (((4 : Nat) - (Go.Sx.WI.i x22)) < ((4 : Nat) - (Go.Sx.WI.i i2))))))))))))))))))))))))))))))))))) ∧
 (((decide ((((Go.Sx.WI.i i2) : Nat) : Int) < (4 : Int))) = Bool.false) → (((4 : Nat) ≤ (List.length (Go.Sx.WI.o i2))) ∧
 (∀ (x24 : Int), ((x24 = (List.getD (Go.Sx.WI.o i2) (0 : Nat) (0 : Int))) → (∀ (x25 : Int), ((x25 = (List.getD (Go.Sx.WI.o i2) (1 : Nat) (0 : Int))) → (∀ (x26 : Int), ((x26 = (List.getD (Go.Sx.WI.o i2) (2 : Nat) (0 : Int))) → (∀ (x27 : Int), ((x27 = (List.getD (Go.Sx.WI.o i2) (3 : Nat) (0 : Int))) → (K (Go.Sx.SV.tup [(Go.Sx.SV.agg [(Go.Sx.SV.int Go.IntKind.u64 (Go.Sx.A.sym x24)), (Go.Sx.SV.int Go.IntKind.u64 (Go.Sx.A.sym x25)), (Go.Sx.SV.int Go.IntKind.u64 (Go.Sx.A.sym x26)), (Go.Sx.SV.int Go.IntKind.u64 (Go.Sx.A.sym x27))]), (Go.Sx.SV.bool (Go.Sx.B.sym ((Go.Sx.WI.c i2) == (1 : Int))))]) (Go.Sx.memL [((513 : Nat), (Go.Sx.Reg.mk Bool.false (Go.Sx.Ct.ints Go.IntKind.u64 [a0, a1, a2, a3]))), ((521 : Nat), (Go.Sx.Reg.mk Bool.false (Go.Sx.Ct.ints Go.IntKind.u64 [b0, b1, b2, b3]))), ((529 : Nat), (Go.Sx.Reg.mk Bool.false (Go.Sx.Ct.cells [(Go.Sx.SV.int Go.IntKind.u64 (Go.Sx.A.sym x24)), (Go.Sx.SV.int Go.IntKind.u64 (Go.Sx.A.sym x25)), (Go.Sx.SV.int Go.IntKind.u64 (Go.Sx.A.sym x26)), (Go.Sx.SV.int Go.IntKind.u64 (Go.Sx.A.sym x27))]))), ((553 : Nat), (Go.Sx.Reg.mk Bool.false (Go.Sx.Ct.ints Go.IntKind.u64 (Go.Sx.WI.o i2))))]))))))))))))))))) := by kernel_rfl

theorem pv_set (o : List Int) (i : Nat) (y : Int) : ∀ j, j ≤ i → pv (o.set i y) j = pv o j
  | 0, _ => rfl
  | j + 1, h => by
    unfold pv
    rw [pv_set o i y j (by omega), List.getD_eq_getElem?_getD, List.getD_eq_getElem?_getD, List.getElem?_set_ne (by omega)]
theorem pv_set1 {o : List Int} {i : Nat} (y : Int) (h : i < o.length) : pv (o.set i y) (i + 1) = pv o i + y * 18446744073709551616 ^ i := by
  show pv (o.set i y) i + (o.set i y).getD i 0 * 18446744073709551616 ^ i = _
  rw [pv_set o i y i (Nat.le_refl _), List.getD_eq_getElem?_getD, List.getElem?_set_self h]
  rfl
theorem pow_fact {P pO pA pB y c c' ai bi : Int} (e : pO + c * P = pA + pB) (h : y + c' * 18446744073709551616 = ai + bi + c) :
    pO + y * P + c' * (P * 18446744073709551616) = pA + ai * P + (pB + bi * P) := by
  have h2 : (y + c' * 18446744073709551616) * P = (ai + bi + c) * P := by rw [h]
  rw [Int.add_mul, Int.add_mul, Int.add_mul] at h2
  have h3 : c' * (P * 18446744073709551616) = c' * 18446744073709551616 * P := by rw [Int.mul_comm P, Int.mul_assoc]
  rw [h3]
  omega
theorem wd_set {o : List Int} {i : Nat} {y : Int} (h : ∀ x ∈ o, Wd x) (hy : Wd y) : ∀ x ∈ o.set i y, Wd x := by
  intro x hx
  rcases List.mem_or_eq_of_mem_set hx with h1 | h1
  · exact h x h1
  · rw [h1]; exact hy
theorem wd_get {a : List Int} (h : ∀ x ∈ a, Wd x) {i : Nat} : Wd (a.getD i 0) := by
  rw [List.getD_eq_getElem?_getD]
  cases e : a[i]? with
  | none => exact wd0
  | some x => exact h x (List.mem_of_getElem? e)
theorem sum_step {a b o : List Int} {c c' : Int} {i : Nat} {y : Int} (hi : i < o.length) (e : pv o i + c * 18446744073709551616 ^ i = pv a i + pv b i) (h : y + c' * 18446744073709551616 = a.getD i 0 + b.getD i 0 + c) :
    pv (o.set i y) (i + 1) + c' * 18446744073709551616 ^ (i + 1) = pv a (i + 1) + pv b (i + 1) := by
  rw [pv_set1 y hi, Int.pow_succ]
  exact pow_fact e h
theorem pv4 (a b c d : Int) : pv [a, b, c, d] 4 = V4 a b c d := by
  unfold V4
  simp only [pv, List.getD_cons_zero, List.getD_cons_succ]
  omega
theorem wsum_walk (a0 a1 a2 a3 b0 b1 b2 b3 : Int) (K : SV → Mem → Prop) (ha : ∀ x ∈ [a0, a1, a2, a3], Wd x) (hb : ∀ x ∈ [b0, b1, b2, b3], Wd x)
    (hK : ∀ o0 o1 o2 o3 c m, Wd o0 → Wd o1 → Wd o2 → Wd o3 → 0 ≤ c → c ≤ 1 → V4 o0 o1 o2 o3 + c * 115792089237316195423570985008687907853269984665640564039457584007913129639936 = V4 a0 a1 a2 a3 + V4 b0 b1 b2 b3 →
      K (.tup [ag4 o0 o1 o2 o3, .bool (.sym (c == 1))]) m) :
    execF cx0 (fun n => if n = 0 then .inv (liSum [a0,a1,a2,a3] [b0,b1,b2,b3]) else .un 0) Tryd.f34 64 [ag4 a0 a1 a2 a3, ag4 b0 b1 b2 b3] (memL []) K := by
  rw [vc_wsum]
  generalize hA : [a0, a1, a2, a3] = A at ha ⊢
  generalize hB : [b0, b1, b2, b3] = B at hb ⊢
  have lA : A.length = 4 := by rw [← hA]; rfl
  have lB : B.length = 4 := by rw [← hB]; rfl
  refine ⟨⟨⟨0, 0, [0, 0, 0, 0]⟩, ⟨Nat.zero_le _, rfl, ?_, Int.le_refl _, by decide, rfl⟩, ⟨rfl, rfl⟩, rfl, rfl, rfl⟩, ?_⟩
  · intro x hx
    have hx : x ∈ [0, 0, 0, 0] := hx
    simp only [List.mem_cons, List.not_mem_nil, or_false, or_self] at hx
    rw [hx]
    exact wd0
  rintro ⟨i, c, o⟩ ⟨hi, ho, hw, hc0, hc1, e⟩
  dsimp only at hi ho hw hc0 hc1 e ⊢
  have hw : ∀ x ∈ o, Wd x := hw
  refine ⟨fun h => ?_, fun h => ?_⟩
  · simp only [decide_eq_true_eq] at h
    simp only [Int.toNat_natCast, Nat.mul_one]
    have hai := wd_get ha (i := i)
    have hbi := wd_get hb (i := i)
    have ho' : i < o.length := by omega
    refine ⟨⟨by omega, by omega⟩, by omega, ?_⟩
    rintro x4 h4
    refine ⟨⟨by omega, by omega⟩, by omega, ?_⟩
    rintro x5 h5 x6 h6
    rw [wu64] at h6
    refine ⟨⟨by omega, by omega⟩, by omega, ?_⟩
    rintro x7 h7
    rw [← h4] at hai h7
    rw [← h5] at hbi
    rw [h7]
    unfold Wd at hai hbi
    have fin : ∀ y c' : Int, Wd y → 0 ≤ c' → c' ≤ 1 → y + c' * 18446744073709551616 = x4 + x5 + c → ∀ x10, x10 = IntKind.i64.wrap ((i : Int) + 1) →
        ∃ w : WI, ((w.i ≤ 4 ∧ w.o.length = 4 ∧ (∀ x, List.Mem x w.o → Wd x) ∧ 0 ≤ w.c ∧ w.c ≤ 1 ∧ pv w.o w.i + w.c * 18446744073709551616 ^ w.i = pv A w.i + pv B w.i) ∧ (((c' = w.c ∧ x10 = ((w.i : Nat) : Int)) ∧ True ∧ True ∧ o.set i y = w.o) ∧ 4 - w.i < 4 - i)) := by
      intro y c' hy h0 h1 hs x10 h10
      rw [wrap64 (by omega) (by omega)] at h10
      refine ⟨⟨i + 1, c', o.set i y⟩, ⟨by simp only; omega, by simp only [List.length_set]; exact ho, wd_set hw hy, h0, h1, sum_step ho' e (by rw [hs, h4, h5])⟩, ⟨⟨rfl, h10.trans (by simp only; omega)⟩, trivial, trivial, rfl⟩, by simp only; omega⟩
    refine ⟨fun hlt => ?_, fun hlt => ?_⟩
    all_goals
      simp only [decide_eq_true_eq, decide_eq_false_iff_not] at hlt
      rintro x8 h8
      rw [wu64] at h8
      have hy : Wd x8 := by unfold Wd; omega
      refine ⟨⟨by omega, by omega⟩, by omega, ⟨by omega, by omega⟩, by simp only [List.length_set]; omega, ?_⟩
      rintro x9 h9
      rw [List.getD_eq_getElem?_getD, List.getElem?_set_self ho', Option.getD_some] at h9
      rw [h9]
      refine ⟨fun hl2 => ?_, fun hl2 => ?_⟩
      all_goals
        simp only [decide_eq_true_eq, decide_eq_false_iff_not] at hl2
        refine fin x8 _ hy ?_ ?_ ?_
        all_goals omega
  · simp only [decide_eq_false_iff_not] at h
    have h4 : i = 4 := by omega
    refine ⟨by omega, ?_⟩
    rintro _ rfl _ rfl _ rfl _ rfl
    rw [h4, ← hA, ← hB, pv4, pv4] at e
    match o, ho, hw, e with
    | [o0, o1, o2, o3], _, hw, e =>
      rw [pv4] at e
      exact hK o0 o1 o2 o3 c _ (hw _ (by simp)) (hw _ (by simp)) (hw _ (by simp)) (hw _ (by simp)) hc0 hc1 (e.trans rfl)
end Go.Sx

/- The contract of spec.sum. -/
namespace Go.Sx
open Go Go.Proofs
set_option maxRecDepth 100000
theorem wds {a b c d : Int} (h : Wd a ∧ Wd b ∧ Wd c ∧ Wd d) : ∀ x ∈ [a, b, c, d], Wd x := by
  obtain ⟨h0, h1, h2, h3⟩ := h
  intro x hx
  simp only [List.mem_cons, List.not_mem_nil, or_false] at hx
  rcases hx with rfl | rfl | rfl | rfl <;> assumption
/-- A number of 256 bits. -/
def w256 (x : Int) : Nat := (x % 115792089237316195423570985008687907853269984665640564039457584007913129639936).toNat
theorem w256_of {o0 o1 o2 o3 c s : Int} (h0 : Wd o0) (h1 : Wd o1) (h2 : Wd o2) (h3 : Wd o3) (e : V4 o0 o1 o2 o3 + c * 115792089237316195423570985008687907853269984665640564039457584007913129639936 = s) :
    o0 = lm (w256 s) 0 ∧ o1 = lm (w256 s) 1 ∧ o2 = lm (w256 s) 2 ∧ o3 = lm (w256 s) 3 := by
  refine lm_of h0 h1 h2 h3 ?_
  have n0 := V4_nonneg h0 h1 h2 h3
  have n1 := V4_lt h0 h1 h2 h3
  unfold w256
  omega
def rWs : R0 := fun args l =>
  match args, l with
  | [.agg [.int .u64 (.sym a0), .int .u64 (.sym a1), .int .u64 (.sym a2), .int .u64 (.sym a3)], .agg [.int .u64 (.sym b0), .int .u64 (.sym b1), .int .u64 (.sym b2), .int .u64 (.sym b3)]], [] =>
    some (some ((Wd a0 ∧ Wd a1 ∧ Wd a2 ∧ Wd a3) ∧ Wd b0 ∧ Wd b1 ∧ Wd b2 ∧ Wd b3),
      .tup [ag4 (lm (w256 (V4 a0 a1 a2 a3 + V4 b0 b1 b2 b3)) 0) (lm (w256 (V4 a0 a1 a2 a3 + V4 b0 b1 b2 b3)) 1) (lm (w256 (V4 a0 a1 a2 a3 + V4 b0 b1 b2 b3)) 2) (lm (w256 (V4 a0 a1 a2 a3 + V4 b0 b1 b2 b3)) 3),
        .bool (.sym (decide (115792089237316195423570985008687907853269984665640564039457584007913129639936 ≤ V4 a0 a1 a2 a3 + V4 b0 b1 b2 b3)))])
  | _, _ => none
theorem ws_ok (args : List SV) (l : List (Nat × Reg)) (p : Ob) (v : SV) (h : rWs args l = some (p, v)) (hp : p.ok) : ∃ U, execF cx0 U Tryd.f34 64 args (memL l) fun v' _ => v' = v := by
  unfold rWs at h
  split at h
  · rename_i a0 a1 a2 a3 b0 b1 b2 b3
    simp only [Option.some.injEq, Prod.mk.injEq] at h
    obtain ⟨rfl, rfl⟩ := h
    obtain ⟨ha, hb⟩ : (Wd a0 ∧ Wd a1 ∧ Wd a2 ∧ Wd a3) ∧ Wd b0 ∧ Wd b1 ∧ Wd b2 ∧ Wd b3 := hp
    refine ⟨_, wsum_walk a0 a1 a2 a3 b0 b1 b2 b3 _ (wds ha) (wds hb) fun o0 o1 o2 o3 c m h0 h1 h2 h3 hc0 hc1 e => ?_⟩
    obtain ⟨e0, e1, e2, e3⟩ := w256_of h0 h1 h2 h3 e
    have n0 := V4_nonneg h0 h1 h2 h3
    have n1 := V4_lt h0 h1 h2 h3
    have hc : (c == 1) = decide (115792089237316195423570985008687907853269984665640564039457584007913129639936 ≤ V4 a0 a1 a2 a3 + V4 b0 b1 b2 b3) := by
      rw [← e]
      by_cases h : c = 1
      · rw [h]
        simp only [beq_self_eq_true]
        exact (decide_eq_true (by omega)).symm
      · have hc : c = 0 := by omega
        rw [hc]
        exact (decide_eq_false (by omega)).symm
    rw [hc, ← e0, ← e1, ← e2, ← e3]
  · cases h
def cWs : Rd Tryd.prog := mkR mixed 34 Tryd.func34 (by decide) (by kernel_rfl) [] [.num, .num] rWs ws_ok
end Go.Sx

/- The contract of spec.less. -/
namespace Go.Sx
open Go Go.Proofs
set_option maxRecDepth 100000
theorem vc_wdif (a0 a1 a2 a3 b0 b1 b2 b3 : Int) (K : SV → Mem → Prop) : (execF cx0 (fun n => if n = 0 then .inv (liDif [a0,a1,a2,a3] [b0,b1,b2,b3]) else .un 0) Tryd.f36 64 [ag4 a0 a1 a2 a3, ag4 b0 b1 b2 b3] (memL []) K) =
  (((∃ (i00 : Go.Sx.WI), ((((Go.Sx.WI.i i00) ≤ (4 : Nat)) ∧
 (((List.length (Go.Sx.WI.o i00)) = (4 : Nat)) ∧
 ((∀ (x1 : Int), ((List.Mem x1 (Go.Sx.WI.o i00)) → (Go.Sx.Wd x1))) ∧
 (((0 : Int) ≤ (Go.Sx.WI.c i00)) ∧
 (((Go.Sx.WI.c i00) ≤ (1 : Int)) ∧
 ((Go.Sx.pv (Go.Sx.WI.o i00) (Go.Sx.WI.i i00)) = (((Go.Sx.pv [a0, a1, a2, a3] (Go.Sx.WI.i i00)) - (Go.Sx.pv [b0, b1, b2, b3] (Go.Sx.WI.i i00))) + ((Go.Sx.WI.c i00) * ((18446744073709551616 : Int) ^ (Go.Sx.WI.i i00)))))))))) ∧
 ((((0 : Int) = (Go.Sx.WI.c i00)) ∧
 ((0 : Int) = (((Go.Sx.WI.i i00) : Nat) : Int))) ∧
 (([a0, a1, a2, a3] = [a0, a1, a2, a3]) ∧
 (([b0, b1, b2, b3] = [b0, b1, b2, b3]) ∧
 ([(0 : Int), (0 : Int), (0 : Int), (0 : Int)] = (Go.Sx.WI.o i00))))))) ∧
 (∀ (i2 : Go.Sx.WI), ((((Go.Sx.WI.i i2) ≤ (4 : Nat)) ∧
 (((List.length (Go.Sx.WI.o i2)) = (4 : Nat)) ∧
 ((∀ (x3 : Int), ((List.Mem x3 (Go.Sx.WI.o i2)) → (Go.Sx.Wd x3))) ∧
 (((0 : Int) ≤ (Go.Sx.WI.c i2)) ∧
 (((Go.Sx.WI.c i2) ≤ (1 : Int)) ∧
 ((Go.Sx.pv (Go.Sx.WI.o i2) (Go.Sx.WI.i i2)) = (((Go.Sx.pv [a0, a1, a2, a3] (Go.Sx.WI.i i2)) - (Go.Sx.pv [b0, b1, b2, b3] (Go.Sx.WI.i i2))) + ((Go.Sx.WI.c i2) * ((18446744073709551616 : Int) ^ (Go.Sx.WI.i i2)))))))))) → ((((decide ((((Go.Sx.WI.i i2) : Nat) : Int) < (4 : Int))) = Bool.true) → ((((0 : Int) ≤ (((Go.Sx.WI.i i2) : Nat) : Int)) ∧
 ((((Go.Sx.WI.i i2) : Nat) : Int) < (4 : Int))) ∧
 (((((Int.toNat (((Go.Sx.WI.i i2) : Nat) : Int)) * (1 : Nat)) + (1 : Nat)) ≤ (List.length [a0, a1, a2, a3])) ∧
 (∀ (x4 : Int), ((x4 = (List.getD [a0, a1, a2, a3] ((Int.toNat (((Go.Sx.WI.i i2) : Nat) : Int)) * (1 : Nat)) (0 : Int))) → ((((0 : Int) ≤ (((Go.Sx.WI.i i2) : Nat) : Int)) ∧
 ((((Go.Sx.WI.i i2) : Nat) : Int) < (4 : Int))) ∧
 (((((Int.toNat (((Go.Sx.WI.i i2) : Nat) : Int)) * (1 : Nat)) + (1 : Nat)) ≤ (List.length [b0, b1, b2, b3])) ∧
 (∀ (x5 : Int), ((x5 = (List.getD [b0, b1, b2, b3] ((Int.toNat (((Go.Sx.WI.i i2) : Nat) : Int)) * (1 : Nat)) (0 : Int))) → (∀ (x6 : Int), ((x6 = (Go.IntKind.wrap Go.IntKind.u64 (x4 - x5))) → ((((0 : Int) ≤ (((Go.Sx.WI.i i2) : Nat) : Int)) ∧
 ((((Go.Sx.WI.i i2) : Nat) : Int) < (4 : Int))) ∧
 (((((Int.toNat (((Go.Sx.WI.i i2) : Nat) : Int)) * (1 : Nat)) + (1 : Nat)) ≤ (List.length [a0, a1, a2, a3])) ∧
 (∀ (x7 : Int), ((x7 = (List.getD [a0, a1, a2, a3] ((Int.toNat (((Go.Sx.WI.i i2) : Nat) : Int)) * (1 : Nat)) (0 : Int))) → ((((0 : Int) ≤ (((Go.Sx.WI.i i2) : Nat) : Int)) ∧
 ((((Go.Sx.WI.i i2) : Nat) : Int) < (4 : Int))) ∧
 (((((Int.toNat (((Go.Sx.WI.i i2) : Nat) : Int)) * (1 : Nat)) + (1 : Nat)) ≤ (List.length [b0, b1, b2, b3])) ∧
 (∀ (x8 : Int), ((x8 = (List.getD [b0, b1, b2, b3] ((Int.toNat (((Go.Sx.WI.i i2) : Nat) : Int)) * (1 : Nat)) (0 : Int))) → ((((decide (x7 < x8)) = Bool.true) → (∀ (x9 : Int), ((x9 = (Go.IntKind.wrap Go.IntKind.u64 (x6 - (Go.Sx.WI.c i2)))) → ((((0 : Int) ≤ (((Go.Sx.WI.i i2) : Nat) : Int)) ∧
 ((((Go.Sx.WI.i i2) : Nat) : Int) < (4 : Int))) ∧
 ((((Int.toNat (((Go.Sx.WI.i i2) : Nat) : Int)) * (1 : Nat)) < (List.length (Go.Sx.WI.o i2))) ∧
 ((((decide (x6 < (Go.Sx.WI.c i2))) = Bool.true) → (∀ (x10 : Int), ((x10 = (Go.IntKind.wrap Go.IntKind.i64 ((((Go.Sx.WI.i i2) : Nat) : Int) + (1 : Int)))) → (∃ (x11 : Go.Sx.WI), ((((Go.Sx.WI.i x11) ≤ (4 : Nat)) ∧
 (((List.length (Go.Sx.WI.o x11)) = (4 : Nat)) ∧
 ((∀ (x12 : Int), ((List.Mem x12 (Go.Sx.WI.o x11)) → (Go.Sx.Wd x12))) ∧
 (((0 : Int) ≤ (Go.Sx.WI.c x11)) ∧
 (((Go.Sx.WI.c x11) ≤ (1 : Int)) ∧
 ((Go.Sx.pv (Go.Sx.WI.o x11) (Go.Sx.WI.i x11)) = (((Go.Sx.pv [a0, a1, a2, a3] (Go.Sx.WI.i x11)) - (Go.Sx.pv [b0, b1, b2, b3] (Go.Sx.WI.i x11))) + ((Go.Sx.WI.c x11) * ((18446744073709551616 : Int) ^ (Go.Sx.WI.i x11)))))))))) ∧
 (((((1 : Int) = (Go.Sx.WI.c x11)) ∧
 (x10 = (((Go.Sx.WI.i x11) : Nat) : Int))) ∧
 (([a0, a1, a2, a3] = [a0, a1, a2, a3]) ∧
 (([b0, b1, b2, b3] = [b0, b1, b2, b3]) ∧
 ((List.set (Go.Sx.WI.o i2) ((Int.toNat (((Go.Sx.WI.i i2) : Nat) : Int)) * (1 : Nat)) x9) = (Go.Sx.WI.o x11))))) ∧
 (((4 : Nat) - (Go.Sx.WI.i x11)) < ((4 : Nat) - (Go.Sx.WI.i i2))))))))) ∧
 (((decide (x6 < (Go.Sx.WI.c i2))) = Bool.false) → (∀ (x13 : Int), ((x13 = (Go.IntKind.wrap Go.IntKind.i64 ((((Go.Sx.WI.i i2) : Nat) : Int) + (1 : Int)))) → (∃ (x14 : Go.Sx.WI), ((((Go.Sx.WI.i x14) ≤ (4 : Nat)) ∧
 (((List.length (Go.Sx.WI.o x14)) = (4 : Nat)) ∧
 ((∀ (x15 : Int), ((List.Mem x15 (Go.Sx.WI.o x14)) → (Go.Sx.Wd x15))) ∧
 (((0 : Int) ≤ (Go.Sx.WI.c x14)) ∧
 (((Go.Sx.WI.c x14) ≤ (1 : Int)) ∧
 ((Go.Sx.pv (Go.Sx.WI.o x14) (Go.Sx.WI.i x14)) = (((Go.Sx.pv [a0, a1, a2, a3] (Go.Sx.WI.i x14)) - (Go.Sx.pv [b0, b1, b2, b3] (Go.Sx.WI.i x14))) + ((Go.Sx.WI.c x14) * ((18446744073709551616 : Int) ^ (Go.Sx.WI.i x14)))))))))) ∧
 (((((1 : Int) = (Go.Sx.WI.c x14)) ∧
 (x13 = (((Go.Sx.WI.i x14) : Nat) : Int))) ∧
 (([a0, a1, a2, a3] = [a0, a1, a2, a3]) ∧
 (([b0, b1, b2, b3] = [b0, b1, b2, b3]) ∧
 ((List.set (Go.Sx.WI.o i2) ((Int.toNat (((Go.Sx.WI.i i2) : Nat) : Int)) * (1 : Nat)) x9) = (Go.Sx.WI.o x14))))) ∧
 (((4 : Nat) - (Go.Sx.WI.i x14)) < ((4 : Nat) - (Go.Sx.WI.i i2))))))))))))))) ∧
 (((decide (x7 < x8)) = Bool.false) → (∀ (x16 : Int), ((x16 = (Go.IntKind.wrap Go.IntKind.u64 (x6 - (Go.Sx.WI.c i2)))) → ((((0 : Int) ≤ (((Go.Sx.WI.i i2) : Nat) : Int)) ∧
 ((((Go.Sx.WI.i i2) : Nat) : Int) < (4 : Int))) ∧
 ((((Int.toNat (((Go.Sx.WI.i i2) : Nat) : Int)) * (1 : Nat)) < (List.length (Go.Sx.WI.o i2))) ∧
 ((((decide (x6 < (Go.Sx.WI.c i2))) = Bool.true) → (∀ (x17 : Int), ((x17 = (Go.IntKind.wrap Go.IntKind.i64 ((((Go.Sx.WI.i i2) : Nat) : Int) + (1 : Int)))) → (∃ (x18 : Go.Sx.WI), ((((Go.Sx.WI.i x18) ≤ (4 : Nat)) ∧
 (((List.length (Go.Sx.WI.o x18)) = (4 : Nat)) ∧
 ((∀ (x19 : Int), ((List.Mem x19 (Go.Sx.WI.o x18)) → (Go.Sx.Wd x19))) ∧
 (((0 : Int) ≤ (Go.Sx.WI.c x18)) ∧
 (((Go.Sx.WI.c x18) ≤ (1 : Int)) ∧
 ((Go.Sx.pv (Go.Sx.WI.o x18) (Go.Sx.WI.i x18)) = (((Go.Sx.pv [a0, a1, a2, a3] (Go.Sx.WI.i x18)) - (Go.Sx.pv [b0, b1, b2, b3] (Go.Sx.WI.i x18))) + ((Go.Sx.WI.c x18) * ((18446744073709551616 : Int) ^ (Go.Sx.WI.i x18)))))))))) ∧
 (((((1 : Int) = (Go.Sx.WI.c x18)) ∧
 (x17 = (((Go.Sx.WI.i x18) : Nat) : Int))) ∧
 (([a0, a1, a2, a3] = [a0, a1, a2, a3]) ∧
 (([b0, b1, b2, b3] = [b0, b1, b2, b3]) ∧
 ((List.set (Go.Sx.WI.o i2) ((Int.toNat (((Go.Sx.WI.i i2) : Nat) : Int)) * (1 : Nat)) x16) = (Go.Sx.WI.o x18))))) ∧
 (((4 : Nat) - (Go.Sx.WI.i x18)) < ((4 : Nat) - (Go.Sx.WI.i i2))))))))) ∧
 (((decide (x6 < (Go.Sx.WI.c i2))) = Bool.false) → (∀ (x20 : Int), ((x20 = (Go.IntKind.wrap Go.IntKind.i64 ((((Go.Sx.WI.i i2) : Nat) : Int) + (1 : Int)))) → (∃ (x21 : Go.Sx.WI), ((((Go.Sx.WI.i x21) ≤ (4 : Nat)) ∧
 (((List.length (Go.Sx.WI.o x21)) = (4 : Nat)) ∧
 ((∀ (x22 : Int), ((List.Mem x22 (Go.Sx.WI.o x21)) → (Go.Sx.Wd x22))) ∧
 (((0 : Int) ≤ (Go.Sx.WI.c x21)) ∧
 (((Go.Sx.WI.c x21) ≤ (1 : Int)) ∧
 ((Go.Sx.pv (Go.Sx.WI.o x21) (Go.Sx.WI.i x21)) = (((Go.Sx.pv [a0, a1, a2, a3] (Go.Sx.WI.i x21)) - (Go.Sx.pv [b0, b1, b2, b3] (Go.Sx.WI.i x21))) + ((Go.Sx.WI.c x21) * ((18446744073709551616 : Int) ^ (Go.Sx.WI.i x21)))))))))) ∧
 (((((0 : Int) = (Go.Sx.WI.c x21)) ∧
 (x20 = (((Go.Sx.WI.i x21) : Nat) : Int))) ∧
 (([a0, a1, a2, a3] = [a0, a1, a2, a3]) ∧
 (([b0, b1, b2, b3] = [b0, b1, b2, b3]) ∧
 ((List.set (Go.Sx.WI.o i2) ((Int.toNat (((Go.Sx.WI.i i2) : Nat) : Int)) * (1 : Nat)) x16) = (Go.Sx.WI.o x21))))) ∧
 (((4 : Nat) - (Go.Sx.WI.i x21)) < ((4 : Nat) - (Go.Sx.WI.i i2))))))))))))))))))))))))))))))))))) ∧
 (((decide ((((Go.Sx.WI.i i2) : Nat) : Int) < (4 : Int))) = Bool.false) → (((4 : Nat) ≤ (List.length (Go.Sx.WI.o i2))) ∧
 (∀ (x23 : Int), ((x23 = (List.getD (Go.Sx.WI.o i2) (0 : Nat) (0 : Int))) → (∀ (x24 : Int), ((x24 = (List.getD (Go.Sx.WI.o i2) (1 : Nat) (0 : Int))) → (∀ (x25 : Int), ((x25 = (List.getD (Go.Sx.WI.o i2) (2 : Nat) (0 : Int))) → (∀ (x26 : Int), ((x26 = (List.getD (Go.Sx.WI.o i2) (3 : Nat) (0 : Int))) → (K (Go.Sx.SV.agg [(Go.Sx.SV.int Go.IntKind.u64 (Go.Sx.A.sym x23)), (Go.Sx.SV.int Go.IntKind.u64 (Go.Sx.A.sym x24)), (Go.Sx.SV.int Go.IntKind.u64 (Go.Sx.A.sym x25)), (Go.Sx.SV.int Go.IntKind.u64 (Go.Sx.A.sym x26))]) (Go.Sx.memL [((513 : Nat), (Go.Sx.Reg.mk Bool.false (Go.Sx.Ct.ints Go.IntKind.u64 [a0, a1, a2, a3]))), ((521 : Nat), (Go.Sx.Reg.mk Bool.false (Go.Sx.Ct.ints Go.IntKind.u64 [b0, b1, b2, b3]))), ((529 : Nat), (Go.Sx.Reg.mk Bool.false (Go.Sx.Ct.cells [(Go.Sx.SV.int Go.IntKind.u64 (Go.Sx.A.sym x23)), (Go.Sx.SV.int Go.IntKind.u64 (Go.Sx.A.sym x24)), (Go.Sx.SV.int Go.IntKind.u64 (Go.Sx.A.sym x25)), (Go.Sx.SV.int Go.IntKind.u64 (Go.Sx.A.sym x26))]))), ((545 : Nat), (Go.Sx.Reg.mk Bool.false (Go.Sx.Ct.ints Go.IntKind.u64 (Go.Sx.WI.o i2))))]))))))))))))))))) := by kernel_rfl

theorem pow_fact2 {P pO pA pB y c c' ai bi : Int} (e : pO = pA - pB + c * P) (h : y = ai - bi - c + c' * 18446744073709551616) :
    pO + y * P = pA + ai * P - (pB + bi * P) + c' * (P * 18446744073709551616) := by
  have h2 : y * P = (ai - bi - c + c' * 18446744073709551616) * P := by rw [h]
  rw [Int.add_mul, Int.sub_mul, Int.sub_mul] at h2
  have h3 : c' * (P * 18446744073709551616) = c' * 18446744073709551616 * P := by rw [Int.mul_comm P, Int.mul_assoc]
  rw [h3]
  omega
theorem dif_step {a b o : List Int} {c c' : Int} {i : Nat} {y : Int} (hi : i < o.length) (e : pv o i = pv a i - pv b i + c * 18446744073709551616 ^ i) (h : y = a.getD i 0 - b.getD i 0 - c + c' * 18446744073709551616) :
    pv (o.set i y) (i + 1) = pv a (i + 1) - pv b (i + 1) + c' * 18446744073709551616 ^ (i + 1) := by
  rw [pv_set1 y hi, Int.pow_succ]
  exact pow_fact2 e h
theorem wdif_walk (a0 a1 a2 a3 b0 b1 b2 b3 : Int) (K : SV → Mem → Prop) (ha : ∀ x ∈ [a0, a1, a2, a3], Wd x) (hb : ∀ x ∈ [b0, b1, b2, b3], Wd x)
    (hK : ∀ o0 o1 o2 o3 c m, Wd o0 → Wd o1 → Wd o2 → Wd o3 → V4 o0 o1 o2 o3 = V4 a0 a1 a2 a3 - V4 b0 b1 b2 b3 + c * 115792089237316195423570985008687907853269984665640564039457584007913129639936 →
      K (ag4 o0 o1 o2 o3) m) :
    execF cx0 (fun n => if n = 0 then .inv (liDif [a0,a1,a2,a3] [b0,b1,b2,b3]) else .un 0) Tryd.f36 64 [ag4 a0 a1 a2 a3, ag4 b0 b1 b2 b3] (memL []) K := by
  rw [vc_wdif]
  generalize hA : [a0, a1, a2, a3] = A at ha ⊢
  generalize hB : [b0, b1, b2, b3] = B at hb ⊢
  have lA : A.length = 4 := by rw [← hA]; rfl
  have lB : B.length = 4 := by rw [← hB]; rfl
  refine ⟨⟨⟨0, 0, [0, 0, 0, 0]⟩, ⟨Nat.zero_le _, rfl, ?_, Int.le_refl _, by decide, rfl⟩, ⟨rfl, rfl⟩, rfl, rfl, rfl⟩, ?_⟩
  · intro x hx
    have hx : x ∈ [0, 0, 0, 0] := hx
    simp only [List.mem_cons, List.not_mem_nil, or_false, or_self] at hx
    rw [hx]
    exact wd0
  rintro ⟨i, c, o⟩ ⟨hi, ho, hw, hc0, hc1, e⟩
  dsimp only at hi ho hw hc0 hc1 e ⊢
  have hw : ∀ x ∈ o, Wd x := hw
  refine ⟨fun h => ?_, fun h => ?_⟩
  · simp only [decide_eq_true_eq] at h
    simp only [Int.toNat_natCast, Nat.mul_one]
    have hai := wd_get ha (i := i)
    have hbi := wd_get hb (i := i)
    have ho' : i < o.length := by omega
    refine ⟨⟨by omega, by omega⟩, by omega, ?_⟩
    rintro x4 h4
    refine ⟨⟨by omega, by omega⟩, by omega, ?_⟩
    rintro x5 h5 x6 h6
    rw [wu64] at h6
    refine ⟨⟨by omega, by omega⟩, by omega, ?_⟩
    rintro x7 h7
    refine ⟨⟨by omega, by omega⟩, by omega, ?_⟩
    rintro x8 h8
    rw [← h4] at hai h7
    rw [← h5] at hbi h8
    rw [h7, h8]
    unfold Wd at hai hbi
    have fin : ∀ y c' : Int, Wd y → 0 ≤ c' → c' ≤ 1 → y = x4 - x5 - c + c' * 18446744073709551616 → ∀ x10, x10 = IntKind.i64.wrap ((i : Int) + 1) →
        ∃ w : WI, ((w.i ≤ 4 ∧ w.o.length = 4 ∧ (∀ x, List.Mem x w.o → Wd x) ∧ 0 ≤ w.c ∧ w.c ≤ 1 ∧ pv w.o w.i = pv A w.i - pv B w.i + w.c * 18446744073709551616 ^ w.i) ∧ (((c' = w.c ∧ x10 = ((w.i : Nat) : Int)) ∧ True ∧ True ∧ o.set i y = w.o) ∧ 4 - w.i < 4 - i)) := by
      intro y c' hy h0 h1 hs x10 h10
      rw [wrap64 (by omega) (by omega)] at h10
      refine ⟨⟨i + 1, c', o.set i y⟩, ⟨by simp only; omega, by simp only [List.length_set]; exact ho, wd_set hw hy, h0, h1, dif_step ho' e (by rw [hs, h4, h5])⟩, ⟨⟨rfl, h10.trans (by simp only; omega)⟩, trivial, trivial, rfl⟩, by simp only; omega⟩
    refine ⟨fun hlt => ?_, fun hlt => ?_⟩
    all_goals
      simp only [decide_eq_true_eq, decide_eq_false_iff_not] at hlt
      rintro x9 h9
      rw [wu64] at h9
      have hy : Wd x9 := by unfold Wd; omega
      refine ⟨⟨by omega, by omega⟩, by omega, ?_⟩
      refine ⟨fun hl2 => ?_, fun hl2 => ?_⟩
      all_goals
        simp only [decide_eq_true_eq, decide_eq_false_iff_not] at hl2
        refine fin x9 _ hy ?_ ?_ ?_
        all_goals omega
  · simp only [decide_eq_false_iff_not] at h
    have h4 : i = 4 := by omega
    refine ⟨by omega, ?_⟩
    rintro _ rfl _ rfl _ rfl _ rfl
    rw [h4, ← hA, ← hB, pv4, pv4] at e
    match o, ho, hw, e with
    | [o0, o1, o2, o3], _, hw, e =>
      rw [pv4] at e
      exact hK o0 o1 o2 o3 c _ (hw _ (by simp)) (hw _ (by simp)) (hw _ (by simp)) (hw _ (by simp)) (e.trans rfl)
def rWd : R0 := fun args l =>
  match args, l with
  | [.agg [.int .u64 (.sym a0), .int .u64 (.sym a1), .int .u64 (.sym a2), .int .u64 (.sym a3)], .agg [.int .u64 (.sym b0), .int .u64 (.sym b1), .int .u64 (.sym b2), .int .u64 (.sym b3)]], [] =>
    some (some ((Wd a0 ∧ Wd a1 ∧ Wd a2 ∧ Wd a3) ∧ Wd b0 ∧ Wd b1 ∧ Wd b2 ∧ Wd b3),
      ag4 (lm (w256 (V4 a0 a1 a2 a3 - V4 b0 b1 b2 b3)) 0) (lm (w256 (V4 a0 a1 a2 a3 - V4 b0 b1 b2 b3)) 1) (lm (w256 (V4 a0 a1 a2 a3 - V4 b0 b1 b2 b3)) 2) (lm (w256 (V4 a0 a1 a2 a3 - V4 b0 b1 b2 b3)) 3))
  | _, _ => none
theorem wd_ok (args : List SV) (l : List (Nat × Reg)) (p : Ob) (v : SV) (h : rWd args l = some (p, v)) (hp : p.ok) : ∃ U, execF cx0 U Tryd.f36 64 args (memL l) fun v' _ => v' = v := by
  unfold rWd at h
  split at h
  · rename_i a0 a1 a2 a3 b0 b1 b2 b3
    simp only [Option.some.injEq, Prod.mk.injEq] at h
    obtain ⟨rfl, rfl⟩ := h
    obtain ⟨ha, hb⟩ : (Wd a0 ∧ Wd a1 ∧ Wd a2 ∧ Wd a3) ∧ Wd b0 ∧ Wd b1 ∧ Wd b2 ∧ Wd b3 := hp
    refine ⟨_, wdif_walk a0 a1 a2 a3 b0 b1 b2 b3 _ (wds ha) (wds hb) fun o0 o1 o2 o3 c m h0 h1 h2 h3 e => ?_⟩
    obtain ⟨e0, e1, e2, e3⟩ := w256_of (c := -c) (s := V4 a0 a1 a2 a3 - V4 b0 b1 b2 b3) h0 h1 h2 h3 (by rw [e, Int.neg_mul]; omega)
    rw [← e0, ← e1, ← e2, ← e3]
  · cases h
def cWd : Rd Tryd.prog := mkR mixed 36 Tryd.func36 (by decide) (by kernel_rfl) [] [.num, .num] rWd wd_ok
end Go.Sx

/- The contract of spec.AddMod. -/
namespace Go.Sx
open Go Go.Proofs
set_option maxRecDepth 100000
def cxAm : Cx Tryd.prog := { rds := [cWs, cLs, cWd], efs := [], eqs := [] }
theorem vc_am (a0 a1 a2 a3 b0 b1 b2 b3 m0 m1 m2 m3 : Int) (K : SV → Mem → Prop) : (execF cxAm u9 Tryd.f17 64 [ag4 a0 a1 a2 a3, ag4 b0 b1 b2 b3, ag4 m0 m1 m2 m3] (memL []) K) =
  ((∀ (x0 : Int), ((x0 = a0) → (∀ (x1 : Int), ((x1 = a1) → (∀ (x2 : Int), ((x2 = a2) → (∀ (x3 : Int), ((x3 = a3) → (∀ (x4 : Int), ((x4 = b0) → (∀ (x5 : Int), ((x5 = b1) → (∀ (x6 : Int), ((x6 = b2) → (∀ (x7 : Int), ((x7 = b3) → ((((Go.Sx.Wd x0) ∧
 ((Go.Sx.Wd x1) ∧
 ((Go.Sx.Wd x2) ∧
 (Go.Sx.Wd x3)))) ∧
 ((Go.Sx.Wd x4) ∧
 ((Go.Sx.Wd x5) ∧
 ((Go.Sx.Wd x6) ∧
 (Go.Sx.Wd x7))))) ∧
 ((((decide ((115792089237316195423570985008687907853269984665640564039457584007913129639936 : Int) ≤ ((Go.Sx.V4 x0 x1 x2 x3) + (Go.Sx.V4 x4 x5 x6 x7)))) = Bool.true) → (∀ (x8 : Int), ((x8 = (Go.Sx.lm (Go.Sx.w256 ((Go.Sx.V4 x0 x1 x2 x3) + (Go.Sx.V4 x4 x5 x6 x7))) (0 : Nat))) → (∀ (x9 : Int), ((x9 = (Go.Sx.lm (Go.Sx.w256 ((Go.Sx.V4 x0 x1 x2 x3) + (Go.Sx.V4 x4 x5 x6 x7))) (1 : Nat))) → (∀ (x10 : Int), ((x10 = (Go.Sx.lm (Go.Sx.w256 ((Go.Sx.V4 x0 x1 x2 x3) + (Go.Sx.V4 x4 x5 x6 x7))) (2 : Nat))) → (∀ (x11 : Int), ((x11 = (Go.Sx.lm (Go.Sx.w256 ((Go.Sx.V4 x0 x1 x2 x3) + (Go.Sx.V4 x4 x5 x6 x7))) (3 : Nat))) → (∀ (x12 : Int), ((x12 = m0) → (∀ (x13 : Int), ((x13 = m1) → (∀ (x14 : Int), ((x14 = m2) → (∀ (x15 : Int), ((x15 = m3) → ((((Go.Sx.Wd x8) ∧
 ((Go.Sx.Wd x9) ∧
 ((Go.Sx.Wd x10) ∧
 (Go.Sx.Wd x11)))) ∧
 ((Go.Sx.Wd x12) ∧
 ((Go.Sx.Wd x13) ∧
 ((Go.Sx.Wd x14) ∧
 (Go.Sx.Wd x15))))) ∧
 (∀ (x16 : Int), ((x16 = (Go.Sx.lm (Go.Sx.w256 ((Go.Sx.V4 x8 x9 x10 x11) - (Go.Sx.V4 x12 x13 x14 x15))) (0 : Nat))) → (∀ (x17 : Int), ((x17 = (Go.Sx.lm (Go.Sx.w256 ((Go.Sx.V4 x8 x9 x10 x11) - (Go.Sx.V4 x12 x13 x14 x15))) (1 : Nat))) → (∀ (x18 : Int), ((x18 = (Go.Sx.lm (Go.Sx.w256 ((Go.Sx.V4 x8 x9 x10 x11) - (Go.Sx.V4 x12 x13 x14 x15))) (2 : Nat))) → (∀ (x19 : Int), ((x19 = (Go.Sx.lm (Go.Sx.w256 ((Go.Sx.V4 x8 x9 x10 x11) - (Go.Sx.V4 x12 x13 x14 x15))) (3 : Nat))) → (K (Go.Sx.SV.agg [(Go.Sx.SV.int Go.IntKind.u64 (Go.Sx.A.sym x16)), (Go.Sx.SV.int Go.IntKind.u64 (Go.Sx.A.sym x17)), (Go.Sx.SV.int Go.IntKind.u64 (Go.Sx.A.sym x18)), (Go.Sx.SV.int Go.IntKind.u64 (Go.Sx.A.sym x19))]) (Go.Sx.memL [((513 : Nat), (Go.Sx.Reg.mk Bool.false (Go.Sx.Ct.cells [(Go.Sx.SV.int Go.IntKind.u64 (Go.Sx.A.sym a0)), (Go.Sx.SV.int Go.IntKind.u64 (Go.Sx.A.sym a1)), (Go.Sx.SV.int Go.IntKind.u64 (Go.Sx.A.sym a2)), (Go.Sx.SV.int Go.IntKind.u64 (Go.Sx.A.sym a3))]))), ((521 : Nat), (Go.Sx.Reg.mk Bool.false (Go.Sx.Ct.cells [(Go.Sx.SV.int Go.IntKind.u64 (Go.Sx.A.sym b0)), (Go.Sx.SV.int Go.IntKind.u64 (Go.Sx.A.sym b1)), (Go.Sx.SV.int Go.IntKind.u64 (Go.Sx.A.sym b2)), (Go.Sx.SV.int Go.IntKind.u64 (Go.Sx.A.sym b3))]))), ((529 : Nat), (Go.Sx.Reg.mk Bool.false (Go.Sx.Ct.cells [(Go.Sx.SV.int Go.IntKind.u64 (Go.Sx.A.sym m0)), (Go.Sx.SV.int Go.IntKind.u64 (Go.Sx.A.sym m1)), (Go.Sx.SV.int Go.IntKind.u64 (Go.Sx.A.sym m2)), (Go.Sx.SV.int Go.IntKind.u64 (Go.Sx.A.sym m3))]))), ((537 : Nat), (Go.Sx.Reg.mk Bool.false (Go.Sx.Ct.cells [(Go.Sx.SV.int Go.IntKind.u64 (Go.Sx.A.sym x16)), (Go.Sx.SV.int Go.IntKind.u64 (Go.Sx.A.sym x17)), (Go.Sx.SV.int Go.IntKind.u64 (Go.Sx.A.sym x18)), (Go.Sx.SV.int Go.IntKind.u64 (Go.Sx.A.sym x19))]))), ((593 : Nat), (Go.Sx.Reg.mk Bool.false (Go.Sx.Ct.cells [(Go.Sx.SV.int Go.IntKind.u64 (Go.Sx.A.sym (Go.Sx.lm (Go.Sx.w256 ((Go.Sx.V4 x0 x1 x2 x3) + (Go.Sx.V4 x4 x5 x6 x7))) (0 : Nat)))), (Go.Sx.SV.int Go.IntKind.u64 (Go.Sx.A.sym (Go.Sx.lm (Go.Sx.w256 ((Go.Sx.V4 x0 x1 x2 x3) + (Go.Sx.V4 x4 x5 x6 x7))) (1 : Nat)))), (Go.Sx.SV.int Go.IntKind.u64 (Go.Sx.A.sym (Go.Sx.lm (Go.Sx.w256 ((Go.Sx.V4 x0 x1 x2 x3) + (Go.Sx.V4 x4 x5 x6 x7))) (2 : Nat)))), (Go.Sx.SV.int Go.IntKind.u64 (Go.Sx.A.sym (Go.Sx.lm (Go.Sx.w256 ((Go.Sx.V4 x0 x1 x2 x3) + (Go.Sx.V4 x4 x5 x6 x7))) (3 : Nat))))])))])))))))))))))))))))))))))))) ∧
 (((decide ((115792089237316195423570985008687907853269984665640564039457584007913129639936 : Int) ≤ ((Go.Sx.V4 x0 x1 x2 x3) + (Go.Sx.V4 x4 x5 x6 x7)))) = Bool.false) → (∀ (x20 : Int), ((x20 = (Go.Sx.lm (Go.Sx.w256 ((Go.Sx.V4 x0 x1 x2 x3) + (Go.Sx.V4 x4 x5 x6 x7))) (0 : Nat))) → (∀ (x21 : Int), ((x21 = (Go.Sx.lm (Go.Sx.w256 ((Go.Sx.V4 x0 x1 x2 x3) + (Go.Sx.V4 x4 x5 x6 x7))) (1 : Nat))) → (∀ (x22 : Int), ((x22 = (Go.Sx.lm (Go.Sx.w256 ((Go.Sx.V4 x0 x1 x2 x3) + (Go.Sx.V4 x4 x5 x6 x7))) (2 : Nat))) → (∀ (x23 : Int), ((x23 = (Go.Sx.lm (Go.Sx.w256 ((Go.Sx.V4 x0 x1 x2 x3) + (Go.Sx.V4 x4 x5 x6 x7))) (3 : Nat))) → (∀ (x24 : Int), ((x24 = m0) → (∀ (x25 : Int), ((x25 = m1) → (∀ (x26 : Int), ((x26 = m2) → (∀ (x27 : Int), ((x27 = m3) → ((((Go.Sx.Wd x20) ∧
 ((Go.Sx.Wd x21) ∧
 ((Go.Sx.Wd x22) ∧
 (Go.Sx.Wd x23)))) ∧
 ((Go.Sx.Wd x24) ∧
 ((Go.Sx.Wd x25) ∧
 ((Go.Sx.Wd x26) ∧
 (Go.Sx.Wd x27))))) ∧
 ((((Bool.not (decide ((Go.Sx.V4 x20 x21 x22 x23) < (Go.Sx.V4 x24 x25 x26 x27)))) = Bool.true) → (∀ (x28 : Int), ((x28 = (Go.Sx.lm (Go.Sx.w256 ((Go.Sx.V4 x0 x1 x2 x3) + (Go.Sx.V4 x4 x5 x6 x7))) (0 : Nat))) → (∀ (x29 : Int), ((x29 = (Go.Sx.lm (Go.Sx.w256 ((Go.Sx.V4 x0 x1 x2 x3) + (Go.Sx.V4 x4 x5 x6 x7))) (1 : Nat))) → (∀ (x30 : Int), ((x30 = (Go.Sx.lm (Go.Sx.w256 ((Go.Sx.V4 x0 x1 x2 x3) + (Go.Sx.V4 x4 x5 x6 x7))) (2 : Nat))) → (∀ (x31 : Int), ((x31 = (Go.Sx.lm (Go.Sx.w256 ((Go.Sx.V4 x0 x1 x2 x3) + (Go.Sx.V4 x4 x5 x6 x7))) (3 : Nat))) → (∀ (x32 : Int), ((x32 = m0) → (∀ (x33 : Int), ((x33 = m1) → (∀ (x34 : Int), ((x34 = m2) → (∀ (x35 : Int), ((x35 = m3) → ((((Go.Sx.Wd x28) ∧
 ((Go.Sx.Wd x29) ∧
 ((Go.Sx.Wd x30) ∧
 (Go.Sx.Wd x31)))) ∧
 ((Go.Sx.Wd x32) ∧
 ((Go.Sx.Wd x33) ∧
 ((Go.Sx.Wd x34) ∧
 (Go.Sx.Wd x35))))) ∧
 (∀ (x36 : Int), ((x36 = (Go.Sx.lm (Go.Sx.w256 ((Go.Sx.V4 x28 x29 x30 x31) - (Go.Sx.V4 x32 x33 x34 x35))) (0 : Nat))) → (∀ (x37 : Int), ((x37 = (Go.Sx.lm (Go.Sx.w256 ((Go.Sx.V4 x28 x29 x30 x31) - (Go.Sx.V4 x32 x33 x34 x35))) (1 : Nat))) → (∀ (x38 : Int), ((x38 = (Go.Sx.lm (Go.Sx.w256 ((Go.Sx.V4 x28 x29 x30 x31) - (Go.Sx.V4 x32 x33 x34 x35))) (2 : Nat))) → (∀ (x39 : Int), ((x39 = (Go.Sx.lm (Go.Sx.w256 ((Go.Sx.V4 x28 x29 x30 x31) - (Go.Sx.V4 x32 x33 x34 x35))) (3 : Nat))) → (K (Go.Sx.SV.agg [(Go.Sx.SV.int Go.IntKind.u64 (Go.Sx.A.sym x36)), (Go.Sx.SV.int Go.IntKind.u64 (Go.Sx.A.sym x37)), (Go.Sx.SV.int Go.IntKind.u64 (Go.Sx.A.sym x38)), (Go.Sx.SV.int Go.IntKind.u64 (Go.Sx.A.sym x39))]) (Go.Sx.memL [((513 : Nat), (Go.Sx.Reg.mk Bool.false (Go.Sx.Ct.cells [(Go.Sx.SV.int Go.IntKind.u64 (Go.Sx.A.sym a0)), (Go.Sx.SV.int Go.IntKind.u64 (Go.Sx.A.sym a1)), (Go.Sx.SV.int Go.IntKind.u64 (Go.Sx.A.sym a2)), (Go.Sx.SV.int Go.IntKind.u64 (Go.Sx.A.sym a3))]))), ((521 : Nat), (Go.Sx.Reg.mk Bool.false (Go.Sx.Ct.cells [(Go.Sx.SV.int Go.IntKind.u64 (Go.Sx.A.sym b0)), (Go.Sx.SV.int Go.IntKind.u64 (Go.Sx.A.sym b1)), (Go.Sx.SV.int Go.IntKind.u64 (Go.Sx.A.sym b2)), (Go.Sx.SV.int Go.IntKind.u64 (Go.Sx.A.sym b3))]))), ((529 : Nat), (Go.Sx.Reg.mk Bool.false (Go.Sx.Ct.cells [(Go.Sx.SV.int Go.IntKind.u64 (Go.Sx.A.sym m0)), (Go.Sx.SV.int Go.IntKind.u64 (Go.Sx.A.sym m1)), (Go.Sx.SV.int Go.IntKind.u64 (Go.Sx.A.sym m2)), (Go.Sx.SV.int Go.IntKind.u64 (Go.Sx.A.sym m3))]))), ((537 : Nat), (Go.Sx.Reg.mk Bool.false (Go.Sx.Ct.cells [(Go.Sx.SV.int Go.IntKind.u64 (Go.Sx.A.sym x36)), (Go.Sx.SV.int Go.IntKind.u64 (Go.Sx.A.sym x37)), (Go.Sx.SV.int Go.IntKind.u64 (Go.Sx.A.sym x38)), (Go.Sx.SV.int Go.IntKind.u64 (Go.Sx.A.sym x39))]))), ((593 : Nat), (Go.Sx.Reg.mk Bool.false (Go.Sx.Ct.cells [(Go.Sx.SV.int Go.IntKind.u64 (Go.Sx.A.sym (Go.Sx.lm (Go.Sx.w256 ((Go.Sx.V4 x0 x1 x2 x3) + (Go.Sx.V4 x4 x5 x6 x7))) (0 : Nat)))), (Go.Sx.SV.int Go.IntKind.u64 (Go.Sx.A.sym (Go.Sx.lm (Go.Sx.w256 ((Go.Sx.V4 x0 x1 x2 x3) + (Go.Sx.V4 x4 x5 x6 x7))) (1 : Nat)))), (Go.Sx.SV.int Go.IntKind.u64 (Go.Sx.A.sym (Go.Sx.lm (Go.Sx.w256 ((Go.Sx.V4 x0 x1 x2 x3) + (Go.Sx.V4 x4 x5 x6 x7))) (2 : Nat)))), (Go.Sx.SV.int Go.IntKind.u64 (Go.Sx.A.sym (Go.Sx.lm (Go.Sx.w256 ((Go.Sx.V4 x0 x1 x2 x3) + (Go.Sx.V4 x4 x5 x6 x7))) (3 : Nat))))])))])))))))))))))))))))))))))))) ∧
 (((Bool.not (decide ((Go.Sx.V4 x20 x21 x22 x23) < (Go.Sx.V4 x24 x25 x26 x27)))) = Bool.false) → (∀ (x40 : Int), ((x40 = (Go.Sx.lm (Go.Sx.w256 ((Go.Sx.V4 x0 x1 x2 x3) + (Go.Sx.V4 x4 x5 x6 x7))) (0 : Nat))) → (∀ (x41 : Int), ((x41 = (Go.Sx.lm (Go.Sx.w256 ((Go.Sx.V4 x0 x1 x2 x3) + (Go.Sx.V4 x4 x5 x6 x7))) (1 : Nat))) → (∀ (x42 : Int), ((x42 = (Go.Sx.lm (Go.Sx.w256 ((Go.Sx.V4 x0 x1 x2 x3) + (Go.Sx.V4 x4 x5 x6 x7))) (2 : Nat))) → (∀ (x43 : Int), ((x43 = (Go.Sx.lm (Go.Sx.w256 ((Go.Sx.V4 x0 x1 x2 x3) + (Go.Sx.V4 x4 x5 x6 x7))) (3 : Nat))) → (K (Go.Sx.SV.agg [(Go.Sx.SV.int Go.IntKind.u64 (Go.Sx.A.sym x40)), (Go.Sx.SV.int Go.IntKind.u64 (Go.Sx.A.sym x41)), (Go.Sx.SV.int Go.IntKind.u64 (Go.Sx.A.sym x42)), (Go.Sx.SV.int Go.IntKind.u64 (Go.Sx.A.sym x43))]) (Go.Sx.memL [((513 : Nat), (Go.Sx.Reg.mk Bool.false (Go.Sx.Ct.cells [(Go.Sx.SV.int Go.IntKind.u64 (Go.Sx.A.sym a0)), (Go.Sx.SV.int Go.IntKind.u64 (Go.Sx.A.sym a1)), (Go.Sx.SV.int Go.IntKind.u64 (Go.Sx.A.sym a2)), (Go.Sx.SV.int Go.IntKind.u64 (Go.Sx.A.sym a3))]))), ((521 : Nat), (Go.Sx.Reg.mk Bool.false (Go.Sx.Ct.cells [(Go.Sx.SV.int Go.IntKind.u64 (Go.Sx.A.sym b0)), (Go.Sx.SV.int Go.IntKind.u64 (Go.Sx.A.sym b1)), (Go.Sx.SV.int Go.IntKind.u64 (Go.Sx.A.sym b2)), (Go.Sx.SV.int Go.IntKind.u64 (Go.Sx.A.sym b3))]))), ((529 : Nat), (Go.Sx.Reg.mk Bool.false (Go.Sx.Ct.cells [(Go.Sx.SV.int Go.IntKind.u64 (Go.Sx.A.sym m0)), (Go.Sx.SV.int Go.IntKind.u64 (Go.Sx.A.sym m1)), (Go.Sx.SV.int Go.IntKind.u64 (Go.Sx.A.sym m2)), (Go.Sx.SV.int Go.IntKind.u64 (Go.Sx.A.sym m3))]))), ((537 : Nat), (Go.Sx.Reg.mk Bool.false (Go.Sx.Ct.cells [(Go.Sx.SV.int Go.IntKind.u64 (Go.Sx.A.sym x40)), (Go.Sx.SV.int Go.IntKind.u64 (Go.Sx.A.sym x41)), (Go.Sx.SV.int Go.IntKind.u64 (Go.Sx.A.sym x42)), (Go.Sx.SV.int Go.IntKind.u64 (Go.Sx.A.sym x43))]))), ((593 : Nat), (Go.Sx.Reg.mk Bool.false (Go.Sx.Ct.cells [(Go.Sx.SV.int Go.IntKind.u64 (Go.Sx.A.sym (Go.Sx.lm (Go.Sx.w256 ((Go.Sx.V4 x0 x1 x2 x3) + (Go.Sx.V4 x4 x5 x6 x7))) (0 : Nat)))), (Go.Sx.SV.int Go.IntKind.u64 (Go.Sx.A.sym (Go.Sx.lm (Go.Sx.w256 ((Go.Sx.V4 x0 x1 x2 x3) + (Go.Sx.V4 x4 x5 x6 x7))) (1 : Nat)))), (Go.Sx.SV.int Go.IntKind.u64 (Go.Sx.A.sym (Go.Sx.lm (Go.Sx.w256 ((Go.Sx.V4 x0 x1 x2 x3) + (Go.Sx.V4 x4 x5 x6 x7))) (2 : Nat)))), (Go.Sx.SV.int Go.IntKind.u64 (Go.Sx.A.sym (Go.Sx.lm (Go.Sx.w256 ((Go.Sx.V4 x0 x1 x2 x3) + (Go.Sx.V4 x4 x5 x6 x7))) (3 : Nat))))])))]))))))))))))))))))))))))))))))))))))))))))))))))) := by kernel_rfl

theorem w256_lt (s : Int) : w256 s < 2 ^ 256 := by unfold w256; omega
theorem w256_V4 (s : Int) : V4 (lm (w256 s) 0) (lm (w256 s) 1) (lm (w256 s) 2) (lm (w256 s) 3) = (w256 s : Int) := lm_val (w256_lt s)
theorem am_sub {S M : Int} (h0 : M ≤ S) (h1 : S < 2 * M) : S % M = S - M := by
  rw [← Int.sub_emod_right, Int.emod_eq_of_lt (by omega) (by omega)]
theorem am1 {S M : Int} (hM : M < 115792089237316195423570985008687907853269984665640564039457584007913129639936) (h1 : S < 2 * M) (h2 : 115792089237316195423570985008687907853269984665640564039457584007913129639936 ≤ S) : w256 ((w256 S : Int) - M) = (S % M).toNat := by
  rw [am_sub (by omega) h1]
  unfold w256
  omega
theorem am2 {S M : Int} (h0 : 0 ≤ S) (h1 : S < 2 * M) (h2 : ¬ 115792089237316195423570985008687907853269984665640564039457584007913129639936 ≤ S) (h3 : ¬ (w256 S : Int) < M) : w256 ((w256 S : Int) - M) = (S % M).toNat := by
  have : (w256 S : Int) = S := by unfold w256; omega
  rw [this] at h3 ⊢
  rw [am_sub (by omega) h1]
  unfold w256
  omega
theorem am3 {S M : Int} (h0 : 0 ≤ S) (h2 : ¬ 115792089237316195423570985008687907853269984665640564039457584007913129639936 ≤ S) (h3 : (w256 S : Int) < M) : w256 S = (S % M).toNat := by
  have : (w256 S : Int) = S := by unfold w256; omega
  rw [this] at h3
  rw [Int.emod_eq_of_lt h0 h3]
  omega
def rAm : R0 := fun args l =>
  match args, l with
  | [.agg [.int .u64 (.sym a0), .int .u64 (.sym a1), .int .u64 (.sym a2), .int .u64 (.sym a3)], .agg [.int .u64 (.sym b0), .int .u64 (.sym b1), .int .u64 (.sym b2), .int .u64 (.sym b3)], .agg [.int .u64 (.sym m0), .int .u64 (.sym m1), .int .u64 (.sym m2), .int .u64 (.sym m3)]], [] =>
    some (some (((Wd a0 ∧ Wd a1 ∧ Wd a2 ∧ Wd a3) ∧ (Wd b0 ∧ Wd b1 ∧ Wd b2 ∧ Wd b3) ∧ Wd m0 ∧ Wd m1 ∧ Wd m2 ∧ Wd m3) ∧ V4 a0 a1 a2 a3 < V4 m0 m1 m2 m3 ∧ V4 b0 b1 b2 b3 < V4 m0 m1 m2 m3),
      ag4 (lm ((V4 a0 a1 a2 a3 + V4 b0 b1 b2 b3) % V4 m0 m1 m2 m3).toNat 0) (lm ((V4 a0 a1 a2 a3 + V4 b0 b1 b2 b3) % V4 m0 m1 m2 m3).toNat 1) (lm ((V4 a0 a1 a2 a3 + V4 b0 b1 b2 b3) % V4 m0 m1 m2 m3).toNat 2) (lm ((V4 a0 a1 a2 a3 + V4 b0 b1 b2 b3) % V4 m0 m1 m2 m3).toNat 3))
  | _, _ => none
theorem am_ok (args : List SV) (l : List (Nat × Reg)) (p : Ob) (v : SV) (h : rAm args l = some (p, v)) (hp : p.ok) : ∃ U, execF cxAm U Tryd.f17 64 args (memL l) fun v' _ => v' = v := by
  unfold rAm at h
  split at h
  · rename_i a0 a1 a2 a3 b0 b1 b2 b3 m0 m1 m2 m3
    simp only [Option.some.injEq, Prod.mk.injEq] at h
    obtain ⟨rfl, rfl⟩ := h
    obtain ⟨⟨ha, hb, hm⟩, hA, hB⟩ : ((Wd a0 ∧ Wd a1 ∧ Wd a2 ∧ Wd a3) ∧ (Wd b0 ∧ Wd b1 ∧ Wd b2 ∧ Wd b3) ∧ Wd m0 ∧ Wd m1 ∧ Wd m2 ∧ Wd m3) ∧ V4 a0 a1 a2 a3 < V4 m0 m1 m2 m3 ∧ V4 b0 b1 b2 b3 < V4 m0 m1 m2 m3 := hp
    have nA := V4_nonneg ha.1 ha.2.1 ha.2.2.1 ha.2.2.2
    have nB := V4_nonneg hb.1 hb.2.1 hb.2.2.1 hb.2.2.2
    have lM := V4_lt hm.1 hm.2.1 hm.2.2.1 hm.2.2.2
    have W : ∀ s i, Wd (lm s i) := lm_wd
    refine ⟨u9, ?_⟩
    have := vc_am a0 a1 a2 a3 b0 b1 b2 b3 m0 m1 m2 m3 fun v' _ => v' = ag4 (lm ((V4 a0 a1 a2 a3 + V4 b0 b1 b2 b3) % V4 m0 m1 m2 m3).toNat 0) (lm ((V4 a0 a1 a2 a3 + V4 b0 b1 b2 b3) % V4 m0 m1 m2 m3).toNat 1) (lm ((V4 a0 a1 a2 a3 + V4 b0 b1 b2 b3) % V4 m0 m1 m2 m3).toNat 2) (lm ((V4 a0 a1 a2 a3 + V4 b0 b1 b2 b3) % V4 m0 m1 m2 m3).toNat 3)
    unfold ag4 at this
    refine this.mpr ?_
    clear this
    rintro _ rfl _ rfl _ rfl _ rfl _ rfl _ rfl _ rfl _ rfl
    refine ⟨⟨ha, hb⟩, fun h => ?_, fun h => ?_⟩
    · simp only [decide_eq_true_eq] at h
      rintro _ rfl _ rfl _ rfl _ rfl _ rfl _ rfl _ rfl _ rfl
      refine ⟨⟨⟨W _ _, W _ _, W _ _, W _ _⟩, hm⟩, ?_⟩
      rintro _ rfl _ rfl _ rfl _ rfl
      rw [w256_V4, am1 lM (by omega) h]
    · simp only [decide_eq_false_iff_not] at h
      rintro _ rfl _ rfl _ rfl _ rfl _ rfl _ rfl _ rfl _ rfl
      refine ⟨⟨⟨W _ _, W _ _, W _ _, W _ _⟩, hm⟩, fun h2 => ?_, fun h2 => ?_⟩
      · rw [w256_V4] at h2
        rintro _ rfl _ rfl _ rfl _ rfl _ rfl _ rfl _ rfl _ rfl
        refine ⟨⟨⟨W _ _, W _ _, W _ _, W _ _⟩, hm⟩, ?_⟩
        rintro _ rfl _ rfl _ rfl _ rfl
        rw [w256_V4, am2 (by omega) (by omega) h (by simpa using h2)]
      · rw [w256_V4] at h2
        rintro _ rfl _ rfl _ rfl _ rfl
        rw [am3 (by omega) h (by simpa using h2)]
  · cases h
def cAm : Rd Tryd.prog := mkR mixed 17 Tryd.func17 (by decide) (by kernel_rfl) [] [.num, .num, .num] rAm am_ok
end Go.Sx

/- The contract of spec.add. -/
namespace Go.Sx
open Go Go.Proofs
set_option maxRecDepth 100000
def cxAd : Cx Tryd.prog := { rds := [cPP, cAm], efs := [], eqs := [] }
theorem vc_ad (a0 a1 a2 a3 b0 b1 b2 b3 : Int) (K : SV → Mem → Prop) : (execF cxAd u9 Tryd.f10 64 [ag4 a0 a1 a2 a3, ag4 b0 b1 b2 b3] (memL []) K) =
  ((∀ (x0 : Int), ((x0 = a0) → (∀ (x1 : Int), ((x1 = a1) → (∀ (x2 : Int), ((x2 = a2) → (∀ (x3 : Int), ((x3 = a3) → (∀ (x4 : Int), ((x4 = b0) → (∀ (x5 : Int), ((x5 = b1) → (∀ (x6 : Int), ((x6 = b2) → (∀ (x7 : Int), ((x7 = b3) → (((((Go.Sx.Wd x0) ∧
 ((Go.Sx.Wd x1) ∧
 ((Go.Sx.Wd x2) ∧
 (Go.Sx.Wd x3)))) ∧
 (((Go.Sx.Wd x4) ∧
 ((Go.Sx.Wd x5) ∧
 ((Go.Sx.Wd x6) ∧
 (Go.Sx.Wd x7)))) ∧
 ((Go.Sx.Wd (4332616871279656263 : Int)) ∧
 ((Go.Sx.Wd (10917124144477883021 : Int)) ∧
 ((Go.Sx.Wd (13281191951274694749 : Int)) ∧
 (Go.Sx.Wd (3486998266802970665 : Int))))))) ∧
 (((Go.Sx.V4 x0 x1 x2 x3) < (21888242871839275222246405745257275088696311157297823662689037894645226208583 : Int)) ∧
 ((Go.Sx.V4 x4 x5 x6 x7) < (21888242871839275222246405745257275088696311157297823662689037894645226208583 : Int)))) ∧
 (∀ (x8 : Int), ((x8 = (Go.Sx.lm (Int.toNat (((Go.Sx.V4 x0 x1 x2 x3) + (Go.Sx.V4 x4 x5 x6 x7)) % (21888242871839275222246405745257275088696311157297823662689037894645226208583 : Int))) (0 : Nat))) → (∀ (x9 : Int), ((x9 = (Go.Sx.lm (Int.toNat (((Go.Sx.V4 x0 x1 x2 x3) + (Go.Sx.V4 x4 x5 x6 x7)) % (21888242871839275222246405745257275088696311157297823662689037894645226208583 : Int))) (1 : Nat))) → (∀ (x10 : Int), ((x10 = (Go.Sx.lm (Int.toNat (((Go.Sx.V4 x0 x1 x2 x3) + (Go.Sx.V4 x4 x5 x6 x7)) % (21888242871839275222246405745257275088696311157297823662689037894645226208583 : Int))) (2 : Nat))) → (∀ (x11 : Int), ((x11 = (Go.Sx.lm (Int.toNat (((Go.Sx.V4 x0 x1 x2 x3) + (Go.Sx.V4 x4 x5 x6 x7)) % (21888242871839275222246405745257275088696311157297823662689037894645226208583 : Int))) (3 : Nat))) → (K (Go.Sx.SV.agg [(Go.Sx.SV.int Go.IntKind.u64 (Go.Sx.A.sym x8)), (Go.Sx.SV.int Go.IntKind.u64 (Go.Sx.A.sym x9)), (Go.Sx.SV.int Go.IntKind.u64 (Go.Sx.A.sym x10)), (Go.Sx.SV.int Go.IntKind.u64 (Go.Sx.A.sym x11))]) (Go.Sx.memL [((513 : Nat), (Go.Sx.Reg.mk Bool.false (Go.Sx.Ct.cells [(Go.Sx.SV.int Go.IntKind.u64 (Go.Sx.A.sym a0)), (Go.Sx.SV.int Go.IntKind.u64 (Go.Sx.A.sym a1)), (Go.Sx.SV.int Go.IntKind.u64 (Go.Sx.A.sym a2)), (Go.Sx.SV.int Go.IntKind.u64 (Go.Sx.A.sym a3))]))), ((521 : Nat), (Go.Sx.Reg.mk Bool.false (Go.Sx.Ct.cells [(Go.Sx.SV.int Go.IntKind.u64 (Go.Sx.A.sym b0)), (Go.Sx.SV.int Go.IntKind.u64 (Go.Sx.A.sym b1)), (Go.Sx.SV.int Go.IntKind.u64 (Go.Sx.A.sym b2)), (Go.Sx.SV.int Go.IntKind.u64 (Go.Sx.A.sym b3))]))), ((529 : Nat), (Go.Sx.Reg.mk Bool.false (Go.Sx.Ct.cells [(Go.Sx.SV.int Go.IntKind.u64 (Go.Sx.A.sym x8)), (Go.Sx.SV.int Go.IntKind.u64 (Go.Sx.A.sym x9)), (Go.Sx.SV.int Go.IntKind.u64 (Go.Sx.A.sym x10)), (Go.Sx.SV.int Go.IntKind.u64 (Go.Sx.A.sym x11))])))])))))))))))))))))))))))))))) := by kernel_rfl

def rAd : R0 := fun args l =>
  match args, l with
  | [.agg [.int .u64 (.sym a0), .int .u64 (.sym a1), .int .u64 (.sym a2), .int .u64 (.sym a3)], .agg [.int .u64 (.sym b0), .int .u64 (.sym b1), .int .u64 (.sym b2), .int .u64 (.sym b3)]], [] =>
    some (some (((Wd a0 ∧ Wd a1 ∧ Wd a2 ∧ Wd a3) ∧ (Wd b0 ∧ Wd b1 ∧ Wd b2 ∧ Wd b3)) ∧ V4 a0 a1 a2 a3 < 21888242871839275222246405745257275088696311157297823662689037894645226208583 ∧ V4 b0 b1 b2 b3 < 21888242871839275222246405745257275088696311157297823662689037894645226208583),
      ag4 (lm ((V4 a0 a1 a2 a3 + V4 b0 b1 b2 b3) % 21888242871839275222246405745257275088696311157297823662689037894645226208583).toNat 0) (lm ((V4 a0 a1 a2 a3 + V4 b0 b1 b2 b3) % 21888242871839275222246405745257275088696311157297823662689037894645226208583).toNat 1) (lm ((V4 a0 a1 a2 a3 + V4 b0 b1 b2 b3) % 21888242871839275222246405745257275088696311157297823662689037894645226208583).toNat 2) (lm ((V4 a0 a1 a2 a3 + V4 b0 b1 b2 b3) % 21888242871839275222246405745257275088696311157297823662689037894645226208583).toNat 3))
  | _, _ => none
theorem ad_ok (args : List SV) (l : List (Nat × Reg)) (p : Ob) (v : SV) (h : rAd args l = some (p, v)) (hp : p.ok) : ∃ U, execF cxAd U Tryd.f10 64 args (memL l) fun v' _ => v' = v := by
  unfold rAd at h
  split at h
  · rename_i a0 a1 a2 a3 b0 b1 b2 b3
    simp only [Option.some.injEq, Prod.mk.injEq] at h
    obtain ⟨rfl, rfl⟩ := h
    obtain ⟨⟨ha, hb⟩, hA, hB⟩ : ((Wd a0 ∧ Wd a1 ∧ Wd a2 ∧ Wd a3) ∧ (Wd b0 ∧ Wd b1 ∧ Wd b2 ∧ Wd b3)) ∧ V4 a0 a1 a2 a3 < 21888242871839275222246405745257275088696311157297823662689037894645226208583 ∧ V4 b0 b1 b2 b3 < 21888242871839275222246405745257275088696311157297823662689037894645226208583 := hp
    refine ⟨u9, ?_⟩
    have := vc_ad a0 a1 a2 a3 b0 b1 b2 b3 fun v' _ => v' = ag4 (lm ((V4 a0 a1 a2 a3 + V4 b0 b1 b2 b3) % 21888242871839275222246405745257275088696311157297823662689037894645226208583).toNat 0) (lm ((V4 a0 a1 a2 a3 + V4 b0 b1 b2 b3) % 21888242871839275222246405745257275088696311157297823662689037894645226208583).toNat 1) (lm ((V4 a0 a1 a2 a3 + V4 b0 b1 b2 b3) % 21888242871839275222246405745257275088696311157297823662689037894645226208583).toNat 2) (lm ((V4 a0 a1 a2 a3 + V4 b0 b1 b2 b3) % 21888242871839275222246405745257275088696311157297823662689037894645226208583).toNat 3)
    unfold ag4 at this
    refine this.mpr ?_
    clear this
    rintro _ rfl _ rfl _ rfl _ rfl _ rfl _ rfl _ rfl _ rfl
    refine ⟨⟨⟨ha, hb, wdq0, wdq1, wdq2, wdq3⟩, hA, hB⟩, ?_⟩
    rintro _ rfl _ rfl _ rfl _ rfl
    rfl
  · cases h
def cAd : Rd Tryd.prog := mkR mixed 10 Tryd.func10 (by decide) (by kernel_rfl) [] [.num, .num] rAd ad_ok
end Go.Sx

/- The loops of spec.MulMod. -/
namespace Go.Sx
open Go Go.Proofs
set_option maxRecDepth 100000
def cxMm : Cx Tryd.prog := { rds := [cLs, cWd], efs := [], eqs := [] }
/-- The number of digits of 32 bits, the lowest first. -/
def dv : List Int → Int
  | [] => 0
  | d :: l => d + 4294967296 * dv l
structure MoI where
  i : Nat
  d : List Int
/-- The low digits of a number. -/
def lowD (x : Nat) (i : Nat) : Int := ((x % 4294967296 ^ i : Nat) : Int)
def digs (d : List Int) (n : Nat) : Prop := d.length = 17 ∧ (∀ x ∈ d, 0 ≤ x ∧ x < 4294967296) ∧ ∀ j, n ≤ j → d.getD j 0 = 0
def liMo (a b : List Int) (x y : Nat) : LI where
  ι := MoI
  keep := [3, 4, 5, 6, 7]
  keepR := [529, 537]
  F := fun s => ⟨[(8, i64n s.i)], [(513, ⟨false, .ints .u64 a⟩), (521, ⟨false, .ints .u64 b⟩), (553, ⟨false, .ints .u64 s.d⟩)]⟩
  I := fun _ s => s.i ≤ 8 ∧ digs s.d (s.i + 8) ∧ dv s.d = lowD x s.i * y
  μ := fun s => 8 - s.i
structure MiI where
  k : Nat
  c : Int
  d : List Int
def liMi (y : Nat) : LI where
  ι := MiI
  keep := [3, 4, 5, 6, 7, 8, 9]
  keepR := [513, 521, 529, 537]
  F := fun s => ⟨[(10, .int .u64 (.sym s.c)), (11, i64n s.k)], [(553, ⟨false, .ints .u64 s.d⟩)]⟩
  I := fun st s => s.k ≤ 8 ∧ digs s.d ((st.int 8).toNat + 8) ∧ 0 ≤ s.c ∧ s.c < 4294967296 ∧ dv s.d + s.c * 4294967296 ^ ((st.int 8).toNat + s.k) = dv (st.reg 553) + st.int 9 * lowD y s.k * 4294967296 ^ (st.int 8).toNat
  μ := fun s => 8 - s.k
structure MsI where
  n : Nat
  r : Nat
def liMs (M : Nat) : LI where
  ι := MsI
  keep := [5, 6, 7, 14]
  keepR := [529, 537, 553]
  F := fun s => ⟨[(15, .int .i64 (.sym ((s.n : Nat) - 1)))], [(601, ⟨false, e4 s.r⟩)]⟩
  I := fun st s => s.n ≤ 512 ∧ s.r = (dv (st.reg 553)).toNat / 2 ^ s.n % M
  μ := fun s => s.n
def uMm (a b : List Int) (X Y M : Nat) : Nat → Lp := fun n => match n with | 0 => .inv (liMo a b X Y) | 2 => .inv (liMi Y) | 4 => .inv (liMs M) | _ => .un 4
end Go.Sx

/- Digits of 32 bits: plain Lean. -/
namespace Go.Sx
open Go
theorem dv_set : ∀ (d : List Int) (p : Nat) (v : Int), p < d.length → dv (d.set p v) = dv d + (v - d.getD p 0) * 4294967296 ^ p
  | [], _, _, h => absurd h (Nat.not_lt_zero _)
  | x :: l, 0, v, _ => by
    show v + 4294967296 * dv l = x + 4294967296 * dv l + (v - x) * 4294967296 ^ 0
    rw [Int.pow_zero, Int.mul_one]
    omega
  | x :: l, p + 1, v, h => by
    have ih := dv_set l p v (by simpa using h)
    show x + 4294967296 * dv (l.set p v) = x + 4294967296 * dv l + (v - l.getD p 0) * 4294967296 ^ (p + 1)
    rw [ih, Int.pow_succ, Int.mul_add]
    have : (v - l.getD p 0) * (4294967296 ^ p * 4294967296) = 4294967296 * ((v - l.getD p 0) * 4294967296 ^ p) := by
      rw [← Int.mul_assoc, Int.mul_comm]
    rw [this]
    omega
theorem lowD_succ (x i : Nat) : lowD x (i + 1) = lowD x i + ((x / 4294967296 ^ i % 4294967296 : Nat) : Int) * 4294967296 ^ i := by
  unfold lowD
  rw [Nat.mod_pow_succ, Int.natCast_add, Int.natCast_mul, Int.mul_comm, Int.natCast_pow]
  rfl
theorem lowD_zero (x : Nat) : lowD x 0 = 0 := by
  unfold lowD
  rw [Nat.pow_zero, Nat.mod_one]
  rfl
theorem lowD_all {x : Nat} (h : x < 2 ^ 256) : lowD x 8 = x := by
  unfold lowD
  rw [Nat.mod_eq_of_lt h]
theorem dv_nonneg : ∀ {d : List Int}, (∀ x ∈ d, 0 ≤ x ∧ x < 4294967296) → 0 ≤ dv d
  | [], _ => Int.le_refl _
  | x :: l, h => by
    have := dv_nonneg (d := l) fun y hy => h y (List.mem_cons_of_mem _ hy)
    have := (h x List.mem_cons_self).1
    show 0 ≤ x + 4294967296 * dv l
    omega
theorem dv_getD : ∀ {d : List Int}, (∀ x ∈ d, 0 ≤ x ∧ x < 4294967296) → ∀ p, (d.getD p 0 : Int) = (((dv d).toNat / 4294967296 ^ p % 4294967296 : Nat) : Int)
  | [], _, p => by
    show (0 : Int) = ((0 / 4294967296 ^ p % 4294967296 : Nat) : Int)
    rw [Nat.zero_div]
    rfl
  | x :: l, h, 0 => by
    have h0 := dv_nonneg (d := l) fun y hy => h y (List.mem_cons_of_mem _ hy)
    have h1 := h x List.mem_cons_self
    show x = (((x + 4294967296 * dv l).toNat / 4294967296 ^ 0 % 4294967296 : Nat) : Int)
    rw [Nat.pow_zero, Nat.div_one]
    omega
  | x :: l, h, p + 1 => by
    have h0 := dv_nonneg (d := l) fun y hy => h y (List.mem_cons_of_mem _ hy)
    have h1 := h x List.mem_cons_self
    have ih := dv_getD (d := l) (fun y hy => h y (List.mem_cons_of_mem _ hy)) p
    show l.getD p 0 = (((x + 4294967296 * dv l).toNat / 4294967296 ^ (p + 1) % 4294967296 : Nat) : Int)
    rw [ih, Nat.pow_succ', ← Nat.div_div_eq_div_mul]
    have : (x + 4294967296 * dv l).toNat / 4294967296 = (dv l).toNat := by omega
    rw [this]
end Go.Sx

/- Digits of words; the long product; the bits of the rest: plain Lean. -/
namespace Go.Sx
open Go
/-- A word's half. -/
theorem half_of {x i : Nat} : (x / 18446744073709551616 ^ (i / 2) % 18446744073709551616) / 2 ^ (32 * (i % 2)) % 4294967296 = x / 4294967296 ^ i % 4294967296 := by
  have e : 4294967296 ^ i = 18446744073709551616 ^ (i / 2) * 2 ^ (32 * (i % 2)) := by
    rw [show (18446744073709551616 : Nat) = 2 ^ 64 by decide, show (4294967296 : Nat) = 2 ^ 32 by decide, ← Nat.pow_mul, ← Nat.pow_mul, ← Nat.pow_add]
    congr 1
    omega
  rw [e, ← Nat.div_div_eq_div_mul]
  generalize x / 18446744073709551616 ^ (i / 2) = q
  rcases Nat.mod_two_eq_zero_or_one i with h | h
  · rw [h]; simp only [Nat.mul_zero, Nat.pow_zero, Nat.div_one]; omega
  · rw [h]; simp only [Nat.mul_one, Nat.reducePow]; omega
/-- One step of the long product. -/
theorem prod_eq {d t P dvi : Int} : dvi + (t % 4294967296 - d) * P + (t / 4294967296) * (P * 4294967296) = dvi + (t - d) * P := by
  have h : (t / 4294967296) * (P * 4294967296) = (t / 4294967296 * 4294967296) * P := by rw [Int.mul_comm P, Int.mul_assoc]
  rw [h, Int.add_assoc, ← Int.add_mul]
  congr 2
  omega
/-- A bit of a digit. -/
theorem bit_of {D n : Nat} : (D / 4294967296 ^ (n / 32) % 4294967296) / 2 ^ (n % 32) % 2 = D / 2 ^ n % 2 := by
  have e : 2 ^ n = 4294967296 ^ (n / 32) * 2 ^ (n % 32) := by
    rw [show (4294967296 : Nat) = 2 ^ 32 by decide, ← Nat.pow_mul, ← Nat.pow_add]
    congr 1
    omega
  rw [e, ← Nat.div_div_eq_div_mul]
  generalize D / 4294967296 ^ (n / 32) = q
  have hs : n % 32 < 32 := Nat.mod_lt _ (by decide)
  generalize n % 32 = s at hs
  have e2 : (4294967296 : Nat) = 2 ^ s * (2 * 2 ^ (31 - s)) := by
    rw [← Nat.pow_succ', ← Nat.pow_add, show s + (31 - s + 1) = 32 by omega]
  rw [e2, Nat.mod_mul_right_div_self, Nat.mod_mul_right_mod]
/-- One bit more. -/
theorem rest_succ {D n M : Nat} (hM : 0 < M) : (2 * (D / 2 ^ (n + 1) % M) + D / 2 ^ n % 2) % M = D / 2 ^ n % M := by
  have e : D / 2 ^ n = 2 * (D / 2 ^ (n + 1)) + D / 2 ^ n % 2 := by
    rw [Nat.pow_succ, ← Nat.div_div_eq_div_mul]
    omega
  conv => rhs; rw [e]
  rw [Nat.add_mod, Nat.mul_mod, Nat.mod_mod, ← Nat.mul_mod, ← Nat.add_mod]
end Go.Sx

/- What the loops of MulMod compute, in the words of its steps. -/
namespace Go.Sx
open Go
set_option maxRecDepth 100000
theorem elW_getD (X : Nat) : ∀ k, k < 4 → [lm X 0, lm X 1, lm X 2, lm X 3].getD k 0 = lm X k
  | 0, _ => rfl
  | 1, _ => rfl
  | 2, _ => rfl
  | 3, _ => rfl
  | k + 4, h => absurd h (by omega)
/-- A digit as the loops fetch it. -/
theorem dig_of {X i : Nat} (hi : i < 8) {x2 x3 x4 x5 x6 x7 : Int} (h2 : x2 = IntKind.i64.wrap (Int.tdiv (i : Int) 2)) (h3 : x3 = [lm X 0, lm X 1, lm X 2, lm X 3].getD (x2.toNat * 1) 0) (h4 : x4 = Int.tmod (i : Int) 2) (h5 : x5 = IntKind.i64.wrap (32 * x4))
    (h6 : x6 = shrv .u64 x3 x5.toNat) (h7 : x7 = Int.tmod x6 4294967296) : (0 ≤ x2 ∧ x2 < 4) ∧ 0 ≤ x5 ∧ x7 = ((X / 4294967296 ^ i % 4294967296 : Nat) : Int) := by
  rw [Int.tdiv_eq_ediv_of_nonneg (by omega), wrap64 (by omega) (by omega)] at h2
  rw [Int.tmod_eq_emod_of_nonneg (by omega)] at h4
  rw [wrap64 (by omega) (by omega)] at h5
  have e2 : x2.toNat = i / 2 := by omega
  have e5 : x5.toNat = 32 * (i % 2) := by omega
  rw [e2, Nat.mul_one, elW_getD X _ (by omega)] at h3
  rw [e5, h3, shr64 (lm_wd _ _).1 (by omega)] at h6
  have e6 : x6 = ((X / 18446744073709551616 ^ (i / 2) % 18446744073709551616 / 2 ^ (32 * (i % 2)) : Nat) : Int) := by
    rw [h6]
    unfold lm
    rw [Int.natCast_ediv, Int.natCast_pow]
    rfl
  rw [Int.tmod_eq_emod_of_nonneg (by rw [e6]; exact Int.natCast_nonneg _)] at h7
  refine ⟨by omega, by omega, ?_⟩
  rw [h7, e6, ← half_of]
  rfl
end Go.Sx

/- A step of the long product. -/
namespace Go.Sx
open Go
set_option maxRecDepth 100000
theorem mul_lt32 {x y : Int} (hx : 0 ≤ x ∧ x < 4294967296) (hy : 0 ≤ y ∧ y < 4294967296) : 0 ≤ x * y ∧ x * y ≤ 18446744065119617025 := by
  refine ⟨Int.mul_nonneg hx.1 hy.1, ?_⟩
  have h1 : x * y ≤ 4294967295 * y := Int.mul_le_mul_of_nonneg_right (by omega) hy.1
  omega
theorem digs_get {d : List Int} {n : Nat} (h : digs d n) (j : Nat) : 0 ≤ d.getD j 0 ∧ d.getD j 0 < 4294967296 := by
  rw [List.getD_eq_getElem?_getD]
  cases e : d[j]? with
  | none => exact ⟨Int.le_refl _, by decide⟩
  | some x => exact h.2.1 x (List.mem_of_getElem? e)
theorem digs_set {d : List Int} {n p : Nat} {v : Int} (h : digs d n) (hv : 0 ≤ v ∧ v < 4294967296) (hp : p < n) : digs (d.set p v) n := by
  refine ⟨by rw [List.length_set]; exact h.1, ?_, ?_⟩
  · intro x hx
    rcases List.mem_or_eq_of_mem_set hx with h1 | h1
    · exact h.2.1 x h1
    · rw [h1]; exact hv
  · intro j hj
    rw [List.getD_eq_getElem?_getD, List.getElem?_set_ne (by omega), ← List.getD_eq_getElem?_getD]
    exact h.2.2 j hj
theorem in_step {d : List Int} {i k n Y : Nat} {c x y x16 x17 x18 x19 x20 x21 x22 x23 D0 : Int} (hd : digs d n) (hn : n = i + 8) (hi : i < 8) (hk : k < 8) (hc0 : 0 ≤ c) (hc1 : c < 4294967296) (hx : 0 ≤ x ∧ x < 4294967296)
    (hy : y = ((Y / 4294967296 ^ k % 4294967296 : Nat) : Int)) (e : dv d + c * 4294967296 ^ (i + k) = D0 + x * lowD Y k * 4294967296 ^ i)
    (h16 : x16 = IntKind.i64.wrap ((i : Int) + (k : Int))) (h17 : x17 = d.getD (x16.toNat * 1) 0) (h18 : x18 = IntKind.u64.wrap (x * y)) (h19 : x19 = IntKind.u64.wrap (x17 + x18)) (h20 : x20 = IntKind.u64.wrap (x19 + c))
    (h21 : x21 = IntKind.i64.wrap ((i : Int) + (k : Int))) (h22 : x22 = Int.tmod x20 4294967296) (h23 : x23 = IntKind.u64.wrap (Int.tdiv x20 4294967296)) :
    (0 ≤ x16 ∧ x16 < 17) ∧ x16.toNat * 1 + 1 ≤ d.length ∧ (0 ≤ x21 ∧ x21 < 17) ∧ x21.toNat * 1 < d.length ∧ digs (d.set (x21.toNat * 1) x22) n ∧ 0 ≤ x23 ∧ x23 < 4294967296 ∧
      dv (d.set (x21.toNat * 1) x22) + x23 * 4294967296 ^ (i + (k + 1)) = D0 + x * lowD Y (k + 1) * 4294967296 ^ i := by
  rw [wrap64 (by omega) (by omega)] at h16 h21
  have e16 : x16.toNat = i + k := by omega
  have e21 : x21.toNat = i + k := by omega
  rw [e16, Nat.mul_one] at h17
  have g := digs_get hd (i + k)
  rw [← h17] at g
  have hy' : 0 ≤ y ∧ y < 4294967296 := by rw [hy]; omega
  obtain ⟨p0, p1⟩ := mul_lt32 hx hy'
  rw [wu64] at h18 h19 h20 h23
  generalize hp : x * y = p at h18 p0 p1
  have t : x20 = x17 + p + c := by omega
  rw [Int.tmod_eq_emod_of_nonneg (by omega)] at h22
  rw [Int.tdiv_eq_ediv_of_nonneg (by omega)] at h23
  have h23' : x23 = x20 / 4294967296 := by omega
  have hl := hd.1
  have h22b : 0 ≤ x22 ∧ x22 < 4294967296 := by omega
  refine ⟨by omega, by omega, by omega, by omega, ?_, by omega, by omega, ?_⟩
  · rw [e21, Nat.mul_one]
    exact digs_set hd h22b (by omega)
  · rw [e21, Nat.mul_one, dv_set d (i + k) x22 (by omega), ← h17, h22, h23', show i + (k + 1) = i + k + 1 by omega, Int.pow_succ, prod_eq, lowD_succ, ← hy, t,
      show x17 + p + c - x17 = p + c by omega, ← hp, Int.mul_add, Int.add_mul, Int.add_mul]
    have e3 : x * (y * 4294967296 ^ k) * 4294967296 ^ i = x * y * 4294967296 ^ (i + k) := by
      rw [Int.pow_add, ← Int.mul_assoc x y, Int.mul_assoc (x * y), Int.mul_comm (4294967296 ^ k)]
    rw [e3]
    omega
end Go.Sx

/- A round of the division of MulMod. -/
namespace Go.Sx
open Go
set_option maxRecDepth 100000
theorem shl1 (x : Int) : shlv .u64 x 1 = x * 2 % 18446744073709551616 := by
  unfold shlv
  rw [wu64, show min 1 IntKind.u64.bits = 1 by simp [IntKind.bits], Int.pow_one]
theorem shr63 {x : Int} (h : 0 ≤ x) : shrv .u64 x 63 = x / 9223372036854775808 := by
  rw [shr64 h (by omega)]
  rfl
theorem dbl_eq {a0 a1 a2 a3 b y0 y1 y2 y3 h : Int} (w0 : Wd a0) (w1 : Wd a1) (w2 : Wd a2) (w3 : Wd a3) (hb : 0 ≤ b ∧ b < 2) (e0 : y0 = (a0 * 2 % 18446744073709551616 + b) % 18446744073709551616)
    (e1 : y1 = (a1 * 2 % 18446744073709551616 + a0 / 9223372036854775808) % 18446744073709551616) (e2 : y2 = (a2 * 2 % 18446744073709551616 + a1 / 9223372036854775808) % 18446744073709551616)
    (e3 : y3 = (a3 * 2 % 18446744073709551616 + a2 / 9223372036854775808) % 18446744073709551616) (eh : h = a3 / 9223372036854775808) :
    (Wd y0 ∧ Wd y1 ∧ Wd y2 ∧ Wd y3) ∧ (h = 0 ∨ h = 1) ∧ V4 y0 y1 y2 y3 + h * 115792089237316195423570985008687907853269984665640564039457584007913129639936 = 2 * V4 a0 a1 a2 a3 + b := by
  unfold Wd at *
  have f0 : y0 = a0 * 2 + b - (a0 / 9223372036854775808) * 18446744073709551616 := by omega
  have f1 : y1 = a1 * 2 + a0 / 9223372036854775808 - (a1 / 9223372036854775808) * 18446744073709551616 := by omega
  have f2 : y2 = a2 * 2 + a1 / 9223372036854775808 - (a2 / 9223372036854775808) * 18446744073709551616 := by omega
  have f3 : y3 = a3 * 2 + a2 / 9223372036854775808 - (a3 / 9223372036854775808) * 18446744073709551616 := by omega
  refine ⟨by omega, by omega, ?_⟩
  rw [f0, f1, f2, f3, eh]
  unfold V4
  generalize a0 / 9223372036854775808 = c0
  generalize a1 / 9223372036854775808 = c1
  generalize a2 / 9223372036854775808 = c2
  generalize a3 / 9223372036854775808 = c3
  omega
end Go.Sx

/- A round of the division of MulMod: what is left. -/
namespace Go.Sx
open Go
set_option maxRecDepth 100000
theorem ms_step {D M p r : Nat} {y0 y1 y2 y3 h : Int} (hM : 0 < M) (hlM : M < 115792089237316195423570985008687907853269984665640564039457584007913129639936) (hr : r = D / 2 ^ (p + 1) % M) (w : Wd y0 ∧ Wd y1 ∧ Wd y2 ∧ Wd y3) (hh : h = 0 ∨ h = 1)
    (e : V4 y0 y1 y2 y3 + h * 115792089237316195423570985008687907853269984665640564039457584007913129639936 = 2 * (r : Int) + ((D / 2 ^ p % 2 : Nat) : Int)) :
    ((h = 1 ∨ ¬ V4 y0 y1 y2 y3 < M) → w256 (V4 y0 y1 y2 y3 - M) = D / 2 ^ p % M) ∧ (h = 0 → V4 y0 y1 y2 y3 < M → y0 = lm (D / 2 ^ p % M) 0 ∧ y1 = lm (D / 2 ^ p % M) 1 ∧ y2 = lm (D / 2 ^ p % M) 2 ∧ y3 = lm (D / 2 ^ p % M) 3) := by
  obtain ⟨w0, w1, w2, w3⟩ := w
  have rs := rest_succ (D := D) (n := p) hM
  have hlt : r < M := by rw [hr]; exact Nat.mod_lt _ hM
  rw [← hr] at rs
  rw [← rs]
  have hb : D / 2 ^ p % 2 < 2 := Nat.mod_lt _ (by decide)
  generalize D / 2 ^ p % 2 = b at *
  have n0 := V4_nonneg w0 w1 w2 w3
  have n1 := V4_lt w0 w1 w2 w3
  constructor
  · intro hc
    have hge : M ≤ 2 * r + b := by omega
    rw [Nat.mod_eq_sub_mod hge, Nat.mod_eq_of_lt (by omega)]
    unfold w256
    omega
  · intro h0 hc
    have : 2 * r + b < M := by omega
    rw [Nat.mod_eq_of_lt this]
    exact lm_of w0 w1 w2 w3 (by omega)
theorem ms_zero {D M n x : Nat} (h : D = x) (hlt : x < 2 ^ n) : 0 = D / 2 ^ n % M := by
  rw [h, Nat.div_eq_of_lt hlt, Nat.zero_mod]
/-- A bit as the loop fetches it. -/
theorem bit_fetch {d : List Int} {n : Nat} (hd : ∀ x ∈ d, 0 ≤ x ∧ x < 4294967296) (hn : 1 ≤ n) (hn2 : n ≤ 512) {x42 x43 x44 x45 x46 : Int} (h42 : x42 = IntKind.i64.wrap (Int.tdiv ((n : Int) - 1) 32)) (h43 : x43 = d.getD (x42.toNat * 1) 0)
    (h44 : x44 = Int.tmod ((n : Int) - 1) 32) (h45 : x45 = shrv .u64 x43 x44.toNat) (h46 : x46 = Int.tmod x45 2) :
    (0 ≤ x42 ∧ x42 < 17) ∧ 0 ≤ x44 ∧ x46 = (((dv d).toNat / 2 ^ (n - 1) % 2 : Nat) : Int) := by
  rw [Int.tdiv_eq_ediv_of_nonneg (by omega), wrap64 (by omega) (by omega)] at h42
  rw [Int.tmod_eq_emod_of_nonneg (by omega)] at h44
  have e42 : x42.toNat = (n - 1) / 32 := by omega
  have e44 : x44.toNat = (n - 1) % 32 := by omega
  rw [e42, Nat.mul_one, dv_getD hd] at h43
  rw [e44, h43, shr64 (Int.natCast_nonneg _) (by omega)] at h45
  have e45 : x45 = ((((dv d).toNat / 4294967296 ^ ((n - 1) / 32) % 4294967296) / 2 ^ ((n - 1) % 32) : Nat) : Int) := by
    rw [h45, Int.natCast_ediv, Int.natCast_pow]
    rfl
  rw [Int.tmod_eq_emod_of_nonneg (by rw [e45]; exact Int.natCast_nonneg _)] at h46
  refine ⟨by omega, by omega, ?_⟩
  rw [h46, e45, ← bit_of]
  rfl
end Go.Sx
