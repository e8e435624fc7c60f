/- Part 4 of the proof: for every message, domain and length the laws FnExpand and FnExpandRefused return true (a verified symbolic evaluator, contracts of each function reached, the laws, their rows and cards). Conditions: those of the given statements, none besides. -/
import Derived.Test.YtmghfbppanjopaaDoorSx3
/- hash.ExpandMsgXmd: its condition. -/
namespace Go.Sx
open Go Go.Proofs
set_option maxRecDepth 100000
theorem vc_ex (msg dst : List Int) (l c l2 c2 : Nat) (n : Int) (K : SV → Mem → Prop) : (execF cxEX (uEX 17 msg dst n) Tryd.f7 64 [.slice 9 (.lit 0) (.sym l) (.sym c), .slice 17 (.lit 0) (.sym l2) (.sym c2), .int .i64 (.sym n)] (memL [(0, ⟨true, .ints .u32 kL⟩), (9, ⟨true, .ints .u8 msg⟩), (17, ⟨true, .ints .u8 dst⟩)]) K) =
  ((∀ (ys0 : (List Int)), ((ys0 = (List.replicate (64 : Nat) (0 : Int))) → (∀ (x1 : Int), ((x1 = (Go.IntKind.wrap Go.IntKind.i64 (n + (32 : Int)))) → (∀ (x2 : Int), ((x2 = (Go.IntKind.wrap Go.IntKind.i64 (x1 - (1 : Int)))) → (∀ (x3 : Int), ((x3 = (Go.IntKind.wrap Go.IntKind.i64 (Int.tdiv x2 (32 : Int)))) → ((((decide (x3 > (255 : Int))) = Bool.true) → (K (Go.Sx.SV.tup [(Go.Sx.SV.val (Go.Value.slice Option.none (0 : Nat) (0 : Nat))), (Go.Sx.SV.iface (48 : Go.TypeId) (Go.Sx.SV.ptr (633 : Nat) (Go.Sx.N.lit (0 : Nat))))]) (Go.Sx.memL [((0 : Nat), (Go.Sx.Reg.mk Bool.true (Go.Sx.Ct.ints Go.IntKind.u32 Go.Sx.kL))), ((9 : Nat), (Go.Sx.Reg.mk Bool.true (Go.Sx.Ct.ints Go.IntKind.u8 msg))), ((17 : Nat), (Go.Sx.Reg.mk Bool.true (Go.Sx.Ct.ints Go.IntKind.u8 dst))), ((529 : Nat), (Go.Sx.Reg.mk Bool.false (Go.Sx.Ct.segs [(Go.Sx.Sg.cells [(Go.Sx.SV.int Go.IntKind.u32 (Go.Sx.A.sym (1779033703 : Int))), (Go.Sx.SV.int Go.IntKind.u32 (Go.Sx.A.sym (3144134277 : Int))), (Go.Sx.SV.int Go.IntKind.u32 (Go.Sx.A.sym (1013904242 : Int))), (Go.Sx.SV.int Go.IntKind.u32 (Go.Sx.A.sym (2773480762 : Int))), (Go.Sx.SV.int Go.IntKind.u32 (Go.Sx.A.sym (1359893119 : Int))), (Go.Sx.SV.int Go.IntKind.u32 (Go.Sx.A.sym (2600822924 : Int))), (Go.Sx.SV.int Go.IntKind.u32 (Go.Sx.A.sym (528734635 : Int))), (Go.Sx.SV.int Go.IntKind.u32 (Go.Sx.A.sym (1541459225 : Int)))]), (Go.Sx.Sg.ints Go.IntKind.u8 (64 : Nat) ys0), (Go.Sx.Sg.cells [(Go.Sx.SV.int Go.IntKind.i64 (Go.Sx.A.sym (0 : Int))), (Go.Sx.SV.int Go.IntKind.u64 (Go.Sx.A.sym (0 : Int))), (Go.Sx.SV.bool (Go.Sx.B.lit Bool.false))])]))), ((633 : Nat), (Go.Sx.Reg.mk Bool.false (Go.Sx.Ct.cells [(Go.Sx.SV.val (Go.Value.string (ByteArray.mk (Array.mk [(105 : UInt8), (110 : UInt8), (118 : UInt8), (97 : UInt8), (108 : UInt8), (105 : UInt8), (100 : UInt8), (32 : UInt8), (108 : UInt8), (101 : UInt8), (110 : UInt8), (73 : UInt8), (110 : UInt8), (66 : UInt8), (121 : UInt8), (116 : UInt8), (101 : UInt8), (115 : UInt8)]))))])))]))) ∧
 (((decide (x3 > (255 : Int))) = Bool.false) → (∀ (x4 : Int), ((x4 = ((l2 : Nat) : Int)) → ((((decide (x4 > (255 : Int))) = Bool.true) → (K (Go.Sx.SV.tup [(Go.Sx.SV.val (Go.Value.slice Option.none (0 : Nat) (0 : Nat))), (Go.Sx.SV.iface (48 : Go.TypeId) (Go.Sx.SV.ptr (657 : Nat) (Go.Sx.N.lit (0 : Nat))))]) (Go.Sx.memL [((0 : Nat), (Go.Sx.Reg.mk Bool.true (Go.Sx.Ct.ints Go.IntKind.u32 Go.Sx.kL))), ((9 : Nat), (Go.Sx.Reg.mk Bool.true (Go.Sx.Ct.ints Go.IntKind.u8 msg))), ((17 : Nat), (Go.Sx.Reg.mk Bool.true (Go.Sx.Ct.ints Go.IntKind.u8 dst))), ((529 : Nat), (Go.Sx.Reg.mk Bool.false (Go.Sx.Ct.segs [(Go.Sx.Sg.cells [(Go.Sx.SV.int Go.IntKind.u32 (Go.Sx.A.sym (1779033703 : Int))), (Go.Sx.SV.int Go.IntKind.u32 (Go.Sx.A.sym (3144134277 : Int))), (Go.Sx.SV.int Go.IntKind.u32 (Go.Sx.A.sym (1013904242 : Int))), (Go.Sx.SV.int Go.IntKind.u32 (Go.Sx.A.sym (2773480762 : Int))), (Go.Sx.SV.int Go.IntKind.u32 (Go.Sx.A.sym (1359893119 : Int))), (Go.Sx.SV.int Go.IntKind.u32 (Go.Sx.A.sym (2600822924 : Int))), (Go.Sx.SV.int Go.IntKind.u32 (Go.Sx.A.sym (528734635 : Int))), (Go.Sx.SV.int Go.IntKind.u32 (Go.Sx.A.sym (1541459225 : Int)))]), (Go.Sx.Sg.ints Go.IntKind.u8 (64 : Nat) ys0), (Go.Sx.Sg.cells [(Go.Sx.SV.int Go.IntKind.i64 (Go.Sx.A.sym (0 : Int))), (Go.Sx.SV.int Go.IntKind.u64 (Go.Sx.A.sym (0 : Int))), (Go.Sx.SV.bool (Go.Sx.B.lit Bool.false))])]))), ((657 : Nat), (Go.Sx.Reg.mk Bool.false (Go.Sx.Ct.cells [(Go.Sx.SV.val (Go.Value.string (ByteArray.mk (Array.mk [(105 : UInt8), (110 : UInt8), (118 : UInt8), (97 : UInt8), (108 : UInt8), (105 : UInt8), (100 : UInt8), (32 : UInt8), (100 : UInt8), (111 : UInt8), (109 : UInt8), (97 : UInt8), (105 : UInt8), (110 : UInt8), (32 : UInt8), (115 : UInt8), (105 : UInt8), (122 : UInt8), (101 : UInt8), (32 : UInt8), (40 : UInt8), (62 : UInt8), (50 : UInt8), (53 : UInt8), (53 : UInt8), (32 : UInt8), (98 : UInt8), (121 : UInt8), (116 : UInt8), (101 : UInt8), (115 : UInt8), (41 : UInt8)]))))])))]))) ∧
 (((decide (x4 > (255 : Int))) = Bool.false) → (∀ (x5 : Int), ((x5 = ((l2 : Nat) : Int)) → (∀ (x6 : Int), ((x6 = (Go.IntKind.wrap Go.IntKind.u8 x5)) → (∀ (ys7 : (List Int)), ((ys7 = ys0) → ((((0 : Int) ≤ (64 : Int)) ∧
 (((64 : Int) ≤ (140737488355328 : Int)) ∧
 ((64 : Int) ≤ (140737488355328 : Int)))) ∧
 (((64 : Nat) ≤ (64 : Nat)) ∧
 (∃ (M8 : (List Int)), (((Go.Sx.kL = Go.Sx.kL) ∧
 ((Go.Sx.Abs M8 (Go.Sx.S8.mk (1779033703 : Int) (3144134277 : Int) (1013904242 : Int) (2773480762 : Int) (1359893119 : Int) (2600822924 : Int) (528734635 : Int) (1541459225 : Int)) ys7 (0 : Int) (0 : Int)) ∧
 ((Go.Sx.Bytes (List.take (64 : Nat) (List.drop (0 : Nat) (List.replicate (64 : Nat) (0 : Int))))) ∧
 (((64 : Nat) = (64 : Nat)) ∧
 (((64 : Nat) ≤ (64 : Nat)) ∧
 (((64 : Nat) ≤ (65536 : Nat)) ∧
 ((List.length M8) < (1099511627776 : Nat)))))))) ∧
 (∀ (x9 : Go.Sx.S8), (∀ (x10 : (List Int)), (∀ (x11 : Int), (∀ (x12 : Int), ((Go.Sx.Abs (M8 ++ (List.take (64 : Nat) (List.drop (0 : Nat) (List.replicate (64 : Nat) (0 : Int))))) x9 x10 x11 x12) → (∀ (ys13 : (List Int)), ((ys13 = x10) → ((((0 : Nat) + (l * (1 : Nat))) ≤ (List.length msg)) ∧
 (∃ (M14 : (List Int)), (((Go.Sx.kL = Go.Sx.kL) ∧
 ((Go.Sx.Abs M14 (Go.Sx.S8.mk (Go.Sx.S8.a x9) (Go.Sx.S8.b x9) (Go.Sx.S8.c x9) (Go.Sx.S8.d x9) (Go.Sx.S8.e x9) (Go.Sx.S8.f x9) (Go.Sx.S8.g x9) (Go.Sx.S8.h x9)) ys13 x11 x12) ∧
 ((Go.Sx.Bytes (List.take (l * (1 : Nat)) (List.drop (0 : Nat) msg))) ∧
 (((List.length (List.take (l * (1 : Nat)) (List.drop (0 : Nat) msg))) = l) ∧
 ((l ≤ c) ∧
 ((l ≤ (65536 : Nat)) ∧
 ((List.length M14) < (1099511627776 : Nat)))))))) ∧
 (∀ (x15 : Go.Sx.S8), (∀ (x16 : (List Int)), (∀ (x17 : Int), (∀ (x18 : Int), ((Go.Sx.Abs (M14 ++ (List.take (l * (1 : Nat)) (List.drop (0 : Nat) msg))) x15 x16 x17 x18) → (∀ (ys19 : (List Int)), ((ys19 = x16) → (∀ (x20 : Int), ((x20 = (Go.Sx.shrv Go.IntKind.i64 n (8 : Nat))) → (∀ (x21 : Int), ((x21 = (Go.IntKind.wrap Go.IntKind.u8 x20)) → (∀ (x22 : Int), ((x22 = (Go.IntKind.wrap Go.IntKind.u8 n)) → (((3 : Nat) ≤ (List.length [x21, x22, (0 : Int)])) ∧
 (∃ (M23 : (List Int)), (((Go.Sx.kL = Go.Sx.kL) ∧
 ((Go.Sx.Abs M23 (Go.Sx.S8.mk (Go.Sx.S8.a x15) (Go.Sx.S8.b x15) (Go.Sx.S8.c x15) (Go.Sx.S8.d x15) (Go.Sx.S8.e x15) (Go.Sx.S8.f x15) (Go.Sx.S8.g x15) (Go.Sx.S8.h x15)) ys19 x17 x18) ∧
 ((Go.Sx.Bytes (List.take (3 : Nat) (List.drop (0 : Nat) [x21, x22, (0 : Int)]))) ∧
 (((List.length (List.take (3 : Nat) (List.drop (0 : Nat) [x21, x22, (0 : Int)]))) = (3 : Nat)) ∧
 (((3 : Nat) ≤ (3 : Nat)) ∧
 (((3 : Nat) ≤ (65536 : Nat)) ∧
 ((List.length M23) < (1099511627776 : Nat)))))))) ∧
 (∀ (x24 : Go.Sx.S8), (∀ (x25 : (List Int)), (∀ (x26 : Int), (∀ (x27 : Int), ((Go.Sx.Abs (M23 ++ (List.take (3 : Nat) (List.drop (0 : Nat) [x21, x22, (0 : Int)]))) x24 x25 x26 x27) → (∀ (ys28 : (List Int)), ((ys28 = x25) → ((((0 : Nat) + (l2 * (1 : Nat))) ≤ (List.length dst)) ∧
 (∃ (M29 : (List Int)), (((Go.Sx.kL = Go.Sx.kL) ∧
 ((Go.Sx.Abs M29 (Go.Sx.S8.mk (Go.Sx.S8.a x24) (Go.Sx.S8.b x24) (Go.Sx.S8.c x24) (Go.Sx.S8.d x24) (Go.Sx.S8.e x24) (Go.Sx.S8.f x24) (Go.Sx.S8.g x24) (Go.Sx.S8.h x24)) ys28 x26 x27) ∧
 ((Go.Sx.Bytes (List.take (l2 * (1 : Nat)) (List.drop (0 : Nat) dst))) ∧
 (((List.length (List.take (l2 * (1 : Nat)) (List.drop (0 : Nat) dst))) = l2) ∧
 ((l2 ≤ c2) ∧
 ((l2 ≤ (65536 : Nat)) ∧
 ((List.length M29) < (1099511627776 : Nat)))))))) ∧
 (∀ (x30 : Go.Sx.S8), (∀ (x31 : (List Int)), (∀ (x32 : Int), (∀ (x33 : Int), ((Go.Sx.Abs (M29 ++ (List.take (l2 * (1 : Nat)) (List.drop (0 : Nat) dst))) x30 x31 x32 x33) → (∀ (ys34 : (List Int)), ((ys34 = x31) → (((1 : Nat) ≤ (List.length [x6])) ∧
 (∃ (M35 : (List Int)), (((Go.Sx.kL = Go.Sx.kL) ∧
 ((Go.Sx.Abs M35 (Go.Sx.S8.mk (Go.Sx.S8.a x30) (Go.Sx.S8.b x30) (Go.Sx.S8.c x30) (Go.Sx.S8.d x30) (Go.Sx.S8.e x30) (Go.Sx.S8.f x30) (Go.Sx.S8.g x30) (Go.Sx.S8.h x30)) ys34 x32 x33) ∧
 ((Go.Sx.Bytes (List.take (1 : Nat) (List.drop (0 : Nat) [x6]))) ∧
 (((List.length (List.take (1 : Nat) (List.drop (0 : Nat) [x6]))) = (1 : Nat)) ∧
 (((1 : Nat) ≤ (1 : Nat)) ∧
 (((1 : Nat) ≤ (65536 : Nat)) ∧
 ((List.length M35) < (1099511627776 : Nat)))))))) ∧
 (∀ (x36 : Go.Sx.S8), (∀ (x37 : (List Int)), (∀ (x38 : Int), (∀ (x39 : Int), ((Go.Sx.Abs (M35 ++ (List.take (1 : Nat) (List.drop (0 : Nat) [x6]))) x36 x37 x38 x39) → (∀ (ys40 : (List Int)), ((ys40 = x37) → (∃ (M41 : (List Int)), (((Go.Sx.kL = Go.Sx.kL) ∧
 ((Go.Sx.Abs M41 (Go.Sx.S8.mk (Go.Sx.S8.a x36) (Go.Sx.S8.b x36) (Go.Sx.S8.c x36) (Go.Sx.S8.d x36) (Go.Sx.S8.e x36) (Go.Sx.S8.f x36) (Go.Sx.S8.g x36) (Go.Sx.S8.h x36)) ys40 x38 x39) ∧
 ((List.length M41) < (549755813888 : Nat)))) ∧
 (∀ (ys42 : (List Int)), (∀ (cap43 : Nat), ((((List.take (32 : Nat) ys42) = (Go.Sx.sha M41)) ∧
 (((List.length ys42) = cap43) ∧
 ((32 : Nat) ≤ cap43))) → (∀ (ys44 : (List Int)), ((ys44 = ys42) → (∀ (ys45 : (List Int)), ((ys45 = ys40) → (((32 : Nat) ≤ (List.length ys44)) ∧
 (∃ (M46 : (List Int)), (((Go.Sx.kL = Go.Sx.kL) ∧
 ((Go.Sx.Abs M46 (Go.Sx.S8.mk (1779033703 : Int) (3144134277 : Int) (1013904242 : Int) (2773480762 : Int) (1359893119 : Int) (2600822924 : Int) (528734635 : Int) (1541459225 : Int)) ys45 (0 : Int) (0 : Int)) ∧
 ((Go.Sx.Bytes (List.take (32 : Nat) (List.drop (0 : Nat) ys44))) ∧
 (((List.length (List.take (32 : Nat) (List.drop (0 : Nat) ys44))) = (32 : Nat)) ∧
 (((32 : Nat) ≤ cap43) ∧
 (((32 : Nat) ≤ (65536 : Nat)) ∧
 ((List.length M46) < (1099511627776 : Nat)))))))) ∧
 (∀ (x47 : Go.Sx.S8), (∀ (x48 : (List Int)), (∀ (x49 : Int), (∀ (x50 : Int), ((Go.Sx.Abs (M46 ++ (List.take (32 : Nat) (List.drop (0 : Nat) ys44))) x47 x48 x49 x50) → (∀ (ys51 : (List Int)), ((ys51 = x48) → (((1 : Nat) ≤ (1 : Nat)) ∧
 (∃ (M52 : (List Int)), (((Go.Sx.kL = Go.Sx.kL) ∧
 ((Go.Sx.Abs M52 (Go.Sx.S8.mk (Go.Sx.S8.a x47) (Go.Sx.S8.b x47) (Go.Sx.S8.c x47) (Go.Sx.S8.d x47) (Go.Sx.S8.e x47) (Go.Sx.S8.f x47) (Go.Sx.S8.g x47) (Go.Sx.S8.h x47)) ys51 x49 x50) ∧
 ((Go.Sx.Bytes (List.take (1 : Nat) (List.drop (0 : Nat) [(1 : Int)]))) ∧
 (((1 : Nat) = (1 : Nat)) ∧
 (((1 : Nat) ≤ (1 : Nat)) ∧
 (((1 : Nat) ≤ (65536 : Nat)) ∧
 ((List.length M52) < (1099511627776 : Nat)))))))) ∧
 (∀ (x53 : Go.Sx.S8), (∀ (x54 : (List Int)), (∀ (x55 : Int), (∀ (x56 : Int), ((Go.Sx.Abs (M52 ++ (List.take (1 : Nat) (List.drop (0 : Nat) [(1 : Int)]))) x53 x54 x55 x56) → (∀ (ys57 : (List Int)), ((ys57 = x54) → ((((0 : Nat) + (l2 * (1 : Nat))) ≤ (List.length dst)) ∧
 (∃ (M58 : (List Int)), (((Go.Sx.kL = Go.Sx.kL) ∧
 ((Go.Sx.Abs M58 (Go.Sx.S8.mk (Go.Sx.S8.a x53) (Go.Sx.S8.b x53) (Go.Sx.S8.c x53) (Go.Sx.S8.d x53) (Go.Sx.S8.e x53) (Go.Sx.S8.f x53) (Go.Sx.S8.g x53) (Go.Sx.S8.h x53)) ys57 x55 x56) ∧
 ((Go.Sx.Bytes (List.take (l2 * (1 : Nat)) (List.drop (0 : Nat) dst))) ∧
 (((List.length (List.take (l2 * (1 : Nat)) (List.drop (0 : Nat) dst))) = l2) ∧
 ((l2 ≤ c2) ∧
 ((l2 ≤ (65536 : Nat)) ∧
 ((List.length M58) < (1099511627776 : Nat)))))))) ∧
 (∀ (x59 : Go.Sx.S8), (∀ (x60 : (List Int)), (∀ (x61 : Int), (∀ (x62 : Int), ((Go.Sx.Abs (M58 ++ (List.take (l2 * (1 : Nat)) (List.drop (0 : Nat) dst))) x59 x60 x61 x62) → (∀ (ys63 : (List Int)), ((ys63 = x60) → (((1 : Nat) ≤ (List.length [x6])) ∧
 (∃ (M64 : (List Int)), (((Go.Sx.kL = Go.Sx.kL) ∧
 ((Go.Sx.Abs M64 (Go.Sx.S8.mk (Go.Sx.S8.a x59) (Go.Sx.S8.b x59) (Go.Sx.S8.c x59) (Go.Sx.S8.d x59) (Go.Sx.S8.e x59) (Go.Sx.S8.f x59) (Go.Sx.S8.g x59) (Go.Sx.S8.h x59)) ys63 x61 x62) ∧
 ((Go.Sx.Bytes (List.take (1 : Nat) (List.drop (0 : Nat) [x6]))) ∧
 (((List.length (List.take (1 : Nat) (List.drop (0 : Nat) [x6]))) = (1 : Nat)) ∧
 (((1 : Nat) ≤ (1 : Nat)) ∧
 (((1 : Nat) ≤ (65536 : Nat)) ∧
 ((List.length M64) < (1099511627776 : Nat)))))))) ∧
 (∀ (x65 : Go.Sx.S8), (∀ (x66 : (List Int)), (∀ (x67 : Int), (∀ (x68 : Int), ((Go.Sx.Abs (M64 ++ (List.take (1 : Nat) (List.drop (0 : Nat) [x6]))) x65 x66 x67 x68) → (∀ (ys69 : (List Int)), ((ys69 = x66) → (∃ (M70 : (List Int)), (((Go.Sx.kL = Go.Sx.kL) ∧
 ((Go.Sx.Abs M70 (Go.Sx.S8.mk (Go.Sx.S8.a x65) (Go.Sx.S8.b x65) (Go.Sx.S8.c x65) (Go.Sx.S8.d x65) (Go.Sx.S8.e x65) (Go.Sx.S8.f x65) (Go.Sx.S8.g x65) (Go.Sx.S8.h x65)) ys69 x67 x68) ∧
 ((List.length M70) < (549755813888 : Nat)))) ∧
 (∀ (ys71 : (List Int)), (∀ (cap72 : Nat), ((((List.take (32 : Nat) ys71) = (Go.Sx.sha M70)) ∧
 (((List.length ys71) = cap72) ∧
 ((32 : Nat) ≤ cap72))) → (∀ (ys73 : (List Int)), ((ys73 = ys71) → ((((0 : Int) ≤ n) ∧
 (((n * (1 : Int)) ≤ (140737488355328 : Int)) ∧
 (n ≤ (140737488355328 : Int)))) ∧
 ((((0 : Int) ≤ (32 : Int)) ∧
 ((32 : Int) ≤ (((Int.toNat n) : Nat) : Int))) ∧
 ((((32 : Nat) ≤ (List.length ys73)) ∧
 ((32 : Nat) ≤ (List.length (List.replicate ((Int.toNat n) * (1 : Nat)) (0 : Int))))) ∧
 ((∃ (i074 : Go.Sx.ExI), ((((1 : Nat) ≤ (Go.Sx.ExI.j i074)) ∧
 ((((32 : Int) * (((Go.Sx.ExI.j i074) : Nat) : Int)) < (n + (32 : Int))) ∧
 ((Go.Sx.Rw (Go.Sx.ExI.b i074) (Go.Sx.bI (Go.Sx.firstL msg dst n) (Go.Sx.domL dst) (Go.Sx.ExI.j i074)) (32 : Nat) (Go.Sx.ExI.bc i074)) ∧
 (((((List.length (Go.Sx.ExI.res i074)) : Nat) : Int) = n) ∧
 (((List.take ((32 : Nat) * (Go.Sx.ExI.j i074)) (Go.Sx.ExI.res i074)) = (List.take (Int.toNat n) (Go.Sx.outN (Go.Sx.firstL msg dst n) (Go.Sx.domL dst) (Go.Sx.ExI.j i074)))) ∧
 ((List.length (Go.Sx.ExI.x i074)) = (64 : Nat))))))) ∧
 ((((l2 = l2) ∧
 (c2 = c2)) ∧
 ((n = n) ∧
 ((x3 = x3) ∧
 ((x6 = x6) ∧
 ((cap43 = cap43) ∧
 ((((Int.toNat n) = (Int.toNat n)) ∧
 ((Int.toNat n) = (Int.toNat n))) ∧
 ((cap72 = (Go.Sx.ExI.bc i074)) ∧
 ((2 : Int) = ((((Go.Sx.ExI.j i074) : Nat) : Int) + (1 : Int)))))))))) ∧
 ((Go.Sx.kL = Go.Sx.kL) ∧
 ((dst = dst) ∧
 ((ys44 = ys44) ∧
 (((((Go.Sx.S8.a x65) = (Go.Sx.S8.a (Go.Sx.ExI.H i074))) ∧
 (((Go.Sx.S8.b x65) = (Go.Sx.S8.b (Go.Sx.ExI.H i074))) ∧
 (((Go.Sx.S8.c x65) = (Go.Sx.S8.c (Go.Sx.ExI.H i074))) ∧
 (((Go.Sx.S8.d x65) = (Go.Sx.S8.d (Go.Sx.ExI.H i074))) ∧
 (((Go.Sx.S8.e x65) = (Go.Sx.S8.e (Go.Sx.ExI.H i074))) ∧
 (((Go.Sx.S8.f x65) = (Go.Sx.S8.f (Go.Sx.ExI.H i074))) ∧
 (((Go.Sx.S8.g x65) = (Go.Sx.S8.g (Go.Sx.ExI.H i074))) ∧
 ((Go.Sx.S8.h x65) = (Go.Sx.S8.h (Go.Sx.ExI.H i074)))))))))) ∧
 ((ys69 = (Go.Sx.ExI.x i074)) ∧
 ((x67 = (Go.Sx.ExI.nx i074)) ∧
 (x68 = (Go.Sx.ExI.len i074))))) ∧
 ((ys73 = (Go.Sx.ExI.b i074)) ∧
 ((Go.Sx.splice (List.replicate ((Int.toNat n) * (1 : Nat)) (0 : Int)) (0 : Nat) (List.take (32 : Nat) (List.drop (0 : Nat) ys73))) = (Go.Sx.ExI.res i074)))))))))) ∧
 (∀ (i75 : Go.Sx.ExI), ((((1 : Nat) ≤ (Go.Sx.ExI.j i75)) ∧
 ((((32 : Int) * (((Go.Sx.ExI.j i75) : Nat) : Int)) < (n + (32 : Int))) ∧
 ((Go.Sx.Rw (Go.Sx.ExI.b i75) (Go.Sx.bI (Go.Sx.firstL msg dst n) (Go.Sx.domL dst) (Go.Sx.ExI.j i75)) (32 : Nat) (Go.Sx.ExI.bc i75)) ∧
 (((((List.length (Go.Sx.ExI.res i75)) : Nat) : Int) = n) ∧
 (((List.take ((32 : Nat) * (Go.Sx.ExI.j i75)) (Go.Sx.ExI.res i75)) = (List.take (Int.toNat n) (Go.Sx.outN (Go.Sx.firstL msg dst n) (Go.Sx.domL dst) (Go.Sx.ExI.j i75)))) ∧
 ((List.length (Go.Sx.ExI.x i75)) = (64 : Nat))))))) → ((((decide (((((Go.Sx.ExI.j i75) : Nat) : Int) + (1 : Int)) ≤ x3)) = Bool.true) → (∀ (ys76 : (List Int)), ((ys76 = (Go.Sx.ExI.x i75)) → ((((0 : Int) ≤ (32 : Int)) ∧
 (((32 : Int) ≤ (140737488355328 : Int)) ∧
 ((32 : Int) ≤ (140737488355328 : Int)))) ∧
 ((∃ (i077 : (Prod Nat (List Int))), ((((List.length (Prod.snd i077)) = (32 : Nat)) ∧
 (((List.take (Prod.fst i077) (Prod.snd i077)) = (List.take (Prod.fst i077) (Go.Sx.xorL ys44 (Go.Sx.ExI.b i75)))) ∧
 ((Prod.fst i077) ≤ (32 : Nat)))) ∧
 ((((l2 = l2) ∧
 (c2 = c2)) ∧
 ((n = n) ∧
 ((x3 = x3) ∧
 ((x6 = x6) ∧
 ((cap43 = cap43) ∧
 (((Go.Sx.ExI.bc i75) = (Go.Sx.ExI.bc i75)) ∧
 ((((Int.toNat n) = (Int.toNat n)) ∧
 ((Int.toNat n) = (Int.toNat n))) ∧
 ((((((Go.Sx.ExI.j i75) : Nat) : Int) + (1 : Int)) = ((((Go.Sx.ExI.j i75) : Nat) : Int) + (1 : Int))) ∧
 ((0 : Int) = (((Prod.fst i077) : Nat) : Int)))))))))) ∧
 ((Go.Sx.kL = Go.Sx.kL) ∧
 ((dst = dst) ∧
 (((((1779033703 : Int) = (1779033703 : Int)) ∧
 (((3144134277 : Int) = (3144134277 : Int)) ∧
 (((1013904242 : Int) = (1013904242 : Int)) ∧
 (((2773480762 : Int) = (2773480762 : Int)) ∧
 (((1359893119 : Int) = (1359893119 : Int)) ∧
 (((2600822924 : Int) = (2600822924 : Int)) ∧
 (((528734635 : Int) = (528734635 : Int)) ∧
 ((1541459225 : Int) = (1541459225 : Int))))))))) ∧
 ((ys76 = ys76) ∧
 (((0 : Int) = (0 : Int)) ∧
 ((0 : Int) = (0 : Int))))) ∧
 ((ys44 = ys44) ∧
 (((Go.Sx.ExI.res i75) = (Go.Sx.ExI.res i75)) ∧
 (((Go.Sx.ExI.b i75) = (Go.Sx.ExI.b i75)) ∧
 ((List.replicate (32 : Nat) (0 : Int)) = (Prod.snd i077))))))))))) ∧
 (∀ (i78 : (Prod Nat (List Int))), ((((List.length (Prod.snd i78)) = (32 : Nat)) ∧
 (((List.take (Prod.fst i78) (Prod.snd i78)) = (List.take (Prod.fst i78) (Go.Sx.xorL ys44 (Go.Sx.ExI.b i75)))) ∧
 ((Prod.fst i78) ≤ (32 : Nat)))) → ((((decide ((((Prod.fst i78) : Nat) : Int) < (32 : Int))) = Bool.true) → ((((0 : Int) ≤ (((Prod.fst i78) : Nat) : Int)) ∧
 ((((Prod.fst i78) : Nat) : Int) < (32 : Int))) ∧
 (((((Int.toNat (((Prod.fst i78) : Nat) : Int)) * (1 : Nat)) + (1 : Nat)) ≤ (List.length ys44)) ∧
 (∀ (x79 : Int), ((x79 = (List.getD ys44 ((Int.toNat (((Prod.fst i78) : Nat) : Int)) * (1 : Nat)) (0 : Int))) → ((((0 : Int) ≤ (((Prod.fst i78) : Nat) : Int)) ∧
 ((((Prod.fst i78) : Nat) : Int) < (32 : Int))) ∧
 (((((Int.toNat (((Prod.fst i78) : Nat) : Int)) * (1 : Nat)) + (1 : Nat)) ≤ (List.length (Go.Sx.ExI.b i75))) ∧
 (∀ (x80 : Int), ((x80 = (List.getD (Go.Sx.ExI.b i75) ((Int.toNat (((Prod.fst i78) : Nat) : Int)) * (1 : Nat)) (0 : Int))) → (∀ (x81 : Int), ((x81 = (Go.Sx.bxor Go.IntKind.u8 x79 x80)) → ((((0 : Int) ≤ (((Prod.fst i78) : Nat) : Int)) ∧
 ((((Prod.fst i78) : Nat) : Int) < (32 : Int))) ∧
 ((((Int.toNat (((Prod.fst i78) : Nat) : Int)) * (1 : Nat)) < (List.length (Prod.snd i78))) ∧
 (∀ (x82 : Int), ((x82 = (Go.IntKind.wrap Go.IntKind.i64 ((((Prod.fst i78) : Nat) : Int) + (1 : Int)))) → (∃ (x83 : (Prod Nat (List Int))), ((((List.length (Prod.snd x83)) = (32 : Nat)) ∧
 (((List.take (Prod.fst x83) (Prod.snd x83)) = (List.take (Prod.fst x83) (Go.Sx.xorL ys44 (Go.Sx.ExI.b i75)))) ∧
 ((Prod.fst x83) ≤ (32 : Nat)))) ∧
 (((((l2 = l2) ∧
 (c2 = c2)) ∧
 ((n = n) ∧
 ((x3 = x3) ∧
 ((x6 = x6) ∧
 ((cap43 = cap43) ∧
 (((Go.Sx.ExI.bc i75) = (Go.Sx.ExI.bc i75)) ∧
 ((((Int.toNat n) = (Int.toNat n)) ∧
 ((Int.toNat n) = (Int.toNat n))) ∧
 ((((((Go.Sx.ExI.j i75) : Nat) : Int) + (1 : Int)) = ((((Go.Sx.ExI.j i75) : Nat) : Int) + (1 : Int))) ∧
 (x82 = (((Prod.fst x83) : Nat) : Int)))))))))) ∧
 ((Go.Sx.kL = Go.Sx.kL) ∧
 ((dst = dst) ∧
 (((((1779033703 : Int) = (1779033703 : Int)) ∧
 (((3144134277 : Int) = (3144134277 : Int)) ∧
 (((1013904242 : Int) = (1013904242 : Int)) ∧
 (((2773480762 : Int) = (2773480762 : Int)) ∧
 (((1359893119 : Int) = (1359893119 : Int)) ∧
 (((2600822924 : Int) = (2600822924 : Int)) ∧
 (((528734635 : Int) = (528734635 : Int)) ∧
 ((1541459225 : Int) = (1541459225 : Int))))))))) ∧
 ((ys76 = ys76) ∧
 (((0 : Int) = (0 : Int)) ∧
 ((0 : Int) = (0 : Int))))) ∧
 ((ys44 = ys44) ∧
 (((Go.Sx.ExI.res i75) = (Go.Sx.ExI.res i75)) ∧
 (((Go.Sx.ExI.b i75) = (Go.Sx.ExI.b i75)) ∧
 ((List.set (Prod.snd i78) ((Int.toNat (((Prod.fst i78) : Nat) : Int)) * (1 : Nat)) x81) = (Prod.snd x83))))))))) ∧
 (((32 : Nat) - (Prod.fst x83)) < ((32 : Nat) - (Prod.fst i78))))))))))))))))))))) ∧
 (((decide ((((Prod.fst i78) : Nat) : Int) < (32 : Int))) = Bool.false) → (((32 : Nat) ≤ (List.length (Prod.snd i78))) ∧
 (∃ (M84 : (List Int)), (((Go.Sx.kL = Go.Sx.kL) ∧
 ((Go.Sx.Abs M84 (Go.Sx.S8.mk (1779033703 : Int) (3144134277 : Int) (1013904242 : Int) (2773480762 : Int) (1359893119 : Int) (2600822924 : Int) (528734635 : Int) (1541459225 : Int)) ys76 (0 : Int) (0 : Int)) ∧
 ((Go.Sx.Bytes (List.take (32 : Nat) (List.drop (0 : Nat) (Prod.snd i78)))) ∧
 (((List.length (List.take (32 : Nat) (List.drop (0 : Nat) (Prod.snd i78)))) = (32 : Nat)) ∧
 (((32 : Nat) ≤ (32 : Nat)) ∧
 (((32 : Nat) ≤ (65536 : Nat)) ∧
 ((List.length M84) < (1099511627776 : Nat)))))))) ∧
 (∀ (x85 : Go.Sx.S8), (∀ (x86 : (List Int)), (∀ (x87 : Int), (∀ (x88 : Int), ((Go.Sx.Abs (M84 ++ (List.take (32 : Nat) (List.drop (0 : Nat) (Prod.snd i78)))) x85 x86 x87 x88) → (∀ (ys89 : (List Int)), ((ys89 = x86) → (∀ (x90 : Int), ((x90 = (Go.IntKind.wrap Go.IntKind.u8 ((((Go.Sx.ExI.j i75) : Nat) : Int) + (1 : Int)))) → (((1 : Nat) ≤ (List.length [x90])) ∧
 (∃ (M91 : (List Int)), (((Go.Sx.kL = Go.Sx.kL) ∧
 ((Go.Sx.Abs M91 (Go.Sx.S8.mk (Go.Sx.S8.a x85) (Go.Sx.S8.b x85) (Go.Sx.S8.c x85) (Go.Sx.S8.d x85) (Go.Sx.S8.e x85) (Go.Sx.S8.f x85) (Go.Sx.S8.g x85) (Go.Sx.S8.h x85)) ys89 x87 x88) ∧
 ((Go.Sx.Bytes (List.take (1 : Nat) (List.drop (0 : Nat) [x90]))) ∧
 (((List.length (List.take (1 : Nat) (List.drop (0 : Nat) [x90]))) = (1 : Nat)) ∧
 (((1 : Nat) ≤ (1 : Nat)) ∧
 (((1 : Nat) ≤ (65536 : Nat)) ∧
 ((List.length M91) < (1099511627776 : Nat)))))))) ∧
 (∀ (x92 : Go.Sx.S8), (∀ (x93 : (List Int)), (∀ (x94 : Int), (∀ (x95 : Int), ((Go.Sx.Abs (M91 ++ (List.take (1 : Nat) (List.drop (0 : Nat) [x90]))) x92 x93 x94 x95) → (∀ (ys96 : (List Int)), ((ys96 = x93) → ((((0 : Nat) + (l2 * (1 : Nat))) ≤ (List.length dst)) ∧
 (∃ (M97 : (List Int)), (((Go.Sx.kL = Go.Sx.kL) ∧
 ((Go.Sx.Abs M97 (Go.Sx.S8.mk (Go.Sx.S8.a x92) (Go.Sx.S8.b x92) (Go.Sx.S8.c x92) (Go.Sx.S8.d x92) (Go.Sx.S8.e x92) (Go.Sx.S8.f x92) (Go.Sx.S8.g x92) (Go.Sx.S8.h x92)) ys96 x94 x95) ∧
 ((Go.Sx.Bytes (List.take (l2 * (1 : Nat)) (List.drop (0 : Nat) dst))) ∧
 (((List.length (List.take (l2 * (1 : Nat)) (List.drop (0 : Nat) dst))) = l2) ∧
 ((l2 ≤ c2) ∧
 ((l2 ≤ (65536 : Nat)) ∧
 ((List.length M97) < (1099511627776 : Nat)))))))) ∧
 (∀ (x98 : Go.Sx.S8), (∀ (x99 : (List Int)), (∀ (x100 : Int), (∀ (x101 : Int), ((Go.Sx.Abs (M97 ++ (List.take (l2 * (1 : Nat)) (List.drop (0 : Nat) dst))) x98 x99 x100 x101) → (∀ (ys102 : (List Int)), ((ys102 = x99) → (((1 : Nat) ≤ (List.length [x6])) ∧
 (∃ (M103 : (List Int)), (((Go.Sx.kL = Go.Sx.kL) ∧
 ((Go.Sx.Abs M103 (Go.Sx.S8.mk (Go.Sx.S8.a x98) (Go.Sx.S8.b x98) (Go.Sx.S8.c x98) (Go.Sx.S8.d x98) (Go.Sx.S8.e x98) (Go.Sx.S8.f x98) (Go.Sx.S8.g x98) (Go.Sx.S8.h x98)) ys102 x100 x101) ∧
 ((Go.Sx.Bytes (List.take (1 : Nat) (List.drop (0 : Nat) [x6]))) ∧
 (((List.length (List.take (1 : Nat) (List.drop (0 : Nat) [x6]))) = (1 : Nat)) ∧
 (((1 : Nat) ≤ (1 : Nat)) ∧
 (((1 : Nat) ≤ (65536 : Nat)) ∧
 ((List.length M103) < (1099511627776 : Nat)))))))) ∧
 (∀ (x104 : Go.Sx.S8), (∀ (x105 : (List Int)), (∀ (x106 : Int), (∀ (x107 : Int), ((Go.Sx.Abs (M103 ++ (List.take (1 : Nat) (List.drop (0 : Nat) [x6]))) x104 x105 x106 x107) → (∀ (ys108 : (List Int)), ((ys108 = x105) → (∃ (M109 : (List Int)), (((Go.Sx.kL = Go.Sx.kL) ∧
 ((Go.Sx.Abs M109 (Go.Sx.S8.mk (Go.Sx.S8.a x104) (Go.Sx.S8.b x104) (Go.Sx.S8.c x104) (Go.Sx.S8.d x104) (Go.Sx.S8.e x104) (Go.Sx.S8.f x104) (Go.Sx.S8.g x104) (Go.Sx.S8.h x104)) ys108 x106 x107) ∧
 ((List.length M109) < (549755813888 : Nat)))) ∧
 (∀ (ys110 : (List Int)), (∀ (cap111 : Nat), ((((List.take (32 : Nat) ys110) = (Go.Sx.sha M109)) ∧
 (((List.length ys110) = cap111) ∧
 ((32 : Nat) ≤ cap111))) → (∀ (ys112 : (List Int)), ((ys112 = ys110) → (∀ (x113 : Int), ((x113 = (Go.IntKind.wrap Go.IntKind.i64 (((((Go.Sx.ExI.j i75) : Nat) : Int) + (1 : Int)) - (1 : Int)))) → (∀ (x114 : Int), ((x114 = (Go.IntKind.wrap Go.IntKind.i64 ((32 : Int) * x113))) → (∀ (x115 : Int), ((x115 = (Go.IntKind.wrap Go.IntKind.i64 ((32 : Int) * ((((Go.Sx.ExI.j i75) : Nat) : Int) + (1 : Int))))) → (∀ (x116 : Int), ((x116 = (((Int.toNat n) : Nat) : Int)) → (∀ (x117 : Int), ((x117 = (if (x116 < x115) then x116 else x115)) → (((((0 : Int) ≤ x117) ∧
 (x117 ≤ (((Int.toNat n) : Nat) : Int))) ∧
 (((0 : Int) ≤ x114) ∧
 (x114 ≤ (((Int.toNat x117) : Nat) : Int)))) ∧
 (((((0 : Nat) + (Min.min (32 : Nat) ((Int.toNat x117) - (Int.toNat x114)))) ≤ (List.length ys112)) ∧
 (((if ((Int.toNat n) = (Int.toNat x114)) then (0 : Nat) else ((Int.toNat x114) * (1 : Nat))) + (Min.min (32 : Nat) ((Int.toNat x117) - (Int.toNat x114)))) ≤ (List.length (Go.Sx.ExI.res i75)))) ∧
 (∀ (x118 : Int), ((x118 = (Go.IntKind.wrap Go.IntKind.i64 (((((Go.Sx.ExI.j i75) : Nat) : Int) + (1 : Int)) + (1 : Int)))) → (∃ (x119 : Go.Sx.ExI), ((((1 : Nat) ≤ (Go.Sx.ExI.j x119)) ∧
 ((((32 : Int) * (((Go.Sx.ExI.j x119) : Nat) : Int)) < (n + (32 : Int))) ∧
 ((Go.Sx.Rw (Go.Sx.ExI.b x119) (Go.Sx.bI (Go.Sx.firstL msg dst n) (Go.Sx.domL dst) (Go.Sx.ExI.j x119)) (32 : Nat) (Go.Sx.ExI.bc x119)) ∧
 (((((List.length (Go.Sx.ExI.res x119)) : Nat) : Int) = n) ∧
 (((List.take ((32 : Nat) * (Go.Sx.ExI.j x119)) (Go.Sx.ExI.res x119)) = (List.take (Int.toNat n) (Go.Sx.outN (Go.Sx.firstL msg dst n) (Go.Sx.domL dst) (Go.Sx.ExI.j x119)))) ∧
 ((List.length (Go.Sx.ExI.x x119)) = (64 : Nat))))))) ∧
 (((((l2 = l2) ∧
 (c2 = c2)) ∧
 ((n = n) ∧
 ((x3 = x3) ∧
 ((x6 = x6) ∧
 ((cap43 = cap43) ∧
 ((((Int.toNat n) = (Int.toNat n)) ∧
 ((Int.toNat n) = (Int.toNat n))) ∧
 ((cap111 = (Go.Sx.ExI.bc x119)) ∧
 (x118 = ((((Go.Sx.ExI.j x119) : Nat) : Int) + (1 : Int)))))))))) ∧
 ((Go.Sx.kL = Go.Sx.kL) ∧
 ((dst = dst) ∧
 ((ys44 = ys44) ∧
 (((((Go.Sx.S8.a x104) = (Go.Sx.S8.a (Go.Sx.ExI.H x119))) ∧
 (((Go.Sx.S8.b x104) = (Go.Sx.S8.b (Go.Sx.ExI.H x119))) ∧
 (((Go.Sx.S8.c x104) = (Go.Sx.S8.c (Go.Sx.ExI.H x119))) ∧
 (((Go.Sx.S8.d x104) = (Go.Sx.S8.d (Go.Sx.ExI.H x119))) ∧
 (((Go.Sx.S8.e x104) = (Go.Sx.S8.e (Go.Sx.ExI.H x119))) ∧
 (((Go.Sx.S8.f x104) = (Go.Sx.S8.f (Go.Sx.ExI.H x119))) ∧
 (((Go.Sx.S8.g x104) = (Go.Sx.S8.g (Go.Sx.ExI.H x119))) ∧
 ((Go.Sx.S8.h x104) = (Go.Sx.S8.h (Go.Sx.ExI.H x119)))))))))) ∧
 ((ys108 = (Go.Sx.ExI.x x119)) ∧
 ((x106 = (Go.Sx.ExI.nx x119)) ∧
 (x107 = (Go.Sx.ExI.len x119))))) ∧
 ((ys112 = (Go.Sx.ExI.b x119)) ∧
 ((Go.Sx.splice (Go.Sx.ExI.res i75) (if ((Int.toNat n) = (Int.toNat x114)) then (0 : Nat) else ((Int.toNat x114) * (1 : Nat))) (List.take (Min.min (32 : Nat) ((Int.toNat x117) - (Int.toNat x114))) (List.drop (0 : Nat) ys112))) = (Go.Sx.ExI.res x119)))))))) ∧
 ((((Int.toNat n) + (32 : Nat)) - ((32 : Nat) * (Go.Sx.ExI.j x119))) < (((Int.toNat n) + (32 : Nat)) - ((32 : Nat) * (Go.Sx.ExI.j i75))))))))))))))))))))))))))))))))))))))))))))))))))))))))))))))))))))))))))))))) ∧
 (((decide (((((Go.Sx.ExI.j i75) : Nat) : Int) + (1 : Int)) ≤ x3)) = Bool.false) → (K (Go.Sx.SV.tup [(Go.Sx.SV.slice (1569 : Nat) (Go.Sx.N.lit (0 : Nat)) (Go.Sx.N.sym (Int.toNat n)) (Go.Sx.N.sym (Int.toNat n))), (Go.Sx.SV.val Go.Value.nilIface)]) (Go.Sx.memL [((0 : Nat), (Go.Sx.Reg.mk Bool.true (Go.Sx.Ct.ints Go.IntKind.u32 Go.Sx.kL))), ((17 : Nat), (Go.Sx.Reg.mk Bool.true (Go.Sx.Ct.ints Go.IntKind.u8 dst))), ((529 : Nat), (Go.Sx.Reg.mk Bool.false (Go.Sx.Ct.segs [(Go.Sx.Sg.cells [(Go.Sx.SV.int Go.IntKind.u32 (Go.Sx.A.sym (Go.Sx.S8.a (Go.Sx.ExI.H i75)))), (Go.Sx.SV.int Go.IntKind.u32 (Go.Sx.A.sym (Go.Sx.S8.b (Go.Sx.ExI.H i75)))), (Go.Sx.SV.int Go.IntKind.u32 (Go.Sx.A.sym (Go.Sx.S8.c (Go.Sx.ExI.H i75)))), (Go.Sx.SV.int Go.IntKind.u32 (Go.Sx.A.sym (Go.Sx.S8.d (Go.Sx.ExI.H i75)))), (Go.Sx.SV.int Go.IntKind.u32 (Go.Sx.A.sym (Go.Sx.S8.e (Go.Sx.ExI.H i75)))), (Go.Sx.SV.int Go.IntKind.u32 (Go.Sx.A.sym (Go.Sx.S8.f (Go.Sx.ExI.H i75)))), (Go.Sx.SV.int Go.IntKind.u32 (Go.Sx.A.sym (Go.Sx.S8.g (Go.Sx.ExI.H i75)))), (Go.Sx.SV.int Go.IntKind.u32 (Go.Sx.A.sym (Go.Sx.S8.h (Go.Sx.ExI.H i75))))]), (Go.Sx.Sg.ints Go.IntKind.u8 (64 : Nat) (Go.Sx.ExI.x i75)), (Go.Sx.Sg.cells [(Go.Sx.SV.int Go.IntKind.i64 (Go.Sx.A.sym (Go.Sx.ExI.nx i75))), (Go.Sx.SV.int Go.IntKind.u64 (Go.Sx.A.sym (Go.Sx.ExI.len i75))), (Go.Sx.SV.bool (Go.Sx.B.lit Bool.false))])]))), ((1177 : Nat), (Go.Sx.Reg.mk Bool.false (Go.Sx.Ct.ints Go.IntKind.u8 ys44))), ((1569 : Nat), (Go.Sx.Reg.mk Bool.false (Go.Sx.Ct.ints Go.IntKind.u8 (Go.Sx.ExI.res i75)))), ((1641 : Nat), (Go.Sx.Reg.mk Bool.false (Go.Sx.Ct.ints Go.IntKind.u8 (Go.Sx.ExI.b i75))))])))))))))))))))))))))))))))))))))))))))))))))))))))))))))))))))))))))))))))))))))))))))))))))))))))))))))))))))))))))))))))))))))))))))))))))))) := by kernel_rfl
theorem vc_exn (dst : List Int) (l2 c2 : Nat) (n : Int) (K : SV → Mem → Prop) : (execF cxEX (uEX 9 [] dst n) Tryd.f7 64 [.val (.slice none 0 0), .slice 9 (.lit 0) (.sym l2) (.sym c2), .int .i64 (.sym n)] (memL [(0, ⟨true, .ints .u32 kL⟩), (9, ⟨true, .ints .u8 dst⟩)]) K) =
  ((∀ (ys0 : (List Int)), ((ys0 = (List.replicate (64 : Nat) (0 : Int))) → (∀ (x1 : Int), ((x1 = (Go.IntKind.wrap Go.IntKind.i64 (n + (32 : Int)))) → (∀ (x2 : Int), ((x2 = (Go.IntKind.wrap Go.IntKind.i64 (x1 - (1 : Int)))) → (∀ (x3 : Int), ((x3 = (Go.IntKind.wrap Go.IntKind.i64 (Int.tdiv x2 (32 : Int)))) → ((((decide (x3 > (255 : Int))) = Bool.true) → (K (Go.Sx.SV.tup [(Go.Sx.SV.val (Go.Value.slice Option.none (0 : Nat) (0 : Nat))), (Go.Sx.SV.iface (48 : Go.TypeId) (Go.Sx.SV.ptr (633 : Nat) (Go.Sx.N.lit (0 : Nat))))]) (Go.Sx.memL [((0 : Nat), (Go.Sx.Reg.mk Bool.true (Go.Sx.Ct.ints Go.IntKind.u32 Go.Sx.kL))), ((9 : Nat), (Go.Sx.Reg.mk Bool.true (Go.Sx.Ct.ints Go.IntKind.u8 dst))), ((529 : Nat), (Go.Sx.Reg.mk Bool.false (Go.Sx.Ct.segs [(Go.Sx.Sg.cells [(Go.Sx.SV.int Go.IntKind.u32 (Go.Sx.A.sym (1779033703 : Int))), (Go.Sx.SV.int Go.IntKind.u32 (Go.Sx.A.sym (3144134277 : Int))), (Go.Sx.SV.int Go.IntKind.u32 (Go.Sx.A.sym (1013904242 : Int))), (Go.Sx.SV.int Go.IntKind.u32 (Go.Sx.A.sym (2773480762 : Int))), (Go.Sx.SV.int Go.IntKind.u32 (Go.Sx.A.sym (1359893119 : Int))), (Go.Sx.SV.int Go.IntKind.u32 (Go.Sx.A.sym (2600822924 : Int))), (Go.Sx.SV.int Go.IntKind.u32 (Go.Sx.A.sym (528734635 : Int))), (Go.Sx.SV.int Go.IntKind.u32 (Go.Sx.A.sym (1541459225 : Int)))]), (Go.Sx.Sg.ints Go.IntKind.u8 (64 : Nat) ys0), (Go.Sx.Sg.cells [(Go.Sx.SV.int Go.IntKind.i64 (Go.Sx.A.sym (0 : Int))), (Go.Sx.SV.int Go.IntKind.u64 (Go.Sx.A.sym (0 : Int))), (Go.Sx.SV.bool (Go.Sx.B.lit Bool.false))])]))), ((633 : Nat), (Go.Sx.Reg.mk Bool.false (Go.Sx.Ct.cells [(Go.Sx.SV.val (Go.Value.string (ByteArray.mk (Array.mk [(105 : UInt8), (110 : UInt8), (118 : UInt8), (97 : UInt8), (108 : UInt8), (105 : UInt8), (100 : UInt8), (32 : UInt8), (108 : UInt8), (101 : UInt8), (110 : UInt8), (73 : UInt8), (110 : UInt8), (66 : UInt8), (121 : UInt8), (116 : UInt8), (101 : UInt8), (115 : UInt8)]))))])))]))) ∧
 (((decide (x3 > (255 : Int))) = Bool.false) → (∀ (x4 : Int), ((x4 = ((l2 : Nat) : Int)) → ((((decide (x4 > (255 : Int))) = Bool.true) → (K (Go.Sx.SV.tup [(Go.Sx.SV.val (Go.Value.slice Option.none (0 : Nat) (0 : Nat))), (Go.Sx.SV.iface (48 : Go.TypeId) (Go.Sx.SV.ptr (657 : Nat) (Go.Sx.N.lit (0 : Nat))))]) (Go.Sx.memL [((0 : Nat), (Go.Sx.Reg.mk Bool.true (Go.Sx.Ct.ints Go.IntKind.u32 Go.Sx.kL))), ((9 : Nat), (Go.Sx.Reg.mk Bool.true (Go.Sx.Ct.ints Go.IntKind.u8 dst))), ((529 : Nat), (Go.Sx.Reg.mk Bool.false (Go.Sx.Ct.segs [(Go.Sx.Sg.cells [(Go.Sx.SV.int Go.IntKind.u32 (Go.Sx.A.sym (1779033703 : Int))), (Go.Sx.SV.int Go.IntKind.u32 (Go.Sx.A.sym (3144134277 : Int))), (Go.Sx.SV.int Go.IntKind.u32 (Go.Sx.A.sym (1013904242 : Int))), (Go.Sx.SV.int Go.IntKind.u32 (Go.Sx.A.sym (2773480762 : Int))), (Go.Sx.SV.int Go.IntKind.u32 (Go.Sx.A.sym (1359893119 : Int))), (Go.Sx.SV.int Go.IntKind.u32 (Go.Sx.A.sym (2600822924 : Int))), (Go.Sx.SV.int Go.IntKind.u32 (Go.Sx.A.sym (528734635 : Int))), (Go.Sx.SV.int Go.IntKind.u32 (Go.Sx.A.sym (1541459225 : Int)))]), (Go.Sx.Sg.ints Go.IntKind.u8 (64 : Nat) ys0), (Go.Sx.Sg.cells [(Go.Sx.SV.int Go.IntKind.i64 (Go.Sx.A.sym (0 : Int))), (Go.Sx.SV.int Go.IntKind.u64 (Go.Sx.A.sym (0 : Int))), (Go.Sx.SV.bool (Go.Sx.B.lit Bool.false))])]))), ((657 : Nat), (Go.Sx.Reg.mk Bool.false (Go.Sx.Ct.cells [(Go.Sx.SV.val (Go.Value.string (ByteArray.mk (Array.mk [(105 : UInt8), (110 : UInt8), (118 : UInt8), (97 : UInt8), (108 : UInt8), (105 : UInt8), (100 : UInt8), (32 : UInt8), (100 : UInt8), (111 : UInt8), (109 : UInt8), (97 : UInt8), (105 : UInt8), (110 : UInt8), (32 : UInt8), (115 : UInt8), (105 : UInt8), (122 : UInt8), (101 : UInt8), (32 : UInt8), (40 : UInt8), (62 : UInt8), (50 : UInt8), (53 : UInt8), (53 : UInt8), (32 : UInt8), (98 : UInt8), (121 : UInt8), (116 : UInt8), (101 : UInt8), (115 : UInt8), (41 : UInt8)]))))])))]))) ∧
 (((decide (x4 > (255 : Int))) = Bool.false) → (∀ (x5 : Int), ((x5 = ((l2 : Nat) : Int)) → (∀ (x6 : Int), ((x6 = (Go.IntKind.wrap Go.IntKind.u8 x5)) → (∀ (ys7 : (List Int)), ((ys7 = ys0) → ((((0 : Int) ≤ (64 : Int)) ∧
 (((64 : Int) ≤ (140737488355328 : Int)) ∧
 ((64 : Int) ≤ (140737488355328 : Int)))) ∧
 (((64 : Nat) ≤ (64 : Nat)) ∧
 (∃ (M8 : (List Int)), (((Go.Sx.kL = Go.Sx.kL) ∧
 ((Go.Sx.Abs M8 (Go.Sx.S8.mk (1779033703 : Int) (3144134277 : Int) (1013904242 : Int) (2773480762 : Int) (1359893119 : Int) (2600822924 : Int) (528734635 : Int) (1541459225 : Int)) ys7 (0 : Int) (0 : Int)) ∧
 ((Go.Sx.Bytes (List.take (64 : Nat) (List.drop (0 : Nat) (List.replicate (64 : Nat) (0 : Int))))) ∧
 (((64 : Nat) = (64 : Nat)) ∧
 (((64 : Nat) ≤ (64 : Nat)) ∧
 (((64 : Nat) ≤ (65536 : Nat)) ∧
 ((List.length M8) < (1099511627776 : Nat)))))))) ∧
 (∀ (x9 : Go.Sx.S8), (∀ (x10 : (List Int)), (∀ (x11 : Int), (∀ (x12 : Int), ((Go.Sx.Abs (M8 ++ (List.take (64 : Nat) (List.drop (0 : Nat) (List.replicate (64 : Nat) (0 : Int))))) x9 x10 x11 x12) → (∀ (ys13 : (List Int)), ((ys13 = x10) → (∃ (M14 : (List Int)), (((Go.Sx.kL = Go.Sx.kL) ∧
 ((Go.Sx.Abs M14 (Go.Sx.S8.mk (Go.Sx.S8.a x9) (Go.Sx.S8.b x9) (Go.Sx.S8.c x9) (Go.Sx.S8.d x9) (Go.Sx.S8.e x9) (Go.Sx.S8.f x9) (Go.Sx.S8.g x9) (Go.Sx.S8.h x9)) ys13 x11 x12) ∧
 ((((List.length M14) % (64 : Nat)) = (0 : Nat)) ∧
 ((List.length M14) < (1099511627776 : Nat))))) ∧
 (∀ (x15 : Go.Sx.S8), (∀ (x16 : (List Int)), (∀ (x17 : Int), (∀ (x18 : Int), ((Go.Sx.Abs M14 x15 x16 x17 x18) → (∀ (ys19 : (List Int)), ((ys19 = x16) → (∀ (x20 : Int), ((x20 = (Go.Sx.shrv Go.IntKind.i64 n (8 : Nat))) → (∀ (x21 : Int), ((x21 = (Go.IntKind.wrap Go.IntKind.u8 x20)) → (∀ (x22 : Int), ((x22 = (Go.IntKind.wrap Go.IntKind.u8 n)) → (((3 : Nat) ≤ (List.length [x21, x22, (0 : Int)])) ∧
 (∃ (M23 : (List Int)), (((Go.Sx.kL = Go.Sx.kL) ∧
 ((Go.Sx.Abs M23 (Go.Sx.S8.mk (Go.Sx.S8.a x15) (Go.Sx.S8.b x15) (Go.Sx.S8.c x15) (Go.Sx.S8.d x15) (Go.Sx.S8.e x15) (Go.Sx.S8.f x15) (Go.Sx.S8.g x15) (Go.Sx.S8.h x15)) ys19 x17 x18) ∧
 ((Go.Sx.Bytes (List.take (3 : Nat) (List.drop (0 : Nat) [x21, x22, (0 : Int)]))) ∧
 (((List.length (List.take (3 : Nat) (List.drop (0 : Nat) [x21, x22, (0 : Int)]))) = (3 : Nat)) ∧
 (((3 : Nat) ≤ (3 : Nat)) ∧
 (((3 : Nat) ≤ (65536 : Nat)) ∧
 ((List.length M23) < (1099511627776 : Nat)))))))) ∧
 (∀ (x24 : Go.Sx.S8), (∀ (x25 : (List Int)), (∀ (x26 : Int), (∀ (x27 : Int), ((Go.Sx.Abs (M23 ++ (List.take (3 : Nat) (List.drop (0 : Nat) [x21, x22, (0 : Int)]))) x24 x25 x26 x27) → (∀ (ys28 : (List Int)), ((ys28 = x25) → ((((0 : Nat) + (l2 * (1 : Nat))) ≤ (List.length dst)) ∧
 (∃ (M29 : (List Int)), (((Go.Sx.kL = Go.Sx.kL) ∧
 ((Go.Sx.Abs M29 (Go.Sx.S8.mk (Go.Sx.S8.a x24) (Go.Sx.S8.b x24) (Go.Sx.S8.c x24) (Go.Sx.S8.d x24) (Go.Sx.S8.e x24) (Go.Sx.S8.f x24) (Go.Sx.S8.g x24) (Go.Sx.S8.h x24)) ys28 x26 x27) ∧
 ((Go.Sx.Bytes (List.take (l2 * (1 : Nat)) (List.drop (0 : Nat) dst))) ∧
 (((List.length (List.take (l2 * (1 : Nat)) (List.drop (0 : Nat) dst))) = l2) ∧
 ((l2 ≤ c2) ∧
 ((l2 ≤ (65536 : Nat)) ∧
 ((List.length M29) < (1099511627776 : Nat)))))))) ∧
 (∀ (x30 : Go.Sx.S8), (∀ (x31 : (List Int)), (∀ (x32 : Int), (∀ (x33 : Int), ((Go.Sx.Abs (M29 ++ (List.take (l2 * (1 : Nat)) (List.drop (0 : Nat) dst))) x30 x31 x32 x33) → (∀ (ys34 : (List Int)), ((ys34 = x31) → (((1 : Nat) ≤ (List.length [x6])) ∧
 (∃ (M35 : (List Int)), (((Go.Sx.kL = Go.Sx.kL) ∧
 ((Go.Sx.Abs M35 (Go.Sx.S8.mk (Go.Sx.S8.a x30) (Go.Sx.S8.b x30) (Go.Sx.S8.c x30) (Go.Sx.S8.d x30) (Go.Sx.S8.e x30) (Go.Sx.S8.f x30) (Go.Sx.S8.g x30) (Go.Sx.S8.h x30)) ys34 x32 x33) ∧
 ((Go.Sx.Bytes (List.take (1 : Nat) (List.drop (0 : Nat) [x6]))) ∧
 (((List.length (List.take (1 : Nat) (List.drop (0 : Nat) [x6]))) = (1 : Nat)) ∧
 (((1 : Nat) ≤ (1 : Nat)) ∧
 (((1 : Nat) ≤ (65536 : Nat)) ∧
 ((List.length M35) < (1099511627776 : Nat)))))))) ∧
 (∀ (x36 : Go.Sx.S8), (∀ (x37 : (List Int)), (∀ (x38 : Int), (∀ (x39 : Int), ((Go.Sx.Abs (M35 ++ (List.take (1 : Nat) (List.drop (0 : Nat) [x6]))) x36 x37 x38 x39) → (∀ (ys40 : (List Int)), ((ys40 = x37) → (∃ (M41 : (List Int)), (((Go.Sx.kL = Go.Sx.kL) ∧
 ((Go.Sx.Abs M41 (Go.Sx.S8.mk (Go.Sx.S8.a x36) (Go.Sx.S8.b x36) (Go.Sx.S8.c x36) (Go.Sx.S8.d x36) (Go.Sx.S8.e x36) (Go.Sx.S8.f x36) (Go.Sx.S8.g x36) (Go.Sx.S8.h x36)) ys40 x38 x39) ∧
 ((List.length M41) < (549755813888 : Nat)))) ∧
 (∀ (ys42 : (List Int)), (∀ (cap43 : Nat), ((((List.take (32 : Nat) ys42) = (Go.Sx.sha M41)) ∧
 (((List.length ys42) = cap43) ∧
 ((32 : Nat) ≤ cap43))) → (∀ (ys44 : (List Int)), ((ys44 = ys42) → (∀ (ys45 : (List Int)), ((ys45 = ys40) → (((32 : Nat) ≤ (List.length ys44)) ∧
 (∃ (M46 : (List Int)), (((Go.Sx.kL = Go.Sx.kL) ∧
 ((Go.Sx.Abs M46 (Go.Sx.S8.mk (1779033703 : Int) (3144134277 : Int) (1013904242 : Int) (2773480762 : Int) (1359893119 : Int) (2600822924 : Int) (528734635 : Int) (1541459225 : Int)) ys45 (0 : Int) (0 : Int)) ∧
 ((Go.Sx.Bytes (List.take (32 : Nat) (List.drop (0 : Nat) ys44))) ∧
 (((List.length (List.take (32 : Nat) (List.drop (0 : Nat) ys44))) = (32 : Nat)) ∧
 (((32 : Nat) ≤ cap43) ∧
 (((32 : Nat) ≤ (65536 : Nat)) ∧
 ((List.length M46) < (1099511627776 : Nat)))))))) ∧
 (∀ (x47 : Go.Sx.S8), (∀ (x48 : (List Int)), (∀ (x49 : Int), (∀ (x50 : Int), ((Go.Sx.Abs (M46 ++ (List.take (32 : Nat) (List.drop (0 : Nat) ys44))) x47 x48 x49 x50) → (∀ (ys51 : (List Int)), ((ys51 = x48) → (((1 : Nat) ≤ (1 : Nat)) ∧
 (∃ (M52 : (List Int)), (((Go.Sx.kL = Go.Sx.kL) ∧
 ((Go.Sx.Abs M52 (Go.Sx.S8.mk (Go.Sx.S8.a x47) (Go.Sx.S8.b x47) (Go.Sx.S8.c x47) (Go.Sx.S8.d x47) (Go.Sx.S8.e x47) (Go.Sx.S8.f x47) (Go.Sx.S8.g x47) (Go.Sx.S8.h x47)) ys51 x49 x50) ∧
 ((Go.Sx.Bytes (List.take (1 : Nat) (List.drop (0 : Nat) [(1 : Int)]))) ∧
 (((1 : Nat) = (1 : Nat)) ∧
 (((1 : Nat) ≤ (1 : Nat)) ∧
 (((1 : Nat) ≤ (65536 : Nat)) ∧
 ((List.length M52) < (1099511627776 : Nat)))))))) ∧
 (∀ (x53 : Go.Sx.S8), (∀ (x54 : (List Int)), (∀ (x55 : Int), (∀ (x56 : Int), ((Go.Sx.Abs (M52 ++ (List.take (1 : Nat) (List.drop (0 : Nat) [(1 : Int)]))) x53 x54 x55 x56) → (∀ (ys57 : (List Int)), ((ys57 = x54) → ((((0 : Nat) + (l2 * (1 : Nat))) ≤ (List.length dst)) ∧
 (∃ (M58 : (List Int)), (((Go.Sx.kL = Go.Sx.kL) ∧
 ((Go.Sx.Abs M58 (Go.Sx.S8.mk (Go.Sx.S8.a x53) (Go.Sx.S8.b x53) (Go.Sx.S8.c x53) (Go.Sx.S8.d x53) (Go.Sx.S8.e x53) (Go.Sx.S8.f x53) (Go.Sx.S8.g x53) (Go.Sx.S8.h x53)) ys57 x55 x56) ∧
 ((Go.Sx.Bytes (List.take (l2 * (1 : Nat)) (List.drop (0 : Nat) dst))) ∧
 (((List.length (List.take (l2 * (1 : Nat)) (List.drop (0 : Nat) dst))) = l2) ∧
 ((l2 ≤ c2) ∧
 ((l2 ≤ (65536 : Nat)) ∧
 ((List.length M58) < (1099511627776 : Nat)))))))) ∧
 (∀ (x59 : Go.Sx.S8), (∀ (x60 : (List Int)), (∀ (x61 : Int), (∀ (x62 : Int), ((Go.Sx.Abs (M58 ++ (List.take (l2 * (1 : Nat)) (List.drop (0 : Nat) dst))) x59 x60 x61 x62) → (∀ (ys63 : (List Int)), ((ys63 = x60) → (((1 : Nat) ≤ (List.length [x6])) ∧
 (∃ (M64 : (List Int)), (((Go.Sx.kL = Go.Sx.kL) ∧
 ((Go.Sx.Abs M64 (Go.Sx.S8.mk (Go.Sx.S8.a x59) (Go.Sx.S8.b x59) (Go.Sx.S8.c x59) (Go.Sx.S8.d x59) (Go.Sx.S8.e x59) (Go.Sx.S8.f x59) (Go.Sx.S8.g x59) (Go.Sx.S8.h x59)) ys63 x61 x62) ∧
 ((Go.Sx.Bytes (List.take (1 : Nat) (List.drop (0 : Nat) [x6]))) ∧
 (((List.length (List.take (1 : Nat) (List.drop (0 : Nat) [x6]))) = (1 : Nat)) ∧
 (((1 : Nat) ≤ (1 : Nat)) ∧
 (((1 : Nat) ≤ (65536 : Nat)) ∧
 ((List.length M64) < (1099511627776 : Nat)))))))) ∧
 (∀ (x65 : Go.Sx.S8), (∀ (x66 : (List Int)), (∀ (x67 : Int), (∀ (x68 : Int), ((Go.Sx.Abs (M64 ++ (List.take (1 : Nat) (List.drop (0 : Nat) [x6]))) x65 x66 x67 x68) → (∀ (ys69 : (List Int)), ((ys69 = x66) → (∃ (M70 : (List Int)), (((Go.Sx.kL = Go.Sx.kL) ∧
 ((Go.Sx.Abs M70 (Go.Sx.S8.mk (Go.Sx.S8.a x65) (Go.Sx.S8.b x65) (Go.Sx.S8.c x65) (Go.Sx.S8.d x65) (Go.Sx.S8.e x65) (Go.Sx.S8.f x65) (Go.Sx.S8.g x65) (Go.Sx.S8.h x65)) ys69 x67 x68) ∧
 ((List.length M70) < (549755813888 : Nat)))) ∧
 (∀ (ys71 : (List Int)), (∀ (cap72 : Nat), ((((List.take (32 : Nat) ys71) = (Go.Sx.sha M70)) ∧
 (((List.length ys71) = cap72) ∧
 ((32 : Nat) ≤ cap72))) → (∀ (ys73 : (List Int)), ((ys73 = ys71) → ((((0 : Int) ≤ n) ∧
 (((n * (1 : Int)) ≤ (140737488355328 : Int)) ∧
 (n ≤ (140737488355328 : Int)))) ∧
 ((((0 : Int) ≤ (32 : Int)) ∧
 ((32 : Int) ≤ (((Int.toNat n) : Nat) : Int))) ∧
 ((((32 : Nat) ≤ (List.length ys73)) ∧
 ((32 : Nat) ≤ (List.length (List.replicate ((Int.toNat n) * (1 : Nat)) (0 : Int))))) ∧
 ((∃ (i074 : Go.Sx.ExI), ((((1 : Nat) ≤ (Go.Sx.ExI.j i074)) ∧
 ((((32 : Int) * (((Go.Sx.ExI.j i074) : Nat) : Int)) < (n + (32 : Int))) ∧
 ((Go.Sx.Rw (Go.Sx.ExI.b i074) (Go.Sx.bI (Go.Sx.firstL [] dst n) (Go.Sx.domL dst) (Go.Sx.ExI.j i074)) (32 : Nat) (Go.Sx.ExI.bc i074)) ∧
 (((((List.length (Go.Sx.ExI.res i074)) : Nat) : Int) = n) ∧
 (((List.take ((32 : Nat) * (Go.Sx.ExI.j i074)) (Go.Sx.ExI.res i074)) = (List.take (Int.toNat n) (Go.Sx.outN (Go.Sx.firstL [] dst n) (Go.Sx.domL dst) (Go.Sx.ExI.j i074)))) ∧
 ((List.length (Go.Sx.ExI.x i074)) = (64 : Nat))))))) ∧
 ((((l2 = l2) ∧
 (c2 = c2)) ∧
 ((n = n) ∧
 ((x3 = x3) ∧
 ((x6 = x6) ∧
 ((cap43 = cap43) ∧
 ((((Int.toNat n) = (Int.toNat n)) ∧
 ((Int.toNat n) = (Int.toNat n))) ∧
 ((cap72 = (Go.Sx.ExI.bc i074)) ∧
 ((2 : Int) = ((((Go.Sx.ExI.j i074) : Nat) : Int) + (1 : Int)))))))))) ∧
 ((Go.Sx.kL = Go.Sx.kL) ∧
 ((dst = dst) ∧
 ((ys44 = ys44) ∧
 (((((Go.Sx.S8.a x65) = (Go.Sx.S8.a (Go.Sx.ExI.H i074))) ∧
 (((Go.Sx.S8.b x65) = (Go.Sx.S8.b (Go.Sx.ExI.H i074))) ∧
 (((Go.Sx.S8.c x65) = (Go.Sx.S8.c (Go.Sx.ExI.H i074))) ∧
 (((Go.Sx.S8.d x65) = (Go.Sx.S8.d (Go.Sx.ExI.H i074))) ∧
 (((Go.Sx.S8.e x65) = (Go.Sx.S8.e (Go.Sx.ExI.H i074))) ∧
 (((Go.Sx.S8.f x65) = (Go.Sx.S8.f (Go.Sx.ExI.H i074))) ∧
 (((Go.Sx.S8.g x65) = (Go.Sx.S8.g (Go.Sx.ExI.H i074))) ∧
 ((Go.Sx.S8.h x65) = (Go.Sx.S8.h (Go.Sx.ExI.H i074)))))))))) ∧
 ((ys69 = (Go.Sx.ExI.x i074)) ∧
 ((x67 = (Go.Sx.ExI.nx i074)) ∧
 (x68 = (Go.Sx.ExI.len i074))))) ∧
 ((ys73 = (Go.Sx.ExI.b i074)) ∧
 ((Go.Sx.splice (List.replicate ((Int.toNat n) * (1 : Nat)) (0 : Int)) (0 : Nat) (List.take (32 : Nat) (List.drop (0 : Nat) ys73))) = (Go.Sx.ExI.res i074)))))))))) ∧
 (∀ (i75 : Go.Sx.ExI), ((((1 : Nat) ≤ (Go.Sx.ExI.j i75)) ∧
 ((((32 : Int) * (((Go.Sx.ExI.j i75) : Nat) : Int)) < (n + (32 : Int))) ∧
 ((Go.Sx.Rw (Go.Sx.ExI.b i75) (Go.Sx.bI (Go.Sx.firstL [] dst n) (Go.Sx.domL dst) (Go.Sx.ExI.j i75)) (32 : Nat) (Go.Sx.ExI.bc i75)) ∧
 (((((List.length (Go.Sx.ExI.res i75)) : Nat) : Int) = n) ∧
 (((List.take ((32 : Nat) * (Go.Sx.ExI.j i75)) (Go.Sx.ExI.res i75)) = (List.take (Int.toNat n) (Go.Sx.outN (Go.Sx.firstL [] dst n) (Go.Sx.domL dst) (Go.Sx.ExI.j i75)))) ∧
 ((List.length (Go.Sx.ExI.x i75)) = (64 : Nat))))))) → ((((decide (((((Go.Sx.ExI.j i75) : Nat) : Int) + (1 : Int)) ≤ x3)) = Bool.true) → (∀ (ys76 : (List Int)), ((ys76 = (Go.Sx.ExI.x i75)) → ((((0 : Int) ≤ (32 : Int)) ∧
 (((32 : Int) ≤ (140737488355328 : Int)) ∧
 ((32 : Int) ≤ (140737488355328 : Int)))) ∧
 ((∃ (i077 : (Prod Nat (List Int))), ((((List.length (Prod.snd i077)) = (32 : Nat)) ∧
 (((List.take (Prod.fst i077) (Prod.snd i077)) = (List.take (Prod.fst i077) (Go.Sx.xorL ys44 (Go.Sx.ExI.b i75)))) ∧
 ((Prod.fst i077) ≤ (32 : Nat)))) ∧
 ((((l2 = l2) ∧
 (c2 = c2)) ∧
 ((n = n) ∧
 ((x3 = x3) ∧
 ((x6 = x6) ∧
 ((cap43 = cap43) ∧
 (((Go.Sx.ExI.bc i75) = (Go.Sx.ExI.bc i75)) ∧
 ((((Int.toNat n) = (Int.toNat n)) ∧
 ((Int.toNat n) = (Int.toNat n))) ∧
 ((((((Go.Sx.ExI.j i75) : Nat) : Int) + (1 : Int)) = ((((Go.Sx.ExI.j i75) : Nat) : Int) + (1 : Int))) ∧
 ((0 : Int) = (((Prod.fst i077) : Nat) : Int)))))))))) ∧
 ((Go.Sx.kL = Go.Sx.kL) ∧
 ((dst = dst) ∧
 (((((1779033703 : Int) = (1779033703 : Int)) ∧
 (((3144134277 : Int) = (3144134277 : Int)) ∧
 (((1013904242 : Int) = (1013904242 : Int)) ∧
 (((2773480762 : Int) = (2773480762 : Int)) ∧
 (((1359893119 : Int) = (1359893119 : Int)) ∧
 (((2600822924 : Int) = (2600822924 : Int)) ∧
 (((528734635 : Int) = (528734635 : Int)) ∧
 ((1541459225 : Int) = (1541459225 : Int))))))))) ∧
 ((ys76 = ys76) ∧
 (((0 : Int) = (0 : Int)) ∧
 ((0 : Int) = (0 : Int))))) ∧
 ((ys44 = ys44) ∧
 (((Go.Sx.ExI.res i75) = (Go.Sx.ExI.res i75)) ∧
 (((Go.Sx.ExI.b i75) = (Go.Sx.ExI.b i75)) ∧
 ((List.replicate (32 : Nat) (0 : Int)) = (Prod.snd i077))))))))))) ∧
 (∀ (i78 : (Prod Nat (List Int))), ((((List.length (Prod.snd i78)) = (32 : Nat)) ∧
 (((List.take (Prod.fst i78) (Prod.snd i78)) = (List.take (Prod.fst i78) (Go.Sx.xorL ys44 (Go.Sx.ExI.b i75)))) ∧
 ((Prod.fst i78) ≤ (32 : Nat)))) → ((((decide ((((Prod.fst i78) : Nat) : Int) < (32 : Int))) = Bool.true) → ((((0 : Int) ≤ (((Prod.fst i78) : Nat) : Int)) ∧
 ((((Prod.fst i78) : Nat) : Int) < (32 : Int))) ∧
 (((((Int.toNat (((Prod.fst i78) : Nat) : Int)) * (1 : Nat)) + (1 : Nat)) ≤ (List.length ys44)) ∧
 (∀ (x79 : Int), ((x79 = (List.getD ys44 ((Int.toNat (((Prod.fst i78) : Nat) : Int)) * (1 : Nat)) (0 : Int))) → ((((0 : Int) ≤ (((Prod.fst i78) : Nat) : Int)) ∧
 ((((Prod.fst i78) : Nat) : Int) < (32 : Int))) ∧
 (((((Int.toNat (((Prod.fst i78) : Nat) : Int)) * (1 : Nat)) + (1 : Nat)) ≤ (List.length (Go.Sx.ExI.b i75))) ∧
 (∀ (x80 : Int), ((x80 = (List.getD (Go.Sx.ExI.b i75) ((Int.toNat (((Prod.fst i78) : Nat) : Int)) * (1 : Nat)) (0 : Int))) → (∀ (x81 : Int), ((x81 = (Go.Sx.bxor Go.IntKind.u8 x79 x80)) → ((((0 : Int) ≤ (((Prod.fst i78) : Nat) : Int)) ∧
 ((((Prod.fst i78) : Nat) : Int) < (32 : Int))) ∧
 ((((Int.toNat (((Prod.fst i78) : Nat) : Int)) * (1 : Nat)) < (List.length (Prod.snd i78))) ∧
 (∀ (x82 : Int), ((x82 = (Go.IntKind.wrap Go.IntKind.i64 ((((Prod.fst i78) : Nat) : Int) + (1 : Int)))) → (∃ (x83 : (Prod Nat (List Int))), ((((List.length (Prod.snd x83)) = (32 : Nat)) ∧
 (((List.take (Prod.fst x83) (Prod.snd x83)) = (List.take (Prod.fst x83) (Go.Sx.xorL ys44 (Go.Sx.ExI.b i75)))) ∧
 ((Prod.fst x83) ≤ (32 : Nat)))) ∧
 (((((l2 = l2) ∧
 (c2 = c2)) ∧
 ((n = n) ∧
 ((x3 = x3) ∧
 ((x6 = x6) ∧
 ((cap43 = cap43) ∧
 (((Go.Sx.ExI.bc i75) = (Go.Sx.ExI.bc i75)) ∧
 ((((Int.toNat n) = (Int.toNat n)) ∧
 ((Int.toNat n) = (Int.toNat n))) ∧
 ((((((Go.Sx.ExI.j i75) : Nat) : Int) + (1 : Int)) = ((((Go.Sx.ExI.j i75) : Nat) : Int) + (1 : Int))) ∧
 (x82 = (((Prod.fst x83) : Nat) : Int)))))))))) ∧
 ((Go.Sx.kL = Go.Sx.kL) ∧
 ((dst = dst) ∧
 (((((1779033703 : Int) = (1779033703 : Int)) ∧
 (((3144134277 : Int) = (3144134277 : Int)) ∧
 (((1013904242 : Int) = (1013904242 : Int)) ∧
 (((2773480762 : Int) = (2773480762 : Int)) ∧
 (((1359893119 : Int) = (1359893119 : Int)) ∧
 (((2600822924 : Int) = (2600822924 : Int)) ∧
 (((528734635 : Int) = (528734635 : Int)) ∧
 ((1541459225 : Int) = (1541459225 : Int))))))))) ∧
 ((ys76 = ys76) ∧
 (((0 : Int) = (0 : Int)) ∧
 ((0 : Int) = (0 : Int))))) ∧
 ((ys44 = ys44) ∧
 (((Go.Sx.ExI.res i75) = (Go.Sx.ExI.res i75)) ∧
 (((Go.Sx.ExI.b i75) = (Go.Sx.ExI.b i75)) ∧
 ((List.set (Prod.snd i78) ((Int.toNat (((Prod.fst i78) : Nat) : Int)) * (1 : Nat)) x81) = (Prod.snd x83))))))))) ∧
 (((32 : Nat) - (Prod.fst x83)) < ((32 : Nat) - (Prod.fst i78))))))))))))))))))))) ∧
 (((decide ((((Prod.fst i78) : Nat) : Int) < (32 : Int))) = Bool.false) → (((32 : Nat) ≤ (List.length (Prod.snd i78))) ∧
 (∃ (M84 : (List Int)), (((Go.Sx.kL = Go.Sx.kL) ∧
 ((Go.Sx.Abs M84 (Go.Sx.S8.mk (1779033703 : Int) (3144134277 : Int) (1013904242 : Int) (2773480762 : Int) (1359893119 : Int) (2600822924 : Int) (528734635 : Int) (1541459225 : Int)) ys76 (0 : Int) (0 : Int)) ∧
 ((Go.Sx.Bytes (List.take (32 : Nat) (List.drop (0 : Nat) (Prod.snd i78)))) ∧
 (((List.length (List.take (32 : Nat) (List.drop (0 : Nat) (Prod.snd i78)))) = (32 : Nat)) ∧
 (((32 : Nat) ≤ (32 : Nat)) ∧
 (((32 : Nat) ≤ (65536 : Nat)) ∧
 ((List.length M84) < (1099511627776 : Nat)))))))) ∧
 (∀ (x85 : Go.Sx.S8), (∀ (x86 : (List Int)), (∀ (x87 : Int), (∀ (x88 : Int), ((Go.Sx.Abs (M84 ++ (List.take (32 : Nat) (List.drop (0 : Nat) (Prod.snd i78)))) x85 x86 x87 x88) → (∀ (ys89 : (List Int)), ((ys89 = x86) → (∀ (x90 : Int), ((x90 = (Go.IntKind.wrap Go.IntKind.u8 ((((Go.Sx.ExI.j i75) : Nat) : Int) + (1 : Int)))) → (((1 : Nat) ≤ (List.length [x90])) ∧
 (∃ (M91 : (List Int)), (((Go.Sx.kL = Go.Sx.kL) ∧
 ((Go.Sx.Abs M91 (Go.Sx.S8.mk (Go.Sx.S8.a x85) (Go.Sx.S8.b x85) (Go.Sx.S8.c x85) (Go.Sx.S8.d x85) (Go.Sx.S8.e x85) (Go.Sx.S8.f x85) (Go.Sx.S8.g x85) (Go.Sx.S8.h x85)) ys89 x87 x88) ∧
 ((Go.Sx.Bytes (List.take (1 : Nat) (List.drop (0 : Nat) [x90]))) ∧
 (((List.length (List.take (1 : Nat) (List.drop (0 : Nat) [x90]))) = (1 : Nat)) ∧
 (((1 : Nat) ≤ (1 : Nat)) ∧
 (((1 : Nat) ≤ (65536 : Nat)) ∧
 ((List.length M91) < (1099511627776 : Nat)))))))) ∧
 (∀ (x92 : Go.Sx.S8), (∀ (x93 : (List Int)), (∀ (x94 : Int), (∀ (x95 : Int), ((Go.Sx.Abs (M91 ++ (List.take (1 : Nat) (List.drop (0 : Nat) [x90]))) x92 x93 x94 x95) → (∀ (ys96 : (List Int)), ((ys96 = x93) → ((((0 : Nat) + (l2 * (1 : Nat))) ≤ (List.length dst)) ∧
 (∃ (M97 : (List Int)), (((Go.Sx.kL = Go.Sx.kL) ∧
 ((Go.Sx.Abs M97 (Go.Sx.S8.mk (Go.Sx.S8.a x92) (Go.Sx.S8.b x92) (Go.Sx.S8.c x92) (Go.Sx.S8.d x92) (Go.Sx.S8.e x92) (Go.Sx.S8.f x92) (Go.Sx.S8.g x92) (Go.Sx.S8.h x92)) ys96 x94 x95) ∧
 ((Go.Sx.Bytes (List.take (l2 * (1 : Nat)) (List.drop (0 : Nat) dst))) ∧
 (((List.length (List.take (l2 * (1 : Nat)) (List.drop (0 : Nat) dst))) = l2) ∧
 ((l2 ≤ c2) ∧
 ((l2 ≤ (65536 : Nat)) ∧
 ((List.length M97) < (1099511627776 : Nat)))))))) ∧
 (∀ (x98 : Go.Sx.S8), (∀ (x99 : (List Int)), (∀ (x100 : Int), (∀ (x101 : Int), ((Go.Sx.Abs (M97 ++ (List.take (l2 * (1 : Nat)) (List.drop (0 : Nat) dst))) x98 x99 x100 x101) → (∀ (ys102 : (List Int)), ((ys102 = x99) → (((1 : Nat) ≤ (List.length [x6])) ∧
 (∃ (M103 : (List Int)), (((Go.Sx.kL = Go.Sx.kL) ∧
 ((Go.Sx.Abs M103 (Go.Sx.S8.mk (Go.Sx.S8.a x98) (Go.Sx.S8.b x98) (Go.Sx.S8.c x98) (Go.Sx.S8.d x98) (Go.Sx.S8.e x98) (Go.Sx.S8.f x98) (Go.Sx.S8.g x98) (Go.Sx.S8.h x98)) ys102 x100 x101) ∧
 ((Go.Sx.Bytes (List.take (1 : Nat) (List.drop (0 : Nat) [x6]))) ∧
 (((List.length (List.take (1 : Nat) (List.drop (0 : Nat) [x6]))) = (1 : Nat)) ∧
 (((1 : Nat) ≤ (1 : Nat)) ∧
 (((1 : Nat) ≤ (65536 : Nat)) ∧
 ((List.length M103) < (1099511627776 : Nat)))))))) ∧
 (∀ (x104 : Go.Sx.S8), (∀ (x105 : (List Int)), (∀ (x106 : Int), (∀ (x107 : Int), ((Go.Sx.Abs (M103 ++ (List.take (1 : Nat) (List.drop (0 : Nat) [x6]))) x104 x105 x106 x107) → (∀ (ys108 : (List Int)), ((ys108 = x105) → (∃ (M109 : (List Int)), (((Go.Sx.kL = Go.Sx.kL) ∧
 ((Go.Sx.Abs M109 (Go.Sx.S8.mk (Go.Sx.S8.a x104) (Go.Sx.S8.b x104) (Go.Sx.S8.c x104) (Go.Sx.S8.d x104) (Go.Sx.S8.e x104) (Go.Sx.S8.f x104) (Go.Sx.S8.g x104) (Go.Sx.S8.h x104)) ys108 x106 x107) ∧
 ((List.length M109) < (549755813888 : Nat)))) ∧
 (∀ (ys110 : (List Int)), (∀ (cap111 : Nat), ((((List.take (32 : Nat) ys110) = (Go.Sx.sha M109)) ∧
 (((List.length ys110) = cap111) ∧
 ((32 : Nat) ≤ cap111))) → (∀ (ys112 : (List Int)), ((ys112 = ys110) → (∀ (x113 : Int), ((x113 = (Go.IntKind.wrap Go.IntKind.i64 (((((Go.Sx.ExI.j i75) : Nat) : Int) + (1 : Int)) - (1 : Int)))) → (∀ (x114 : Int), ((x114 = (Go.IntKind.wrap Go.IntKind.i64 ((32 : Int) * x113))) → (∀ (x115 : Int), ((x115 = (Go.IntKind.wrap Go.IntKind.i64 ((32 : Int) * ((((Go.Sx.ExI.j i75) : Nat) : Int) + (1 : Int))))) → (∀ (x116 : Int), ((x116 = (((Int.toNat n) : Nat) : Int)) → (∀ (x117 : Int), ((x117 = (if (x116 < x115) then x116 else x115)) → (((((0 : Int) ≤ x117) ∧
 (x117 ≤ (((Int.toNat n) : Nat) : Int))) ∧
 (((0 : Int) ≤ x114) ∧
 (x114 ≤ (((Int.toNat x117) : Nat) : Int)))) ∧
 (((((0 : Nat) + (Min.min (32 : Nat) ((Int.toNat x117) - (Int.toNat x114)))) ≤ (List.length ys112)) ∧
 (((if ((Int.toNat n) = (Int.toNat x114)) then (0 : Nat) else ((Int.toNat x114) * (1 : Nat))) + (Min.min (32 : Nat) ((Int.toNat x117) - (Int.toNat x114)))) ≤ (List.length (Go.Sx.ExI.res i75)))) ∧
 (∀ (x118 : Int), ((x118 = (Go.IntKind.wrap Go.IntKind.i64 (((((Go.Sx.ExI.j i75) : Nat) : Int) + (1 : Int)) + (1 : Int)))) → (∃ (x119 : Go.Sx.ExI), ((((1 : Nat) ≤ (Go.Sx.ExI.j x119)) ∧
 ((((32 : Int) * (((Go.Sx.ExI.j x119) : Nat) : Int)) < (n + (32 : Int))) ∧
 ((Go.Sx.Rw (Go.Sx.ExI.b x119) (Go.Sx.bI (Go.Sx.firstL [] dst n) (Go.Sx.domL dst) (Go.Sx.ExI.j x119)) (32 : Nat) (Go.Sx.ExI.bc x119)) ∧
 (((((List.length (Go.Sx.ExI.res x119)) : Nat) : Int) = n) ∧
 (((List.take ((32 : Nat) * (Go.Sx.ExI.j x119)) (Go.Sx.ExI.res x119)) = (List.take (Int.toNat n) (Go.Sx.outN (Go.Sx.firstL [] dst n) (Go.Sx.domL dst) (Go.Sx.ExI.j x119)))) ∧
 ((List.length (Go.Sx.ExI.x x119)) = (64 : Nat))))))) ∧
 (((((l2 = l2) ∧
 (c2 = c2)) ∧
 ((n = n) ∧
 ((x3 = x3) ∧
 ((x6 = x6) ∧
 ((cap43 = cap43) ∧
 ((((Int.toNat n) = (Int.toNat n)) ∧
 ((Int.toNat n) = (Int.toNat n))) ∧
 ((cap111 = (Go.Sx.ExI.bc x119)) ∧
 (x118 = ((((Go.Sx.ExI.j x119) : Nat) : Int) + (1 : Int)))))))))) ∧
 ((Go.Sx.kL = Go.Sx.kL) ∧
 ((dst = dst) ∧
 ((ys44 = ys44) ∧
 (((((Go.Sx.S8.a x104) = (Go.Sx.S8.a (Go.Sx.ExI.H x119))) ∧
 (((Go.Sx.S8.b x104) = (Go.Sx.S8.b (Go.Sx.ExI.H x119))) ∧
 (((Go.Sx.S8.c x104) = (Go.Sx.S8.c (Go.Sx.ExI.H x119))) ∧
 (((Go.Sx.S8.d x104) = (Go.Sx.S8.d (Go.Sx.ExI.H x119))) ∧
 (((Go.Sx.S8.e x104) = (Go.Sx.S8.e (Go.Sx.ExI.H x119))) ∧
 (((Go.Sx.S8.f x104) = (Go.Sx.S8.f (Go.Sx.ExI.H x119))) ∧
 (((Go.Sx.S8.g x104) = (Go.Sx.S8.g (Go.Sx.ExI.H x119))) ∧
 ((Go.Sx.S8.h x104) = (Go.Sx.S8.h (Go.Sx.ExI.H x119)))))))))) ∧
 ((ys108 = (Go.Sx.ExI.x x119)) ∧
 ((x106 = (Go.Sx.ExI.nx x119)) ∧
 (x107 = (Go.Sx.ExI.len x119))))) ∧
 ((ys112 = (Go.Sx.ExI.b x119)) ∧
 ((Go.Sx.splice (Go.Sx.ExI.res i75) (if ((Int.toNat n) = (Int.toNat x114)) then (0 : Nat) else ((Int.toNat x114) * (1 : Nat))) (List.take (Min.min (32 : Nat) ((Int.toNat x117) - (Int.toNat x114))) (List.drop (0 : Nat) ys112))) = (Go.Sx.ExI.res x119)))))))) ∧
 ((((Int.toNat n) + (32 : Nat)) - ((32 : Nat) * (Go.Sx.ExI.j x119))) < (((Int.toNat n) + (32 : Nat)) - ((32 : Nat) * (Go.Sx.ExI.j i75))))))))))))))))))))))))))))))))))))))))))))))))))))))))))))))))))))))))))))))) ∧
 (((decide (((((Go.Sx.ExI.j i75) : Nat) : Int) + (1 : Int)) ≤ x3)) = Bool.false) → (K (Go.Sx.SV.tup [(Go.Sx.SV.slice (1569 : Nat) (Go.Sx.N.lit (0 : Nat)) (Go.Sx.N.sym (Int.toNat n)) (Go.Sx.N.sym (Int.toNat n))), (Go.Sx.SV.val Go.Value.nilIface)]) (Go.Sx.memL [((0 : Nat), (Go.Sx.Reg.mk Bool.true (Go.Sx.Ct.ints Go.IntKind.u32 Go.Sx.kL))), ((9 : Nat), (Go.Sx.Reg.mk Bool.true (Go.Sx.Ct.ints Go.IntKind.u8 dst))), ((529 : Nat), (Go.Sx.Reg.mk Bool.false (Go.Sx.Ct.segs [(Go.Sx.Sg.cells [(Go.Sx.SV.int Go.IntKind.u32 (Go.Sx.A.sym (Go.Sx.S8.a (Go.Sx.ExI.H i75)))), (Go.Sx.SV.int Go.IntKind.u32 (Go.Sx.A.sym (Go.Sx.S8.b (Go.Sx.ExI.H i75)))), (Go.Sx.SV.int Go.IntKind.u32 (Go.Sx.A.sym (Go.Sx.S8.c (Go.Sx.ExI.H i75)))), (Go.Sx.SV.int Go.IntKind.u32 (Go.Sx.A.sym (Go.Sx.S8.d (Go.Sx.ExI.H i75)))), (Go.Sx.SV.int Go.IntKind.u32 (Go.Sx.A.sym (Go.Sx.S8.e (Go.Sx.ExI.H i75)))), (Go.Sx.SV.int Go.IntKind.u32 (Go.Sx.A.sym (Go.Sx.S8.f (Go.Sx.ExI.H i75)))), (Go.Sx.SV.int Go.IntKind.u32 (Go.Sx.A.sym (Go.Sx.S8.g (Go.Sx.ExI.H i75)))), (Go.Sx.SV.int Go.IntKind.u32 (Go.Sx.A.sym (Go.Sx.S8.h (Go.Sx.ExI.H i75))))]), (Go.Sx.Sg.ints Go.IntKind.u8 (64 : Nat) (Go.Sx.ExI.x i75)), (Go.Sx.Sg.cells [(Go.Sx.SV.int Go.IntKind.i64 (Go.Sx.A.sym (Go.Sx.ExI.nx i75))), (Go.Sx.SV.int Go.IntKind.u64 (Go.Sx.A.sym (Go.Sx.ExI.len i75))), (Go.Sx.SV.bool (Go.Sx.B.lit Bool.false))])]))), ((1177 : Nat), (Go.Sx.Reg.mk Bool.false (Go.Sx.Ct.ints Go.IntKind.u8 ys44))), ((1569 : Nat), (Go.Sx.Reg.mk Bool.false (Go.Sx.Ct.ints Go.IntKind.u8 (Go.Sx.ExI.res i75)))), ((1641 : Nat), (Go.Sx.Reg.mk Bool.false (Go.Sx.Ct.ints Go.IntKind.u8 (Go.Sx.ExI.b i75))))]))))))))))))))))))))))))))))))))))))))))))))))))))))))))))))))))))))))))))))))))))))))))))))))))))))))))))))))))))))))))))))))))))))))))))))))) := by kernel_rfl
end Go.Sx

/- spec.block: its condition. -/
namespace Go.Sx
open Go Go.Proofs
set_option maxRecDepth 100000
theorem vc_sb (H : S8) (xs : List Int) (l c : Nat) (K : SV → Mem → Prop) : (execF cxSB (uSB H xs) Tryd.f18 64 [.agg [i32 H.a, i32 H.b, i32 H.c, i32 H.d, i32 H.e, i32 H.f, i32 H.g, i32 H.h], .slice 1 (.lit 0) (.sym l) (.sym c)] (memL [(1, ⟨true, .ints .u8 xs⟩)]) K) =
  (((∃ (i00 : (Go.Sx.LI.ι (Go.Sx.liSB0 xs))), ((((Prod.fst i00) ≤ (16 : Nat)) ∧
 (((List.length (Prod.snd i00)) = (64 : Nat)) ∧
 (∀ (j1 : Nat), ((j1 < (Prod.fst i00)) → ((List.getD (Prod.snd i00) j1 (0 : Int)) = (Go.Sx.W xs j1)))))) ∧
 (((((Go.Sx.S8.a H) = (Go.Sx.S8.a H)) ∧
 (((Go.Sx.S8.b H) = (Go.Sx.S8.b H)) ∧
 (((Go.Sx.S8.c H) = (Go.Sx.S8.c H)) ∧
 (((Go.Sx.S8.d H) = (Go.Sx.S8.d H)) ∧
 (((Go.Sx.S8.e H) = (Go.Sx.S8.e H)) ∧
 (((Go.Sx.S8.f H) = (Go.Sx.S8.f H)) ∧
 (((Go.Sx.S8.g H) = (Go.Sx.S8.g H)) ∧
 ((Go.Sx.S8.h H) = (Go.Sx.S8.h H))))))))) ∧
 (((l = l) ∧
 (c = c)) ∧
 ((0 : Int) = (((Prod.fst i00) : Nat) : Int)))) ∧
 ((xs = xs) ∧
 ((((Go.Sx.S8.a H) = (Go.Sx.S8.a H)) ∧
 (((Go.Sx.S8.b H) = (Go.Sx.S8.b H)) ∧
 (((Go.Sx.S8.c H) = (Go.Sx.S8.c H)) ∧
 (((Go.Sx.S8.d H) = (Go.Sx.S8.d H)) ∧
 (((Go.Sx.S8.e H) = (Go.Sx.S8.e H)) ∧
 (((Go.Sx.S8.f H) = (Go.Sx.S8.f H)) ∧
 (((Go.Sx.S8.g H) = (Go.Sx.S8.g H)) ∧
 ((Go.Sx.S8.h H) = (Go.Sx.S8.h H))))))))) ∧
 ([(0 : Int), (0 : Int), (0 : Int), (0 : Int), (0 : Int), (0 : Int), (0 : Int), (0 : Int), (0 : Int), (0 : Int), (0 : Int), (0 : Int), (0 : Int), (0 : Int), (0 : Int), (0 : Int), (0 : Int), (0 : Int), (0 : Int), (0 : Int), (0 : Int), (0 : Int), (0 : Int), (0 : Int), (0 : Int), (0 : Int), (0 : Int), (0 : Int), (0 : Int), (0 : Int), (0 : Int), (0 : Int), (0 : Int), (0 : Int), (0 : Int), (0 : Int), (0 : Int), (0 : Int), (0 : Int), (0 : Int), (0 : Int), (0 : Int), (0 : Int), (0 : Int), (0 : Int), (0 : Int), (0 : Int), (0 : Int), (0 : Int), (0 : Int), (0 : Int), (0 : Int), (0 : Int), (0 : Int), (0 : Int), (0 : Int), (0 : Int), (0 : Int), (0 : Int), (0 : Int), (0 : Int), (0 : Int), (0 : Int), (0 : Int)] = (Prod.snd i00))))))) ∧
 (∀ (i2 : (Go.Sx.LI.ι (Go.Sx.liSB0 xs))), ((((Prod.fst i2) ≤ (16 : Nat)) ∧
 (((List.length (Prod.snd i2)) = (64 : Nat)) ∧
 (∀ (j3 : Nat), ((j3 < (Prod.fst i2)) → ((List.getD (Prod.snd i2) j3 (0 : Int)) = (Go.Sx.W xs j3)))))) → ((((decide ((((Prod.fst i2) : Nat) : Int) < (16 : Int))) = Bool.true) → (∀ (x4 : Int), ((x4 = (Go.IntKind.wrap Go.IntKind.i64 ((4 : Int) * (((Prod.fst i2) : Nat) : Int)))) → ((((0 : Int) ≤ x4) ∧
 (x4 < ((l : Nat) : Int))) ∧
 (((((Int.toNat x4) * (1 : Nat)) + (1 : Nat)) ≤ (List.length xs)) ∧
 (∀ (x5 : Int), ((x5 = (List.getD xs ((Int.toNat x4) * (1 : Nat)) (0 : Int))) → (∀ (x6 : Int), ((x6 = (Go.IntKind.wrap Go.IntKind.u32 x5)) → (∀ (x7 : Int), ((x7 = (Go.Sx.shlv Go.IntKind.u32 x6 (24 : Nat))) → (∀ (x8 : Int), ((x8 = (Go.IntKind.wrap Go.IntKind.i64 ((4 : Int) * (((Prod.fst i2) : Nat) : Int)))) → (∀ (x9 : Int), ((x9 = (Go.IntKind.wrap Go.IntKind.i64 (x8 + (1 : Int)))) → ((((0 : Int) ≤ x9) ∧
 (x9 < ((l : Nat) : Int))) ∧
 (((((Int.toNat x9) * (1 : Nat)) + (1 : Nat)) ≤ (List.length xs)) ∧
 (∀ (x10 : Int), ((x10 = (List.getD xs ((Int.toNat x9) * (1 : Nat)) (0 : Int))) → (∀ (x11 : Int), ((x11 = (Go.IntKind.wrap Go.IntKind.u32 x10)) → (∀ (x12 : Int), ((x12 = (Go.Sx.shlv Go.IntKind.u32 x11 (16 : Nat))) → (∀ (x13 : Int), ((x13 = (Go.IntKind.wrap Go.IntKind.u32 (x7 + x12))) → (∀ (x14 : Int), ((x14 = (Go.IntKind.wrap Go.IntKind.i64 ((4 : Int) * (((Prod.fst i2) : Nat) : Int)))) → (∀ (x15 : Int), ((x15 = (Go.IntKind.wrap Go.IntKind.i64 (x14 + (2 : Int)))) → ((((0 : Int) ≤ x15) ∧
 (x15 < ((l : Nat) : Int))) ∧
 (((((Int.toNat x15) * (1 : Nat)) + (1 : Nat)) ≤ (List.length xs)) ∧
 (∀ (x16 : Int), ((x16 = (List.getD xs ((Int.toNat x15) * (1 : Nat)) (0 : Int))) → (∀ (x17 : Int), ((x17 = (Go.IntKind.wrap Go.IntKind.u32 x16)) → (∀ (x18 : Int), ((x18 = (Go.Sx.shlv Go.IntKind.u32 x17 (8 : Nat))) → (∀ (x19 : Int), ((x19 = (Go.IntKind.wrap Go.IntKind.u32 (x13 + x18))) → (∀ (x20 : Int), ((x20 = (Go.IntKind.wrap Go.IntKind.i64 ((4 : Int) * (((Prod.fst i2) : Nat) : Int)))) → (∀ (x21 : Int), ((x21 = (Go.IntKind.wrap Go.IntKind.i64 (x20 + (3 : Int)))) → ((((0 : Int) ≤ x21) ∧
 (x21 < ((l : Nat) : Int))) ∧
 (((((Int.toNat x21) * (1 : Nat)) + (1 : Nat)) ≤ (List.length xs)) ∧
 (∀ (x22 : Int), ((x22 = (List.getD xs ((Int.toNat x21) * (1 : Nat)) (0 : Int))) → (∀ (x23 : Int), ((x23 = (Go.IntKind.wrap Go.IntKind.u32 x22)) → (∀ (x24 : Int), ((x24 = (Go.IntKind.wrap Go.IntKind.u32 (x19 + x23))) → ((((0 : Int) ≤ (((Prod.fst i2) : Nat) : Int)) ∧
 ((((Prod.fst i2) : Nat) : Int) < (64 : Int))) ∧
 ((((Int.toNat (((Prod.fst i2) : Nat) : Int)) * (1 : Nat)) < (List.length (Prod.snd i2))) ∧
 (∀ (x25 : Int), ((x25 = (Go.IntKind.wrap Go.IntKind.i64 ((((Prod.fst i2) : Nat) : Int) + (1 : Int)))) → (∃ (x26 : (Go.Sx.LI.ι (Go.Sx.liSB0 xs))), ((((Prod.fst x26) ≤ (16 : Nat)) ∧
 (((List.length (Prod.snd x26)) = (64 : Nat)) ∧
 (∀ (j27 : Nat), ((j27 < (Prod.fst x26)) → ((List.getD (Prod.snd x26) j27 (0 : Int)) = (Go.Sx.W xs j27)))))) ∧
 ((((((Go.Sx.S8.a H) = (Go.Sx.S8.a H)) ∧
 (((Go.Sx.S8.b H) = (Go.Sx.S8.b H)) ∧
 (((Go.Sx.S8.c H) = (Go.Sx.S8.c H)) ∧
 (((Go.Sx.S8.d H) = (Go.Sx.S8.d H)) ∧
 (((Go.Sx.S8.e H) = (Go.Sx.S8.e H)) ∧
 (((Go.Sx.S8.f H) = (Go.Sx.S8.f H)) ∧
 (((Go.Sx.S8.g H) = (Go.Sx.S8.g H)) ∧
 ((Go.Sx.S8.h H) = (Go.Sx.S8.h H))))))))) ∧
 (((l = l) ∧
 (c = c)) ∧
 (x25 = (((Prod.fst x26) : Nat) : Int)))) ∧
 ((xs = xs) ∧
 ((((Go.Sx.S8.a H) = (Go.Sx.S8.a H)) ∧
 (((Go.Sx.S8.b H) = (Go.Sx.S8.b H)) ∧
 (((Go.Sx.S8.c H) = (Go.Sx.S8.c H)) ∧
 (((Go.Sx.S8.d H) = (Go.Sx.S8.d H)) ∧
 (((Go.Sx.S8.e H) = (Go.Sx.S8.e H)) ∧
 (((Go.Sx.S8.f H) = (Go.Sx.S8.f H)) ∧
 (((Go.Sx.S8.g H) = (Go.Sx.S8.g H)) ∧
 ((Go.Sx.S8.h H) = (Go.Sx.S8.h H))))))))) ∧
 ((List.set (Prod.snd i2) ((Int.toNat (((Prod.fst i2) : Nat) : Int)) * (1 : Nat)) x24) = (Prod.snd x26))))) ∧
 (((16 : Nat) - (Prod.fst x26)) < ((16 : Nat) - (Prod.fst i2))))))))))))))))))))))))))))))))))))))))))))))))))))))))))))) ∧
 (((decide ((((Prod.fst i2) : Nat) : Int) < (16 : Int))) = Bool.false) → ((∃ (i028 : (Go.Sx.LI.ι (Go.Sx.liSB2 xs))), ((((16 : Nat) ≤ (Prod.fst i028)) ∧
 (((Prod.fst i028) ≤ (64 : Nat)) ∧
 (((List.length (Prod.snd i028)) = (64 : Nat)) ∧
 (∀ (j29 : Nat), ((j29 < (Prod.fst i028)) → ((List.getD (Prod.snd i028) j29 (0 : Int)) = (Go.Sx.W xs j29))))))) ∧
 (((((Go.Sx.S8.a H) = (Go.Sx.S8.a H)) ∧
 (((Go.Sx.S8.b H) = (Go.Sx.S8.b H)) ∧
 (((Go.Sx.S8.c H) = (Go.Sx.S8.c H)) ∧
 (((Go.Sx.S8.d H) = (Go.Sx.S8.d H)) ∧
 (((Go.Sx.S8.e H) = (Go.Sx.S8.e H)) ∧
 (((Go.Sx.S8.f H) = (Go.Sx.S8.f H)) ∧
 (((Go.Sx.S8.g H) = (Go.Sx.S8.g H)) ∧
 ((Go.Sx.S8.h H) = (Go.Sx.S8.h H))))))))) ∧
 (((l = l) ∧
 (c = c)) ∧
 ((16 : Int) = (((Prod.fst i028) : Nat) : Int)))) ∧
 ((xs = xs) ∧
 ((((Go.Sx.S8.a H) = (Go.Sx.S8.a H)) ∧
 (((Go.Sx.S8.b H) = (Go.Sx.S8.b H)) ∧
 (((Go.Sx.S8.c H) = (Go.Sx.S8.c H)) ∧
 (((Go.Sx.S8.d H) = (Go.Sx.S8.d H)) ∧
 (((Go.Sx.S8.e H) = (Go.Sx.S8.e H)) ∧
 (((Go.Sx.S8.f H) = (Go.Sx.S8.f H)) ∧
 (((Go.Sx.S8.g H) = (Go.Sx.S8.g H)) ∧
 ((Go.Sx.S8.h H) = (Go.Sx.S8.h H))))))))) ∧
 ((Prod.snd i2) = (Prod.snd i028))))))) ∧
 (∀ (i30 : (Go.Sx.LI.ι (Go.Sx.liSB2 xs))), ((((16 : Nat) ≤ (Prod.fst i30)) ∧
 (((Prod.fst i30) ≤ (64 : Nat)) ∧
 (((List.length (Prod.snd i30)) = (64 : Nat)) ∧
 (∀ (j31 : Nat), ((j31 < (Prod.fst i30)) → ((List.getD (Prod.snd i30) j31 (0 : Int)) = (Go.Sx.W xs j31))))))) → ((((decide ((((Prod.fst i30) : Nat) : Int) < (64 : Int))) = Bool.true) → (∀ (x32 : Int), ((x32 = (Go.IntKind.wrap Go.IntKind.i64 ((((Prod.fst i30) : Nat) : Int) - (15 : Int)))) → ((((0 : Int) ≤ x32) ∧
 (x32 < (64 : Int))) ∧
 (((((Int.toNat x32) * (1 : Nat)) + (1 : Nat)) ≤ (List.length (Prod.snd i30))) ∧
 (∀ (x33 : Int), ((x33 = (List.getD (Prod.snd i30) ((Int.toNat x32) * (1 : Nat)) (0 : Int))) → (∀ (x34 : Int), ((x34 = (Go.IntKind.wrap Go.IntKind.i64 ((((Prod.fst i30) : Nat) : Int) - (2 : Int)))) → ((((0 : Int) ≤ x34) ∧
 (x34 < (64 : Int))) ∧
 (((((Int.toNat x34) * (1 : Nat)) + (1 : Nat)) ≤ (List.length (Prod.snd i30))) ∧
 (∀ (x35 : Int), ((x35 = (List.getD (Prod.snd i30) ((Int.toNat x34) * (1 : Nat)) (0 : Int))) → (∀ (x36 : Int), ((x36 = (Go.IntKind.wrap Go.IntKind.i64 ((((Prod.fst i30) : Nat) : Int) - (16 : Int)))) → ((((0 : Int) ≤ x36) ∧
 (x36 < (64 : Int))) ∧
 (((((Int.toNat x36) * (1 : Nat)) + (1 : Nat)) ≤ (List.length (Prod.snd i30))) ∧
 (∀ (x37 : Int), ((x37 = (List.getD (Prod.snd i30) ((Int.toNat x36) * (1 : Nat)) (0 : Int))) → (∀ (x38 : Int), ((x38 = (Go.IntKind.wrap Go.IntKind.i64 ((((Prod.fst i30) : Nat) : Int) - (7 : Int)))) → ((((0 : Int) ≤ x38) ∧
 (x38 < (64 : Int))) ∧
 (((((Int.toNat x38) * (1 : Nat)) + (1 : Nat)) ≤ (List.length (Prod.snd i30))) ∧
 (∀ (x39 : Int), ((x39 = (List.getD (Prod.snd i30) ((Int.toNat x38) * (1 : Nat)) (0 : Int))) → (∀ (x40 : Int), ((x40 = (Go.IntKind.wrap Go.IntKind.u32 (x37 + x39))) → ((((0 : Int) ≤ (7 : Int)) ∧
 ((7 : Int) ≤ (32 : Int))) ∧
 (∀ (x41 : Int), ((x41 = (Go.Sx.rot x33 (7 : Nat))) → ((((0 : Int) ≤ (18 : Int)) ∧
 ((18 : Int) ≤ (32 : Int))) ∧
 (∀ (x42 : Int), ((x42 = (Go.Sx.rot x33 (18 : Nat))) → (∀ (x43 : Int), ((x43 = (Go.Sx.bxor Go.IntKind.u32 x41 x42)) → (∀ (x44 : Int), ((x44 = (Go.Sx.shrv Go.IntKind.u32 x33 (3 : Nat))) → (∀ (x45 : Int), ((x45 = (Go.Sx.bxor Go.IntKind.u32 x43 x44)) → (∀ (x46 : Int), ((x46 = (Go.IntKind.wrap Go.IntKind.u32 (x40 + x45))) → ((((0 : Int) ≤ (17 : Int)) ∧
 ((17 : Int) ≤ (32 : Int))) ∧
 (∀ (x47 : Int), ((x47 = (Go.Sx.rot x35 (17 : Nat))) → ((((0 : Int) ≤ (19 : Int)) ∧
 ((19 : Int) ≤ (32 : Int))) ∧
 (∀ (x48 : Int), ((x48 = (Go.Sx.rot x35 (19 : Nat))) → (∀ (x49 : Int), ((x49 = (Go.Sx.bxor Go.IntKind.u32 x47 x48)) → (∀ (x50 : Int), ((x50 = (Go.Sx.shrv Go.IntKind.u32 x35 (10 : Nat))) → (∀ (x51 : Int), ((x51 = (Go.Sx.bxor Go.IntKind.u32 x49 x50)) → (∀ (x52 : Int), ((x52 = (Go.IntKind.wrap Go.IntKind.u32 (x46 + x51))) → ((((0 : Int) ≤ (((Prod.fst i30) : Nat) : Int)) ∧
 ((((Prod.fst i30) : Nat) : Int) < (64 : Int))) ∧
 ((((Int.toNat (((Prod.fst i30) : Nat) : Int)) * (1 : Nat)) < (List.length (Prod.snd i30))) ∧
 (∀ (x53 : Int), ((x53 = (Go.IntKind.wrap Go.IntKind.i64 ((((Prod.fst i30) : Nat) : Int) + (1 : Int)))) → (∃ (x54 : (Go.Sx.LI.ι (Go.Sx.liSB2 xs))), ((((16 : Nat) ≤ (Prod.fst x54)) ∧
 (((Prod.fst x54) ≤ (64 : Nat)) ∧
 (((List.length (Prod.snd x54)) = (64 : Nat)) ∧
 (∀ (j55 : Nat), ((j55 < (Prod.fst x54)) → ((List.getD (Prod.snd x54) j55 (0 : Int)) = (Go.Sx.W xs j55))))))) ∧
 ((((((Go.Sx.S8.a H) = (Go.Sx.S8.a H)) ∧
 (((Go.Sx.S8.b H) = (Go.Sx.S8.b H)) ∧
 (((Go.Sx.S8.c H) = (Go.Sx.S8.c H)) ∧
 (((Go.Sx.S8.d H) = (Go.Sx.S8.d H)) ∧
 (((Go.Sx.S8.e H) = (Go.Sx.S8.e H)) ∧
 (((Go.Sx.S8.f H) = (Go.Sx.S8.f H)) ∧
 (((Go.Sx.S8.g H) = (Go.Sx.S8.g H)) ∧
 ((Go.Sx.S8.h H) = (Go.Sx.S8.h H))))))))) ∧
 (((l = l) ∧
 (c = c)) ∧
 (x53 = (((Prod.fst x54) : Nat) : Int)))) ∧
 ((xs = xs) ∧
 ((((Go.Sx.S8.a H) = (Go.Sx.S8.a H)) ∧
 (((Go.Sx.S8.b H) = (Go.Sx.S8.b H)) ∧
 (((Go.Sx.S8.c H) = (Go.Sx.S8.c H)) ∧
 (((Go.Sx.S8.d H) = (Go.Sx.S8.d H)) ∧
 (((Go.Sx.S8.e H) = (Go.Sx.S8.e H)) ∧
 (((Go.Sx.S8.f H) = (Go.Sx.S8.f H)) ∧
 (((Go.Sx.S8.g H) = (Go.Sx.S8.g H)) ∧
 ((Go.Sx.S8.h H) = (Go.Sx.S8.h H))))))))) ∧
 ((List.set (Prod.snd i30) ((Int.toNat (((Prod.fst i30) : Nat) : Int)) * (1 : Nat)) x52) = (Prod.snd x54))))) ∧
 (((64 : Nat) - (Prod.fst x54)) < ((64 : Nat) - (Prod.fst i30))))))))))))))))))))))))))))))))))))))))))))))))))))))))))))))))) ∧
 (((decide ((((Prod.fst i30) : Nat) : Int) < (64 : Int))) = Bool.false) → (∀ (x56 : Int), ((x56 = (Go.Sx.S8.a H)) → (∀ (x57 : Int), ((x57 = (Go.Sx.S8.b H)) → (∀ (x58 : Int), ((x58 = (Go.Sx.S8.c H)) → (∀ (x59 : Int), ((x59 = (Go.Sx.S8.d H)) → (∀ (x60 : Int), ((x60 = (Go.Sx.S8.e H)) → (∀ (x61 : Int), ((x61 = (Go.Sx.S8.f H)) → (∀ (x62 : Int), ((x62 = (Go.Sx.S8.g H)) → (∀ (x63 : Int), ((x63 = (Go.Sx.S8.h H)) → ((∃ (i064 : Nat), ((i064 ≤ (64 : Nat)) ∧
 (((((Go.Sx.S8.a H) = (Go.Sx.S8.a H)) ∧
 (((Go.Sx.S8.b H) = (Go.Sx.S8.b H)) ∧
 (((Go.Sx.S8.c H) = (Go.Sx.S8.c H)) ∧
 (((Go.Sx.S8.d H) = (Go.Sx.S8.d H)) ∧
 (((Go.Sx.S8.e H) = (Go.Sx.S8.e H)) ∧
 (((Go.Sx.S8.f H) = (Go.Sx.S8.f H)) ∧
 (((Go.Sx.S8.g H) = (Go.Sx.S8.g H)) ∧
 ((Go.Sx.S8.h H) = (Go.Sx.S8.h H))))))))) ∧
 (((l = l) ∧
 (c = c)) ∧
 ((0 : Int) = ((i064 : Nat) : Int)))) ∧
 ((xs = xs) ∧
 ((((Go.Sx.S8.a H) = (Go.Sx.S8.a H)) ∧
 (((Go.Sx.S8.b H) = (Go.Sx.S8.b H)) ∧
 (((Go.Sx.S8.c H) = (Go.Sx.S8.c H)) ∧
 (((Go.Sx.S8.d H) = (Go.Sx.S8.d H)) ∧
 (((Go.Sx.S8.e H) = (Go.Sx.S8.e H)) ∧
 (((Go.Sx.S8.f H) = (Go.Sx.S8.f H)) ∧
 (((Go.Sx.S8.g H) = (Go.Sx.S8.g H)) ∧
 ((Go.Sx.S8.h H) = (Go.Sx.S8.h H))))))))) ∧
 (((Prod.snd i30) = (Prod.snd i30)) ∧
 (([(1116352408 : Int), (1899447441 : Int), (3049323471 : Int), (3921009573 : Int), (961987163 : Int), (1508970993 : Int), (2453635748 : Int), (2870763221 : Int), (3624381080 : Int), (310598401 : Int), (607225278 : Int), (1426881987 : Int), (1925078388 : Int), (2162078206 : Int), (2614888103 : Int), (3248222580 : Int), (3835390401 : Int), (4022224774 : Int), (264347078 : Int), (604807628 : Int), (770255983 : Int), (1249150122 : Int), (1555081692 : Int), (1996064986 : Int), (2554220882 : Int), (2821834349 : Int), (2952996808 : Int), (3210313671 : Int), (3336571891 : Int), (3584528711 : Int), (113926993 : Int), (338241895 : Int), (666307205 : Int), (773529912 : Int), (1294757372 : Int), (1396182291 : Int), (1695183700 : Int), (1986661051 : Int), (2177026350 : Int), (2456956037 : Int), (2730485921 : Int), (2820302411 : Int), (3259730800 : Int), (3345764771 : Int), (3516065817 : Int), (3600352804 : Int), (4094571909 : Int), (275423344 : Int), (430227734 : Int), (506948616 : Int), (659060556 : Int), (883997877 : Int), (958139571 : Int), (1322822218 : Int), (1537002063 : Int), (1747873779 : Int), (1955562222 : Int), (2024104815 : Int), (2227730452 : Int), (2361852424 : Int), (2428436474 : Int), (2756734187 : Int), (3204031479 : Int), (3329325298 : Int)] = Go.Sx.kL) ∧
 ((x56 = (Go.Sx.S8.a (Go.Sx.rounds H xs i064))) ∧
 ((x57 = (Go.Sx.S8.b (Go.Sx.rounds H xs i064))) ∧
 ((x58 = (Go.Sx.S8.c (Go.Sx.rounds H xs i064))) ∧
 ((x59 = (Go.Sx.S8.d (Go.Sx.rounds H xs i064))) ∧
 ((x60 = (Go.Sx.S8.e (Go.Sx.rounds H xs i064))) ∧
 ((x61 = (Go.Sx.S8.f (Go.Sx.rounds H xs i064))) ∧
 ((x62 = (Go.Sx.S8.g (Go.Sx.rounds H xs i064))) ∧
 (x63 = (Go.Sx.S8.h (Go.Sx.rounds H xs i064))))))))))))))))) ∧
 (∀ (i65 : Nat), ((i65 ≤ (64 : Nat)) → ((((decide (((i65 : Nat) : Int) < (64 : Int))) = Bool.true) → ((((0 : Int) ≤ (6 : Int)) ∧
 ((6 : Int) ≤ (32 : Int))) ∧
 (∀ (x66 : Int), ((x66 = (Go.Sx.rot (Go.Sx.S8.e (Go.Sx.rounds H xs i65)) (6 : Nat))) → ((((0 : Int) ≤ (11 : Int)) ∧
 ((11 : Int) ≤ (32 : Int))) ∧
 (∀ (x67 : Int), ((x67 = (Go.Sx.rot (Go.Sx.S8.e (Go.Sx.rounds H xs i65)) (11 : Nat))) → (∀ (x68 : Int), ((x68 = (Go.Sx.bxor Go.IntKind.u32 x66 x67)) → ((((0 : Int) ≤ (25 : Int)) ∧
 ((25 : Int) ≤ (32 : Int))) ∧
 (∀ (x69 : Int), ((x69 = (Go.Sx.rot (Go.Sx.S8.e (Go.Sx.rounds H xs i65)) (25 : Nat))) → (∀ (x70 : Int), ((x70 = (Go.Sx.bxor Go.IntKind.u32 x68 x69)) → (∀ (x71 : Int), ((x71 = (Go.IntKind.wrap Go.IntKind.u32 ((Go.Sx.S8.h (Go.Sx.rounds H xs i65)) + x70))) → (∀ (x72 : Int), ((x72 = (Go.Sx.band Go.IntKind.u32 (Go.Sx.S8.e (Go.Sx.rounds H xs i65)) (Go.Sx.S8.f (Go.Sx.rounds H xs i65)))) → (∀ (x73 : Int), ((x73 = (Go.Sx.bxor Go.IntKind.u32 (4294967295 : Int) (Go.Sx.S8.e (Go.Sx.rounds H xs i65)))) → (∀ (x74 : Int), ((x74 = (Go.Sx.band Go.IntKind.u32 x73 (Go.Sx.S8.g (Go.Sx.rounds H xs i65)))) → (∀ (x75 : Int), ((x75 = (Go.Sx.bxor Go.IntKind.u32 x72 x74)) → (∀ (x76 : Int), ((x76 = (Go.IntKind.wrap Go.IntKind.u32 (x71 + x75))) → ((((0 : Int) ≤ ((i65 : Nat) : Int)) ∧
 (((i65 : Nat) : Int) < (64 : Int))) ∧
 (((((Int.toNat ((i65 : Nat) : Int)) * (1 : Nat)) + (1 : Nat)) ≤ (64 : Nat)) ∧
 (∀ (x77 : Int), ((x77 = (List.getD Go.Sx.kL ((Int.toNat ((i65 : Nat) : Int)) * (1 : Nat)) (0 : Int))) → (∀ (x78 : Int), ((x78 = (Go.IntKind.wrap Go.IntKind.u32 (x76 + x77))) → ((((0 : Int) ≤ ((i65 : Nat) : Int)) ∧
 (((i65 : Nat) : Int) < (64 : Int))) ∧
 (((((Int.toNat ((i65 : Nat) : Int)) * (1 : Nat)) + (1 : Nat)) ≤ (List.length (Prod.snd i30))) ∧
 (∀ (x79 : Int), ((x79 = (List.getD (Prod.snd i30) ((Int.toNat ((i65 : Nat) : Int)) * (1 : Nat)) (0 : Int))) → (∀ (x80 : Int), ((x80 = (Go.IntKind.wrap Go.IntKind.u32 (x78 + x79))) → ((((0 : Int) ≤ (2 : Int)) ∧
 ((2 : Int) ≤ (32 : Int))) ∧
 (∀ (x81 : Int), ((x81 = (Go.Sx.rot (Go.Sx.S8.a (Go.Sx.rounds H xs i65)) (2 : Nat))) → ((((0 : Int) ≤ (13 : Int)) ∧
 ((13 : Int) ≤ (32 : Int))) ∧
 (∀ (x82 : Int), ((x82 = (Go.Sx.rot (Go.Sx.S8.a (Go.Sx.rounds H xs i65)) (13 : Nat))) → (∀ (x83 : Int), ((x83 = (Go.Sx.bxor Go.IntKind.u32 x81 x82)) → ((((0 : Int) ≤ (22 : Int)) ∧
 ((22 : Int) ≤ (32 : Int))) ∧
 (∀ (x84 : Int), ((x84 = (Go.Sx.rot (Go.Sx.S8.a (Go.Sx.rounds H xs i65)) (22 : Nat))) → (∀ (x85 : Int), ((x85 = (Go.Sx.bxor Go.IntKind.u32 x83 x84)) → (∀ (x86 : Int), ((x86 = (Go.Sx.band Go.IntKind.u32 (Go.Sx.S8.a (Go.Sx.rounds H xs i65)) (Go.Sx.S8.b (Go.Sx.rounds H xs i65)))) → (∀ (x87 : Int), ((x87 = (Go.Sx.band Go.IntKind.u32 (Go.Sx.S8.a (Go.Sx.rounds H xs i65)) (Go.Sx.S8.c (Go.Sx.rounds H xs i65)))) → (∀ (x88 : Int), ((x88 = (Go.Sx.bxor Go.IntKind.u32 x86 x87)) → (∀ (x89 : Int), ((x89 = (Go.Sx.band Go.IntKind.u32 (Go.Sx.S8.b (Go.Sx.rounds H xs i65)) (Go.Sx.S8.c (Go.Sx.rounds H xs i65)))) → (∀ (x90 : Int), ((x90 = (Go.Sx.bxor Go.IntKind.u32 x88 x89)) → (∀ (x91 : Int), ((x91 = (Go.IntKind.wrap Go.IntKind.u32 (x85 + x90))) → (∀ (x92 : Int), ((x92 = (Go.IntKind.wrap Go.IntKind.u32 (x80 + x91))) → (∀ (x93 : Int), ((x93 = (Go.IntKind.wrap Go.IntKind.u32 ((Go.Sx.S8.d (Go.Sx.rounds H xs i65)) + x80))) → (∀ (x94 : Int), ((x94 = (Go.IntKind.wrap Go.IntKind.i64 (((i65 : Nat) : Int) + (1 : Int)))) → (∃ (x95 : Nat), ((x95 ≤ (64 : Nat)) ∧
 ((((((Go.Sx.S8.a H) = (Go.Sx.S8.a H)) ∧
 (((Go.Sx.S8.b H) = (Go.Sx.S8.b H)) ∧
 (((Go.Sx.S8.c H) = (Go.Sx.S8.c H)) ∧
 (((Go.Sx.S8.d H) = (Go.Sx.S8.d H)) ∧
 (((Go.Sx.S8.e H) = (Go.Sx.S8.e H)) ∧
 (((Go.Sx.S8.f H) = (Go.Sx.S8.f H)) ∧
 (((Go.Sx.S8.g H) = (Go.Sx.S8.g H)) ∧
 ((Go.Sx.S8.h H) = (Go.Sx.S8.h H))))))))) ∧
 (((l = l) ∧
 (c = c)) ∧
 (x94 = ((x95 : Nat) : Int)))) ∧
 ((xs = xs) ∧
 ((((Go.Sx.S8.a H) = (Go.Sx.S8.a H)) ∧
 (((Go.Sx.S8.b H) = (Go.Sx.S8.b H)) ∧
 (((Go.Sx.S8.c H) = (Go.Sx.S8.c H)) ∧
 (((Go.Sx.S8.d H) = (Go.Sx.S8.d H)) ∧
 (((Go.Sx.S8.e H) = (Go.Sx.S8.e H)) ∧
 (((Go.Sx.S8.f H) = (Go.Sx.S8.f H)) ∧
 (((Go.Sx.S8.g H) = (Go.Sx.S8.g H)) ∧
 ((Go.Sx.S8.h H) = (Go.Sx.S8.h H))))))))) ∧
 (((Prod.snd i30) = (Prod.snd i30)) ∧
 ((Go.Sx.kL = Go.Sx.kL) ∧
 ((x92 = (Go.Sx.S8.a (Go.Sx.rounds H xs x95))) ∧
 (((Go.Sx.S8.a (Go.Sx.rounds H xs i65)) = (Go.Sx.S8.b (Go.Sx.rounds H xs x95))) ∧
 (((Go.Sx.S8.b (Go.Sx.rounds H xs i65)) = (Go.Sx.S8.c (Go.Sx.rounds H xs x95))) ∧
 (((Go.Sx.S8.c (Go.Sx.rounds H xs i65)) = (Go.Sx.S8.d (Go.Sx.rounds H xs x95))) ∧
 ((x93 = (Go.Sx.S8.e (Go.Sx.rounds H xs x95))) ∧
 (((Go.Sx.S8.e (Go.Sx.rounds H xs i65)) = (Go.Sx.S8.f (Go.Sx.rounds H xs x95))) ∧
 (((Go.Sx.S8.f (Go.Sx.rounds H xs i65)) = (Go.Sx.S8.g (Go.Sx.rounds H xs x95))) ∧
 ((Go.Sx.S8.g (Go.Sx.rounds H xs i65)) = (Go.Sx.S8.h (Go.Sx.rounds H xs x95))))))))))))))) ∧
 (((64 : Nat) - x95) < ((64 : Nat) - i65)))))))))))))))))))))))))))))))))))))))))))))))))))))))))))))))))))))))))) ∧
 (((decide (((i65 : Nat) : Int) < (64 : Int))) = Bool.false) → (∀ (x96 : Int), ((x96 = (Go.IntKind.wrap Go.IntKind.u32 ((Go.Sx.S8.a H) + (Go.Sx.S8.a (Go.Sx.rounds H xs i65))))) → (∀ (x97 : Int), ((x97 = (Go.IntKind.wrap Go.IntKind.u32 ((Go.Sx.S8.b H) + (Go.Sx.S8.b (Go.Sx.rounds H xs i65))))) → (∀ (x98 : Int), ((x98 = (Go.IntKind.wrap Go.IntKind.u32 ((Go.Sx.S8.c H) + (Go.Sx.S8.c (Go.Sx.rounds H xs i65))))) → (∀ (x99 : Int), ((x99 = (Go.IntKind.wrap Go.IntKind.u32 ((Go.Sx.S8.d H) + (Go.Sx.S8.d (Go.Sx.rounds H xs i65))))) → (∀ (x100 : Int), ((x100 = (Go.IntKind.wrap Go.IntKind.u32 ((Go.Sx.S8.e H) + (Go.Sx.S8.e (Go.Sx.rounds H xs i65))))) → (∀ (x101 : Int), ((x101 = (Go.IntKind.wrap Go.IntKind.u32 ((Go.Sx.S8.f H) + (Go.Sx.S8.f (Go.Sx.rounds H xs i65))))) → (∀ (x102 : Int), ((x102 = (Go.IntKind.wrap Go.IntKind.u32 ((Go.Sx.S8.g H) + (Go.Sx.S8.g (Go.Sx.rounds H xs i65))))) → (∀ (x103 : Int), ((x103 = (Go.IntKind.wrap Go.IntKind.u32 ((Go.Sx.S8.h H) + (Go.Sx.S8.h (Go.Sx.rounds H xs i65))))) → (∀ (x104 : Int), ((x104 = x96) → (∀ (x105 : Int), ((x105 = x97) → (∀ (x106 : Int), ((x106 = x98) → (∀ (x107 : Int), ((x107 = x99) → (∀ (x108 : Int), ((x108 = x100) → (∀ (x109 : Int), ((x109 = x101) → (∀ (x110 : Int), ((x110 = x102) → (∀ (x111 : Int), ((x111 = x103) → (K (Go.Sx.SV.agg [(Go.Sx.SV.int Go.IntKind.u32 (Go.Sx.A.sym x104)), (Go.Sx.SV.int Go.IntKind.u32 (Go.Sx.A.sym x105)), (Go.Sx.SV.int Go.IntKind.u32 (Go.Sx.A.sym x106)), (Go.Sx.SV.int Go.IntKind.u32 (Go.Sx.A.sym x107)), (Go.Sx.SV.int Go.IntKind.u32 (Go.Sx.A.sym x108)), (Go.Sx.SV.int Go.IntKind.u32 (Go.Sx.A.sym x109)), (Go.Sx.SV.int Go.IntKind.u32 (Go.Sx.A.sym x110)), (Go.Sx.SV.int Go.IntKind.u32 (Go.Sx.A.sym x111))]) (Go.Sx.memL [((1 : Nat), (Go.Sx.Reg.mk Bool.true (Go.Sx.Ct.ints Go.IntKind.u8 xs))), ((513 : Nat), (Go.Sx.Reg.mk Bool.false (Go.Sx.Ct.cells [(Go.Sx.SV.int Go.IntKind.u32 (Go.Sx.A.sym x96)), (Go.Sx.SV.int Go.IntKind.u32 (Go.Sx.A.sym x97)), (Go.Sx.SV.int Go.IntKind.u32 (Go.Sx.A.sym x98)), (Go.Sx.SV.int Go.IntKind.u32 (Go.Sx.A.sym x99)), (Go.Sx.SV.int Go.IntKind.u32 (Go.Sx.A.sym x100)), (Go.Sx.SV.int Go.IntKind.u32 (Go.Sx.A.sym x101)), (Go.Sx.SV.int Go.IntKind.u32 (Go.Sx.A.sym x102)), (Go.Sx.SV.int Go.IntKind.u32 (Go.Sx.A.sym x103))]))), ((521 : Nat), (Go.Sx.Reg.mk Bool.false (Go.Sx.Ct.cells [(Go.Sx.SV.int Go.IntKind.u32 (Go.Sx.A.sym x104)), (Go.Sx.SV.int Go.IntKind.u32 (Go.Sx.A.sym x105)), (Go.Sx.SV.int Go.IntKind.u32 (Go.Sx.A.sym x106)), (Go.Sx.SV.int Go.IntKind.u32 (Go.Sx.A.sym x107)), (Go.Sx.SV.int Go.IntKind.u32 (Go.Sx.A.sym x108)), (Go.Sx.SV.int Go.IntKind.u32 (Go.Sx.A.sym x109)), (Go.Sx.SV.int Go.IntKind.u32 (Go.Sx.A.sym x110)), (Go.Sx.SV.int Go.IntKind.u32 (Go.Sx.A.sym x111))]))), ((537 : Nat), (Go.Sx.Reg.mk Bool.false (Go.Sx.Ct.ints Go.IntKind.u32 (Prod.snd i30)))), ((617 : Nat), (Go.Sx.Reg.mk Bool.false (Go.Sx.Ct.ints Go.IntKind.u32 Go.Sx.kL))), ((625 : Nat), (Go.Sx.Reg.mk Bool.false (Go.Sx.Ct.cells [(Go.Sx.SV.int Go.IntKind.u32 (Go.Sx.A.sym (Go.Sx.S8.a (Go.Sx.rounds H xs i65)))), (Go.Sx.SV.int Go.IntKind.u32 (Go.Sx.A.sym (Go.Sx.S8.b (Go.Sx.rounds H xs i65)))), (Go.Sx.SV.int Go.IntKind.u32 (Go.Sx.A.sym (Go.Sx.S8.c (Go.Sx.rounds H xs i65)))), (Go.Sx.SV.int Go.IntKind.u32 (Go.Sx.A.sym (Go.Sx.S8.d (Go.Sx.rounds H xs i65)))), (Go.Sx.SV.int Go.IntKind.u32 (Go.Sx.A.sym (Go.Sx.S8.e (Go.Sx.rounds H xs i65)))), (Go.Sx.SV.int Go.IntKind.u32 (Go.Sx.A.sym (Go.Sx.S8.f (Go.Sx.rounds H xs i65)))), (Go.Sx.SV.int Go.IntKind.u32 (Go.Sx.A.sym (Go.Sx.S8.g (Go.Sx.rounds H xs i65)))), (Go.Sx.SV.int Go.IntKind.u32 (Go.Sx.A.sym (Go.Sx.S8.h (Go.Sx.rounds H xs i65))))])))])))))))))))))))))))))))))))))))))))))))))))))))))))))))))))))))))) := by kernel_rfl
end Go.Sx

/- spec.block: what it computes. -/
namespace Go.Sx
open Go Go.Proofs
set_option maxRecDepth 100000
set_option maxHeartbeats 4000000
theorem sb_walk (H : S8) (xs : List Int) (l c : Nat) (K : SV → Mem → Prop) (hl : 64 ≤ l) (hx : 64 ≤ xs.length) (hb : Bytes xs) (hup : KUp K)
    (hK : ∀ H', H' = comp H xs → K (.agg [i32 H'.a, i32 H'.b, i32 H'.c, i32 H'.d, i32 H'.e, i32 H'.f, i32 H'.g, i32 H'.h]) (memL [(1, ⟨true, .ints .u8 xs⟩)])) :
    execF cxSB (uSB H xs) Tryd.f18 64 [.agg [i32 H.a, i32 H.b, i32 H.c, i32 H.d, i32 H.e, i32 H.f, i32 H.g, i32 H.h], .slice 1 (.lit 0) (.sym l) (.sym c)] (memL [(1, ⟨true, .ints .u8 xs⟩)]) K := by
  rw [vc_sb]
  have tail : ∀ (w : List Int) (i : Nat) v, w.length = 64 → (∀ j, j < i → w.getD j 0 = W xs j) → v = W xs i → i < 64 → (∀ j, j < i + 1 → (w.set i v).getD j 0 = W xs j) := by
    intro w i v hw h hv hi j hj
    by_cases hji : j = i
    · rw [hji, getD_set_self (by omega), hv]
    · rw [getD_set_ne (by omega)]; exact h j (by omega)
  have hby := bytes_at hb
  refine ⟨⟨(0, List.replicate 64 0), ⟨by simp, by simp, by simp⟩, ?_⟩, ?_⟩
  · repeat' apply And.intro
    all_goals first | trivial | rfl | simp
  rintro ⟨i, w⟩ ⟨h1, h2, h3⟩
  simp only at h1 h2 h3
  simp only [Int.toNat_natCast, Nat.mul_one]
  refine ⟨fun hi => ?_, fun hi => ?_⟩
  · simp only [decide_eq_true_eq] at hi
    rintro x4 hx4
    rw [wrap64 (by omega) (by omega)] at hx4
    refine ⟨by omega, by omega, ?_⟩
    rintro x5 rfl x6 rfl x7 rfl x8 rfl x9 hx9
    rw [wrap64 (x := 4 * (i : Int)) (by omega) (by omega), wrap64 (by omega) (by omega)] at hx9
    refine ⟨by omega, by omega, ?_⟩
    rintro x10 rfl x11 rfl x12 rfl x13 rfl x14 rfl x15 hx15
    rw [wrap64 (x := 4 * (i : Int)) (by omega) (by omega), wrap64 (by omega) (by omega)] at hx15
    refine ⟨by omega, by omega, ?_⟩
    rintro x16 rfl x17 rfl x18 rfl x19 rfl x20 rfl x21 hx21
    rw [wrap64 (x := 4 * (i : Int)) (by omega) (by omega), wrap64 (by omega) (by omega)] at hx21
    refine ⟨by omega, by omega, ?_⟩
    rintro x22 rfl x23 rfl x24 hx24
    have hv : x24 = W xs i := by
      have e0 : xs.getD x4.toNat 0 = at0 xs (4 * i) := by unfold at0; congr 1; omega
      have e1 : xs.getD x9.toNat 0 = at0 xs (4 * i + 1) := by unfold at0; congr 1; omega
      have e2 : xs.getD x15.toNat 0 = at0 xs (4 * i + 2) := by unfold at0; congr 1; omega
      have e3 : xs.getD x21.toNat 0 = at0 xs (4 * i + 3) := by unfold at0; congr 1; omega
      rw [hx24, e0, e1, e2, e3]
      have w := fun n => w32_byte (hby n)
      unfold w32 at w
      rw [w, w, w, w, W_lo _ (by omega)]
      exact be_add (hby _) (hby _) (hby _) (hby _)
    clear hx24
    refine ⟨by omega, by omega, ?_⟩
    rintro x25 hx25
    rw [wrap64 (by omega) (by omega)] at hx25
    refine ⟨(i + 1, w.set i x24), ⟨by simp only; omega, by simp only [List.length_set]; exact h2, tail w i x24 h2 h3 hv (by omega)⟩, ?_, by simp only; omega⟩
    repeat' apply And.intro
    all_goals first | trivial | rfl | omega | (simp only; omega)
  simp only [decide_eq_false_iff_not] at hi
  obtain rfl : i = 16 := by omega
  refine ⟨⟨(16, w), ⟨by simp, by simp, h2, h3⟩, ?_⟩, ?_⟩
  · repeat' apply And.intro
    all_goals first | trivial | rfl | simp
  clear hi h1 h2 h3 w
  rintro ⟨i, w⟩ ⟨h0, h1, h2, h3⟩
  simp only at h0 h1 h2 h3
  simp only [Int.toNat_natCast]
  refine ⟨fun hi => ?_, fun hi => ?_⟩
  · simp only [decide_eq_true_eq] at hi
    rintro x32 hx32
    rw [wrap64 (by omega) (by omega)] at hx32
    refine ⟨by omega, by omega, ?_⟩
    rintro x33 rfl x34 hx34
    rw [wrap64 (by omega) (by omega)] at hx34
    refine ⟨by omega, by omega, ?_⟩
    rintro x35 rfl x36 hx36
    rw [wrap64 (by omega) (by omega)] at hx36
    refine ⟨by omega, by omega, ?_⟩
    rintro x37 rfl x38 hx38
    rw [wrap64 (by omega) (by omega)] at hx38
    refine ⟨by omega, by omega, ?_⟩
    rintro x39 rfl x40 rfl
    refine ⟨by omega, ?_⟩
    rintro x41 rfl
    refine ⟨by omega, ?_⟩
    rintro x42 rfl x43 rfl x44 rfl x45 rfl x46 rfl
    refine ⟨by omega, ?_⟩
    rintro x47 rfl
    refine ⟨by omega, ?_⟩
    rintro x48 rfl x49 rfl x50 rfl x51 rfl x52 hx52
    have hv : x52 = W xs i := by
      have e1 : w.getD x32.toNat 0 = W xs (i - 15) := by rw [← h3 (i - 15) (by omega)]; congr 1; omega
      have e2 : w.getD x34.toNat 0 = W xs (i - 2) := by rw [← h3 (i - 2) (by omega)]; congr 1; omega
      have e3 : w.getD x36.toNat 0 = W xs (i - 16) := by rw [← h3 (i - 16) (by omega)]; congr 1; omega
      have e4 : w.getD x38.toNat 0 = W xs (i - 7) := by rw [← h3 (i - 7) (by omega)]; congr 1; omega
      rw [hx52, e1, e2, e3, e4, W_hi (t := i) _ (by omega)]
      exact w32_sum2 _ _ _ _
    clear hx52
    refine ⟨by omega, by omega, ?_⟩
    rintro x53 hx53
    rw [wrap64 (by omega) (by omega)] at hx53
    refine ⟨(i + 1, w.set i x52), ⟨by simp only; omega, by simp only; omega, by simp only [List.length_set]; exact h2, tail w i x52 h2 h3 hv (by omega)⟩, ?_, by simp only; omega⟩
    repeat' apply And.intro
    all_goals first | trivial | rfl | omega | (simp only; omega)
  simp only [decide_eq_false_iff_not] at hi
  obtain rfl : i = 64 := by omega
  clear hi h0 h1
  rintro x56 rfl x57 rfl x58 rfl x59 rfl x60 rfl x61 rfl x62 rfl x63 rfl
  refine ⟨⟨(0 : Nat), ⟨by omega, ?_⟩⟩, ?_⟩
  · repeat' apply And.intro
    all_goals first | trivial | rfl
  intro (i : Nat) (hi64 : i ≤ 64)
  refine ⟨fun hi => ?_, fun hi => ?_⟩
  · simp only [decide_eq_true_eq] at hi
    refine ⟨by omega, ?_⟩
    rintro x66 rfl
    refine ⟨by omega, ?_⟩
    rintro x67 rfl x68 rfl
    refine ⟨by omega, ?_⟩
    rintro x69 rfl x70 rfl x71 rfl x72 rfl x73 rfl x74 rfl x75 rfl x76 rfl
    refine ⟨by omega, by omega, ?_⟩
    rintro x77 rfl x78 rfl
    refine ⟨by omega, by omega, ?_⟩
    rintro x79 rfl x80 hx80
    rw [h3 i (by omega)] at hx80
    have hx80' : x80 = tOf (rounds H xs i) (at0 kL i) (W xs i) := hx80
    clear hx80
    refine ⟨by omega, ?_⟩
    rintro x81 rfl
    refine ⟨by omega, ?_⟩
    rintro x82 rfl x83 rfl
    refine ⟨by omega, ?_⟩
    rintro x84 rfl x85 rfl x86 rfl x87 rfl x88 rfl x89 rfl x90 rfl x91 rfl x92 hx92 x93 hx93 x94 hx94
    rw [wrap64 (by omega) (by omega)] at hx94
    subst hx80'
    refine ⟨(i + 1 : Nat), by omega, ?_, by omega⟩
    repeat' apply And.intro
    all_goals first | trivial | rfl | exact hx92 | exact hx93 | omega
  simp only [decide_eq_false_iff_not] at hi
  obtain rfl : i = 64 := by omega
  rintro x96 rfl x97 rfl x98 rfl x99 rfl x100 rfl x101 rfl x102 rfl x103 rfl x104 rfl x105 rfl x106 rfl x107 rfl x108 rfl x109 rfl x110 rfl x111 rfl
  exact hup.le (memL_more (k := [_, _, _, _, _]) (l := [_]) [1, 513, 521, 537, 617, 625] rfl (by decide)) (hK _ rfl)
end Go.Sx

/- The contract of spec.block. -/
namespace Go.Sx
open Go Go.Proofs
set_option maxRecDepth 100000
def gSB : G0 := fun args l K =>
  match args, l with
  | [.agg [.int .u32 (.sym h0), .int .u32 (.sym h1), .int .u32 (.sym h2), .int .u32 (.sym h3), .int .u32 (.sym h4), .int .u32 (.sym h5), .int .u32 (.sym h6), .int .u32 (.sym h7)], .slice 1 (.lit 0) (.sym n) (.sym _)], [(1, ⟨true, .ints .u8 xs⟩)] =>
    (64 ≤ n ∧ 64 ≤ xs.length ∧ Bytes xs) ∧ ∀ H, H = comp ⟨h0, h1, h2, h3, h4, h5, h6, h7⟩ xs → K (.agg [i32 H.a, i32 H.b, i32 H.c, i32 H.d, i32 H.e, i32 H.f, i32 H.g, i32 H.h]) (memL [(1, ⟨true, .ints .u8 xs⟩)])
  | _, _ => False
theorem sb_good : Good gSB := by
  constructor
  · intro args l K K' hk h
    unfold gSB at h ⊢
    split at h
    · exact ⟨h.1, fun H hH => hk _ _ (h.2 H hH)⟩
    · exact h.elim
  · intro args l K h
    unfold gSB at h
    split at h
    · exact ⟨_, _, h.2 _ rfl⟩
    · exact h.elim
theorem sb_ok (args : List SV) (l : List (Nat × Reg)) (K : SV → Mem → Prop) (hup : KUp K) (h : gSB args l K) : ∃ U, execF cxSB U Tryd.f18 64 args (memL l) K := by
  unfold gSB at h
  split at h
  · rename_i h0 h1 h2 h3 h4 h5 h6 h7 n c xs
    exact ⟨uSB ⟨h0, h1, h2, h3, h4, h5, h6, h7⟩ xs, sb_walk ⟨h0, h1, h2, h3, h4, h5, h6, h7⟩ xs n c K h.1.1 h.1.2.1 h.1.2.2 hup h.2⟩
  · exact h.elim
def cSB : Ef Tryd.prog := mkE mixed 18 Tryd.func18 (by decide) (by kernel_rfl) [] [.num, .sl 1 true] gSB sb_good sb_ok
end Go.Sx

/- The loops of spec.Sum. -/
namespace Go.Sx
open Go Go.Proofs
def cxSS : Cx Tryd.prog := { rds := [], efs := [cSB], eqs := [] }
def liSS0 (xs : List Int) (l : Nat) : LI where
  ι := Nat × List Int × Nat
  keep := [0]
  keepR := [1]
  F := fun i => ⟨[(3, .slice 569 (.lit 0) (.sym (l + 1 + i.1)) (.sym i.2.2))], [(569, ⟨false, .ints .u8 i.2.1⟩)]⟩
  I := fun _ i => Rw i.2.1 (xs ++ 128 :: List.replicate i.1 0) (l + 1 + i.1) i.2.2 ∧ i.1 + 1 ≤ padN l
  μ := fun i => padN l - i.1
  k := 1
def liSS4 (m : List Int) : LI where
  ι := Nat
  keep := [0, 3, 6]
  keepR := [1, 1513]
  F := fun i => ⟨[(7, i64n (64 * i))], [(1577, ⟨false, s8C (hB S0 m i)⟩)]⟩
  I := fun _ i => 64 * i ≤ m.length
  μ := fun i => m.length - 64 * i
def uSS (xs : List Int) (l : Nat) : Nat → Lp := fun n =>
  match n with
  | 0 => .inv (liSS0 xs l)
  | 4 => .inv (liSS4 (xs ++ padding xs.length))
  | _ => .un 9
end Go.Sx

/- spec.Sum: its condition. -/
namespace Go.Sx
open Go Go.Proofs
set_option maxRecDepth 100000
theorem vc_ss (xs : List Int) (l c : Nat) (K : SV → Mem → Prop) : (execF cxSS (uSS xs l) Tryd.f9 64 [.slice 1 (.lit 0) (.sym l) (.sym c)] (memL [(1, ⟨true, .ints .u8 xs⟩)]) K) =
  ((((((0 : Nat) ≤ (0 : Nat)) ∧
 ((0 : Nat) ≤ (0 : Nat))) ∧
 ((Nat.le ((0 : Nat) + (l * (1 : Nat))) (List.length xs)) ∧
 (((((0 : Nat) + l) * (1 : Nat)) ≤ (549755813888 : Nat)) ∧
 (((0 : Nat) + l) ≤ (549755813888 : Nat))))) ∧
 (∀ (cap0 : Nat), (∀ (ys1 : (List Int)), (((((0 : Nat) + l) ≤ cap0) ∧
 (((List.length ys1) = (cap0 * (1 : Nat))) ∧
 ((List.take (((0 : Nat) + l) * (1 : Nat)) ys1) = ((List.take (0 : Nat) (List.drop (0 : Nat) [])) ++ (List.take (l * (1 : Nat)) (List.drop (0 : Nat) xs)))))) → ((((l ≤ cap0) ∧
 (((0 : Nat) + (cap0 * (1 : Nat))) ≤ (List.length ys1))) ∧
 ((Nat.le (1 : Nat) (1 : Nat)) ∧
 ((((l + (1 : Nat)) * (1 : Nat)) ≤ (549755813888 : Nat)) ∧
 ((l + (1 : Nat)) ≤ (549755813888 : Nat))))) ∧
 (∀ (cap2 : Nat), (∀ (ys3 : (List Int)), ((((l + (1 : Nat)) ≤ cap2) ∧
 (((List.length ys3) = (cap2 * (1 : Nat))) ∧
 ((List.take ((l + (1 : Nat)) * (1 : Nat)) ys3) = ((List.take (l * (1 : Nat)) (List.drop (0 : Nat) ys1)) ++ (List.take (1 : Nat) (List.drop (0 : Nat) [(128 : Int)])))))) → ((∃ (i04 : (Prod Nat (Prod (List Int) Nat))), (((Go.Sx.Rw (Prod.fst (Prod.snd i04)) (xs ++ (List.cons (128 : Int) (List.replicate (Prod.fst i04) (0 : Int)))) ((l + (1 : Nat)) + (Prod.fst i04)) (Prod.snd (Prod.snd i04))) ∧
 (((Prod.fst i04) + (1 : Nat)) ≤ (Go.Sx.padN l))) ∧
 ((((l = l) ∧
 (c = c)) ∧
 (((l + (1 : Nat)) = ((l + (1 : Nat)) + (Prod.fst i04))) ∧
 (cap2 = (Prod.snd (Prod.snd i04))))) ∧
 ((xs = xs) ∧
 (ys3 = (Prod.fst (Prod.snd i04))))))) ∧
 (∀ (i5 : (Prod Nat (Prod (List Int) Nat))), (((Go.Sx.Rw (Prod.fst (Prod.snd i5)) (xs ++ (List.cons (128 : Int) (List.replicate (Prod.fst i5) (0 : Int)))) ((l + (1 : Nat)) + (Prod.fst i5)) (Prod.snd (Prod.snd i5))) ∧
 (((Prod.fst i5) + (1 : Nat)) ≤ (Go.Sx.padN l))) → (∀ (x6 : Int), ((x6 = ((((l + (1 : Nat)) + (Prod.fst i5)) : Nat) : Int)) → (∀ (x7 : Int), ((x7 = (Int.tmod x6 (64 : Int))) → ((((x7 != (56 : Int)) = Bool.true) → ((((((l + (1 : Nat)) + (Prod.fst i5)) ≤ (Prod.snd (Prod.snd i5))) ∧
 (((0 : Nat) + ((Prod.snd (Prod.snd i5)) * (1 : Nat))) ≤ (List.length (Prod.fst (Prod.snd i5))))) ∧
 ((Nat.le (1 : Nat) (1 : Nat)) ∧
 ((((((l + (1 : Nat)) + (Prod.fst i5)) + (1 : Nat)) * (1 : Nat)) ≤ (549755813888 : Nat)) ∧
 ((((l + (1 : Nat)) + (Prod.fst i5)) + (1 : Nat)) ≤ (549755813888 : Nat))))) ∧
 (∀ (cap8 : Nat), (∀ (ys9 : (List Int)), ((((((l + (1 : Nat)) + (Prod.fst i5)) + (1 : Nat)) ≤ cap8) ∧
 (((List.length ys9) = (cap8 * (1 : Nat))) ∧
 ((List.take ((((l + (1 : Nat)) + (Prod.fst i5)) + (1 : Nat)) * (1 : Nat)) ys9) = ((List.take (((l + (1 : Nat)) + (Prod.fst i5)) * (1 : Nat)) (List.drop (0 : Nat) (Prod.fst (Prod.snd i5)))) ++ (List.take (1 : Nat) (List.drop (0 : Nat) [(0 : Int)])))))) → (∃ (x10 : (Prod Nat (Prod (List Int) Nat))), (((Go.Sx.Rw (Prod.fst (Prod.snd x10)) (xs ++ (List.cons (128 : Int) (List.replicate (Prod.fst x10) (0 : Int)))) ((l + (1 : Nat)) + (Prod.fst x10)) (Prod.snd (Prod.snd x10))) ∧
 (((Prod.fst x10) + (1 : Nat)) ≤ (Go.Sx.padN l))) ∧
 (((((l = l) ∧
 (c = c)) ∧
 (((((l + (1 : Nat)) + (Prod.fst i5)) + (1 : Nat)) = ((l + (1 : Nat)) + (Prod.fst x10))) ∧
 (cap8 = (Prod.snd (Prod.snd x10))))) ∧
 ((xs = xs) ∧
 (ys9 = (Prod.fst (Prod.snd x10))))) ∧
 (((Go.Sx.padN l) - (Prod.fst x10)) < ((Go.Sx.padN l) - (Prod.fst i5))))))))))) ∧
 (((x7 != (56 : Int)) = Bool.false) → (∀ (x11 : Int), ((x11 = ((l : Nat) : Int)) → (∀ (x12 : Int), ((x12 = (Go.IntKind.wrap Go.IntKind.u64 x11)) → (∀ (x13 : Int), ((x13 = (Go.IntKind.wrap Go.IntKind.u64 (x12 * (8 : Int)))) → (∀ (x14 : Int), ((x14 = (Go.Sx.shrv Go.IntKind.u64 x13 (56 : Nat))) → (∀ (x15 : Int), ((x15 = (Go.IntKind.wrap Go.IntKind.u8 x14)) → ((((((l + (1 : Nat)) + (Prod.fst i5)) ≤ (Prod.snd (Prod.snd i5))) ∧
 (((0 : Nat) + ((Prod.snd (Prod.snd i5)) * (1 : Nat))) ≤ (List.length (Prod.fst (Prod.snd i5))))) ∧
 ((Nat.le (1 : Nat) (List.length [x15])) ∧
 ((((((l + (1 : Nat)) + (Prod.fst i5)) + (1 : Nat)) * (1 : Nat)) ≤ (549755813888 : Nat)) ∧
 ((((l + (1 : Nat)) + (Prod.fst i5)) + (1 : Nat)) ≤ (549755813888 : Nat))))) ∧
 (∀ (cap16 : Nat), (∀ (ys17 : (List Int)), ((((((l + (1 : Nat)) + (Prod.fst i5)) + (1 : Nat)) ≤ cap16) ∧
 (((List.length ys17) = (cap16 * (1 : Nat))) ∧
 ((List.take ((((l + (1 : Nat)) + (Prod.fst i5)) + (1 : Nat)) * (1 : Nat)) ys17) = ((List.take (((l + (1 : Nat)) + (Prod.fst i5)) * (1 : Nat)) (List.drop (0 : Nat) (Prod.fst (Prod.snd i5)))) ++ (List.take (1 : Nat) (List.drop (0 : Nat) [x15])))))) → (∀ (x18 : Int), ((x18 = (Go.Sx.shrv Go.IntKind.u64 x13 (48 : Nat))) → (∀ (x19 : Int), ((x19 = (Go.IntKind.wrap Go.IntKind.u8 x18)) → (((((((l + (1 : Nat)) + (Prod.fst i5)) + (1 : Nat)) ≤ cap16) ∧
 (((0 : Nat) + (cap16 * (1 : Nat))) ≤ (List.length ys17))) ∧
 ((Nat.le (1 : Nat) (List.length [x19])) ∧
 (((((((l + (1 : Nat)) + (Prod.fst i5)) + (1 : Nat)) + (1 : Nat)) * (1 : Nat)) ≤ (549755813888 : Nat)) ∧
 (((((l + (1 : Nat)) + (Prod.fst i5)) + (1 : Nat)) + (1 : Nat)) ≤ (549755813888 : Nat))))) ∧
 (∀ (cap20 : Nat), (∀ (ys21 : (List Int)), (((((((l + (1 : Nat)) + (Prod.fst i5)) + (1 : Nat)) + (1 : Nat)) ≤ cap20) ∧
 (((List.length ys21) = (cap20 * (1 : Nat))) ∧
 ((List.take (((((l + (1 : Nat)) + (Prod.fst i5)) + (1 : Nat)) + (1 : Nat)) * (1 : Nat)) ys21) = ((List.take ((((l + (1 : Nat)) + (Prod.fst i5)) + (1 : Nat)) * (1 : Nat)) (List.drop (0 : Nat) ys17)) ++ (List.take (1 : Nat) (List.drop (0 : Nat) [x19])))))) → (∀ (x22 : Int), ((x22 = (Go.Sx.shrv Go.IntKind.u64 x13 (40 : Nat))) → (∀ (x23 : Int), ((x23 = (Go.IntKind.wrap Go.IntKind.u8 x22)) → ((((((((l + (1 : Nat)) + (Prod.fst i5)) + (1 : Nat)) + (1 : Nat)) ≤ cap20) ∧
 (((0 : Nat) + (cap20 * (1 : Nat))) ≤ (List.length ys21))) ∧
 ((Nat.le (1 : Nat) (List.length [x23])) ∧
 ((((((((l + (1 : Nat)) + (Prod.fst i5)) + (1 : Nat)) + (1 : Nat)) + (1 : Nat)) * (1 : Nat)) ≤ (549755813888 : Nat)) ∧
 ((((((l + (1 : Nat)) + (Prod.fst i5)) + (1 : Nat)) + (1 : Nat)) + (1 : Nat)) ≤ (549755813888 : Nat))))) ∧
 (∀ (cap24 : Nat), (∀ (ys25 : (List Int)), ((((((((l + (1 : Nat)) + (Prod.fst i5)) + (1 : Nat)) + (1 : Nat)) + (1 : Nat)) ≤ cap24) ∧
 (((List.length ys25) = (cap24 * (1 : Nat))) ∧
 ((List.take ((((((l + (1 : Nat)) + (Prod.fst i5)) + (1 : Nat)) + (1 : Nat)) + (1 : Nat)) * (1 : Nat)) ys25) = ((List.take (((((l + (1 : Nat)) + (Prod.fst i5)) + (1 : Nat)) + (1 : Nat)) * (1 : Nat)) (List.drop (0 : Nat) ys21)) ++ (List.take (1 : Nat) (List.drop (0 : Nat) [x23])))))) → (∀ (x26 : Int), ((x26 = (Go.Sx.shrv Go.IntKind.u64 x13 (32 : Nat))) → (∀ (x27 : Int), ((x27 = (Go.IntKind.wrap Go.IntKind.u8 x26)) → (((((((((l + (1 : Nat)) + (Prod.fst i5)) + (1 : Nat)) + (1 : Nat)) + (1 : Nat)) ≤ cap24) ∧
 (((0 : Nat) + (cap24 * (1 : Nat))) ≤ (List.length ys25))) ∧
 ((Nat.le (1 : Nat) (List.length [x27])) ∧
 (((((((((l + (1 : Nat)) + (Prod.fst i5)) + (1 : Nat)) + (1 : Nat)) + (1 : Nat)) + (1 : Nat)) * (1 : Nat)) ≤ (549755813888 : Nat)) ∧
 (((((((l + (1 : Nat)) + (Prod.fst i5)) + (1 : Nat)) + (1 : Nat)) + (1 : Nat)) + (1 : Nat)) ≤ (549755813888 : Nat))))) ∧
 (∀ (cap28 : Nat), (∀ (ys29 : (List Int)), (((((((((l + (1 : Nat)) + (Prod.fst i5)) + (1 : Nat)) + (1 : Nat)) + (1 : Nat)) + (1 : Nat)) ≤ cap28) ∧
 (((List.length ys29) = (cap28 * (1 : Nat))) ∧
 ((List.take (((((((l + (1 : Nat)) + (Prod.fst i5)) + (1 : Nat)) + (1 : Nat)) + (1 : Nat)) + (1 : Nat)) * (1 : Nat)) ys29) = ((List.take ((((((l + (1 : Nat)) + (Prod.fst i5)) + (1 : Nat)) + (1 : Nat)) + (1 : Nat)) * (1 : Nat)) (List.drop (0 : Nat) ys25)) ++ (List.take (1 : Nat) (List.drop (0 : Nat) [x27])))))) → (∀ (x30 : Int), ((x30 = (Go.Sx.shrv Go.IntKind.u64 x13 (24 : Nat))) → (∀ (x31 : Int), ((x31 = (Go.IntKind.wrap Go.IntKind.u8 x30)) → ((((((((((l + (1 : Nat)) + (Prod.fst i5)) + (1 : Nat)) + (1 : Nat)) + (1 : Nat)) + (1 : Nat)) ≤ cap28) ∧
 (((0 : Nat) + (cap28 * (1 : Nat))) ≤ (List.length ys29))) ∧
 ((Nat.le (1 : Nat) (List.length [x31])) ∧
 ((((((((((l + (1 : Nat)) + (Prod.fst i5)) + (1 : Nat)) + (1 : Nat)) + (1 : Nat)) + (1 : Nat)) + (1 : Nat)) * (1 : Nat)) ≤ (549755813888 : Nat)) ∧
 ((((((((l + (1 : Nat)) + (Prod.fst i5)) + (1 : Nat)) + (1 : Nat)) + (1 : Nat)) + (1 : Nat)) + (1 : Nat)) ≤ (549755813888 : Nat))))) ∧
 (∀ (cap32 : Nat), (∀ (ys33 : (List Int)), ((((((((((l + (1 : Nat)) + (Prod.fst i5)) + (1 : Nat)) + (1 : Nat)) + (1 : Nat)) + (1 : Nat)) + (1 : Nat)) ≤ cap32) ∧
 (((List.length ys33) = (cap32 * (1 : Nat))) ∧
 ((List.take ((((((((l + (1 : Nat)) + (Prod.fst i5)) + (1 : Nat)) + (1 : Nat)) + (1 : Nat)) + (1 : Nat)) + (1 : Nat)) * (1 : Nat)) ys33) = ((List.take (((((((l + (1 : Nat)) + (Prod.fst i5)) + (1 : Nat)) + (1 : Nat)) + (1 : Nat)) + (1 : Nat)) * (1 : Nat)) (List.drop (0 : Nat) ys29)) ++ (List.take (1 : Nat) (List.drop (0 : Nat) [x31])))))) → (∀ (x34 : Int), ((x34 = (Go.Sx.shrv Go.IntKind.u64 x13 (16 : Nat))) → (∀ (x35 : Int), ((x35 = (Go.IntKind.wrap Go.IntKind.u8 x34)) → (((((((((((l + (1 : Nat)) + (Prod.fst i5)) + (1 : Nat)) + (1 : Nat)) + (1 : Nat)) + (1 : Nat)) + (1 : Nat)) ≤ cap32) ∧
 (((0 : Nat) + (cap32 * (1 : Nat))) ≤ (List.length ys33))) ∧
 ((Nat.le (1 : Nat) (List.length [x35])) ∧
 (((((((((((l + (1 : Nat)) + (Prod.fst i5)) + (1 : Nat)) + (1 : Nat)) + (1 : Nat)) + (1 : Nat)) + (1 : Nat)) + (1 : Nat)) * (1 : Nat)) ≤ (549755813888 : Nat)) ∧
 (((((((((l + (1 : Nat)) + (Prod.fst i5)) + (1 : Nat)) + (1 : Nat)) + (1 : Nat)) + (1 : Nat)) + (1 : Nat)) + (1 : Nat)) ≤ (549755813888 : Nat))))) ∧
 (∀ (cap36 : Nat), (∀ (ys37 : (List Int)), (((((((((((l + (1 : Nat)) + (Prod.fst i5)) + (1 : Nat)) + (1 : Nat)) + (1 : Nat)) + (1 : Nat)) + (1 : Nat)) + (1 : Nat)) ≤ cap36) ∧
 (((List.length ys37) = (cap36 * (1 : Nat))) ∧
 ((List.take (((((((((l + (1 : Nat)) + (Prod.fst i5)) + (1 : Nat)) + (1 : Nat)) + (1 : Nat)) + (1 : Nat)) + (1 : Nat)) + (1 : Nat)) * (1 : Nat)) ys37) = ((List.take ((((((((l + (1 : Nat)) + (Prod.fst i5)) + (1 : Nat)) + (1 : Nat)) + (1 : Nat)) + (1 : Nat)) + (1 : Nat)) * (1 : Nat)) (List.drop (0 : Nat) ys33)) ++ (List.take (1 : Nat) (List.drop (0 : Nat) [x35])))))) → (∀ (x38 : Int), ((x38 = (Go.Sx.shrv Go.IntKind.u64 x13 (8 : Nat))) → (∀ (x39 : Int), ((x39 = (Go.IntKind.wrap Go.IntKind.u8 x38)) → ((((((((((((l + (1 : Nat)) + (Prod.fst i5)) + (1 : Nat)) + (1 : Nat)) + (1 : Nat)) + (1 : Nat)) + (1 : Nat)) + (1 : Nat)) ≤ cap36) ∧
 (((0 : Nat) + (cap36 * (1 : Nat))) ≤ (List.length ys37))) ∧
 ((Nat.le (1 : Nat) (List.length [x39])) ∧
 ((((((((((((l + (1 : Nat)) + (Prod.fst i5)) + (1 : Nat)) + (1 : Nat)) + (1 : Nat)) + (1 : Nat)) + (1 : Nat)) + (1 : Nat)) + (1 : Nat)) * (1 : Nat)) ≤ (549755813888 : Nat)) ∧
 ((((((((((l + (1 : Nat)) + (Prod.fst i5)) + (1 : Nat)) + (1 : Nat)) + (1 : Nat)) + (1 : Nat)) + (1 : Nat)) + (1 : Nat)) + (1 : Nat)) ≤ (549755813888 : Nat))))) ∧
 (∀ (cap40 : Nat), (∀ (ys41 : (List Int)), ((((((((((((l + (1 : Nat)) + (Prod.fst i5)) + (1 : Nat)) + (1 : Nat)) + (1 : Nat)) + (1 : Nat)) + (1 : Nat)) + (1 : Nat)) + (1 : Nat)) ≤ cap40) ∧
 (((List.length ys41) = (cap40 * (1 : Nat))) ∧
 ((List.take ((((((((((l + (1 : Nat)) + (Prod.fst i5)) + (1 : Nat)) + (1 : Nat)) + (1 : Nat)) + (1 : Nat)) + (1 : Nat)) + (1 : Nat)) + (1 : Nat)) * (1 : Nat)) ys41) = ((List.take (((((((((l + (1 : Nat)) + (Prod.fst i5)) + (1 : Nat)) + (1 : Nat)) + (1 : Nat)) + (1 : Nat)) + (1 : Nat)) + (1 : Nat)) * (1 : Nat)) (List.drop (0 : Nat) ys37)) ++ (List.take (1 : Nat) (List.drop (0 : Nat) [x39])))))) → (∀ (x42 : Int), ((x42 = (Go.Sx.shrv Go.IntKind.u64 x13 (0 : Nat))) → (∀ (x43 : Int), ((x43 = (Go.IntKind.wrap Go.IntKind.u8 x42)) → (((((((((((((l + (1 : Nat)) + (Prod.fst i5)) + (1 : Nat)) + (1 : Nat)) + (1 : Nat)) + (1 : Nat)) + (1 : Nat)) + (1 : Nat)) + (1 : Nat)) ≤ cap40) ∧
 (((0 : Nat) + (cap40 * (1 : Nat))) ≤ (List.length ys41))) ∧
 ((Nat.le (1 : Nat) (List.length [x43])) ∧
 (((((((((((((l + (1 : Nat)) + (Prod.fst i5)) + (1 : Nat)) + (1 : Nat)) + (1 : Nat)) + (1 : Nat)) + (1 : Nat)) + (1 : Nat)) + (1 : Nat)) + (1 : Nat)) * (1 : Nat)) ≤ (549755813888 : Nat)) ∧
 (((((((((((l + (1 : Nat)) + (Prod.fst i5)) + (1 : Nat)) + (1 : Nat)) + (1 : Nat)) + (1 : Nat)) + (1 : Nat)) + (1 : Nat)) + (1 : Nat)) + (1 : Nat)) ≤ (549755813888 : Nat))))) ∧
 (∀ (cap44 : Nat), (∀ (ys45 : (List Int)), (((((((((((((l + (1 : Nat)) + (Prod.fst i5)) + (1 : Nat)) + (1 : Nat)) + (1 : Nat)) + (1 : Nat)) + (1 : Nat)) + (1 : Nat)) + (1 : Nat)) + (1 : Nat)) ≤ cap44) ∧
 (((List.length ys45) = (cap44 * (1 : Nat))) ∧
 ((List.take (((((((((((l + (1 : Nat)) + (Prod.fst i5)) + (1 : Nat)) + (1 : Nat)) + (1 : Nat)) + (1 : Nat)) + (1 : Nat)) + (1 : Nat)) + (1 : Nat)) + (1 : Nat)) * (1 : Nat)) ys45) = ((List.take ((((((((((l + (1 : Nat)) + (Prod.fst i5)) + (1 : Nat)) + (1 : Nat)) + (1 : Nat)) + (1 : Nat)) + (1 : Nat)) + (1 : Nat)) + (1 : Nat)) * (1 : Nat)) (List.drop (0 : Nat) ys41)) ++ (List.take (1 : Nat) (List.drop (0 : Nat) [x43])))))) → ((∃ (i046 : Nat), ((((64 : Nat) * i046) ≤ (List.length (xs ++ (Go.Sx.padding (List.length xs))))) ∧
 ((((l = l) ∧
 (c = c)) ∧
 (((((((((((((l + (1 : Nat)) + (Prod.fst i5)) + (1 : Nat)) + (1 : Nat)) + (1 : Nat)) + (1 : Nat)) + (1 : Nat)) + (1 : Nat)) + (1 : Nat)) + (1 : Nat)) = ((((((((((l + (1 : Nat)) + (Prod.fst i5)) + (1 : Nat)) + (1 : Nat)) + (1 : Nat)) + (1 : Nat)) + (1 : Nat)) + (1 : Nat)) + (1 : Nat)) + (1 : Nat))) ∧
 (cap44 = cap44)) ∧
 ((0 : Int) = ((((64 : Nat) * i046) : Nat) : Int)))) ∧
 ((xs = xs) ∧
 ((ys45 = ys45) ∧
 (((1779033703 : Int) = (Go.Sx.S8.a (Go.Sx.hB Go.Sx.S0 (xs ++ (Go.Sx.padding (List.length xs))) i046))) ∧
 (((3144134277 : Int) = (Go.Sx.S8.b (Go.Sx.hB Go.Sx.S0 (xs ++ (Go.Sx.padding (List.length xs))) i046))) ∧
 (((1013904242 : Int) = (Go.Sx.S8.c (Go.Sx.hB Go.Sx.S0 (xs ++ (Go.Sx.padding (List.length xs))) i046))) ∧
 (((2773480762 : Int) = (Go.Sx.S8.d (Go.Sx.hB Go.Sx.S0 (xs ++ (Go.Sx.padding (List.length xs))) i046))) ∧
 (((1359893119 : Int) = (Go.Sx.S8.e (Go.Sx.hB Go.Sx.S0 (xs ++ (Go.Sx.padding (List.length xs))) i046))) ∧
 (((2600822924 : Int) = (Go.Sx.S8.f (Go.Sx.hB Go.Sx.S0 (xs ++ (Go.Sx.padding (List.length xs))) i046))) ∧
 (((528734635 : Int) = (Go.Sx.S8.g (Go.Sx.hB Go.Sx.S0 (xs ++ (Go.Sx.padding (List.length xs))) i046))) ∧
 ((1541459225 : Int) = (Go.Sx.S8.h (Go.Sx.hB Go.Sx.S0 (xs ++ (Go.Sx.padding (List.length xs))) i046))))))))))))))) ∧
 (∀ (i47 : Nat), ((((64 : Nat) * i47) ≤ (List.length (xs ++ (Go.Sx.padding (List.length xs))))) → (∀ (x48 : Int), ((x48 = ((((((((((((l + (1 : Nat)) + (Prod.fst i5)) + (1 : Nat)) + (1 : Nat)) + (1 : Nat)) + (1 : Nat)) + (1 : Nat)) + (1 : Nat)) + (1 : Nat)) + (1 : Nat)) : Nat) : Int)) → ((((decide (((((64 : Nat) * i47) : Nat) : Int) < x48)) = Bool.true) → (∀ (x49 : Int), ((x49 = (Go.Sx.S8.a (Go.Sx.hB Go.Sx.S0 (xs ++ (Go.Sx.padding (List.length xs))) i47))) → (∀ (x50 : Int), ((x50 = (Go.Sx.S8.b (Go.Sx.hB Go.Sx.S0 (xs ++ (Go.Sx.padding (List.length xs))) i47))) → (∀ (x51 : Int), ((x51 = (Go.Sx.S8.c (Go.Sx.hB Go.Sx.S0 (xs ++ (Go.Sx.padding (List.length xs))) i47))) → (∀ (x52 : Int), ((x52 = (Go.Sx.S8.d (Go.Sx.hB Go.Sx.S0 (xs ++ (Go.Sx.padding (List.length xs))) i47))) → (∀ (x53 : Int), ((x53 = (Go.Sx.S8.e (Go.Sx.hB Go.Sx.S0 (xs ++ (Go.Sx.padding (List.length xs))) i47))) → (∀ (x54 : Int), ((x54 = (Go.Sx.S8.f (Go.Sx.hB Go.Sx.S0 (xs ++ (Go.Sx.padding (List.length xs))) i47))) → (∀ (x55 : Int), ((x55 = (Go.Sx.S8.g (Go.Sx.hB Go.Sx.S0 (xs ++ (Go.Sx.padding (List.length xs))) i47))) → (∀ (x56 : Int), ((x56 = (Go.Sx.S8.h (Go.Sx.hB Go.Sx.S0 (xs ++ (Go.Sx.padding (List.length xs))) i47))) → (∀ (x57 : Int), ((x57 = (Go.IntKind.wrap Go.IntKind.i64 (((((64 : Nat) * i47) : Nat) : Int) + (64 : Int)))) → (((((0 : Int) ≤ x57) ∧
 (x57 ≤ ((cap44 : Nat) : Int))) ∧
 (((0 : Int) ≤ ((((64 : Nat) * i47) : Nat) : Int)) ∧
 (((((64 : Nat) * i47) : Nat) : Int) ≤ (((Int.toNat x57) : Nat) : Int)))) ∧
 ((((if (cap44 = (Int.toNat ((((64 : Nat) * i47) : Nat) : Int))) then (0 : Nat) else ((Int.toNat ((((64 : Nat) * i47) : Nat) : Int)) * (1 : Nat))) + (((Int.toNat x57) - (Int.toNat ((((64 : Nat) * i47) : Nat) : Int))) * (1 : Nat))) ≤ (List.length ys45)) ∧
 ((((64 : Nat) ≤ ((Int.toNat x57) - (Int.toNat ((((64 : Nat) * i47) : Nat) : Int)))) ∧
 (((64 : Nat) ≤ (List.length (List.take (((Int.toNat x57) - (Int.toNat ((((64 : Nat) * i47) : Nat) : Int))) * (1 : Nat)) (List.drop (if (cap44 = (Int.toNat ((((64 : Nat) * i47) : Nat) : Int))) then (0 : Nat) else ((Int.toNat ((((64 : Nat) * i47) : Nat) : Int)) * (1 : Nat))) ys45)))) ∧
 (Go.Sx.Bytes (List.take (((Int.toNat x57) - (Int.toNat ((((64 : Nat) * i47) : Nat) : Int))) * (1 : Nat)) (List.drop (if (cap44 = (Int.toNat ((((64 : Nat) * i47) : Nat) : Int))) then (0 : Nat) else ((Int.toNat ((((64 : Nat) * i47) : Nat) : Int)) * (1 : Nat))) ys45))))) ∧
 (∀ (H58 : Go.Sx.S8), ((H58 = (Go.Sx.comp (Go.Sx.S8.mk x49 x50 x51 x52 x53 x54 x55 x56) (List.take (((Int.toNat x57) - (Int.toNat ((((64 : Nat) * i47) : Nat) : Int))) * (1 : Nat)) (List.drop (if (cap44 = (Int.toNat ((((64 : Nat) * i47) : Nat) : Int))) then (0 : Nat) else ((Int.toNat ((((64 : Nat) * i47) : Nat) : Int)) * (1 : Nat))) ys45)))) → (∀ (x59 : Int), ((x59 = (Go.IntKind.wrap Go.IntKind.i64 (((((64 : Nat) * i47) : Nat) : Int) + (64 : Int)))) → (∃ (x60 : Nat), ((((64 : Nat) * x60) ≤ (List.length (xs ++ (Go.Sx.padding (List.length xs))))) ∧
 (((((l = l) ∧
 (c = c)) ∧
 (((((((((((((l + (1 : Nat)) + (Prod.fst i5)) + (1 : Nat)) + (1 : Nat)) + (1 : Nat)) + (1 : Nat)) + (1 : Nat)) + (1 : Nat)) + (1 : Nat)) + (1 : Nat)) = ((((((((((l + (1 : Nat)) + (Prod.fst i5)) + (1 : Nat)) + (1 : Nat)) + (1 : Nat)) + (1 : Nat)) + (1 : Nat)) + (1 : Nat)) + (1 : Nat)) + (1 : Nat))) ∧
 (cap44 = cap44)) ∧
 (x59 = ((((64 : Nat) * x60) : Nat) : Int)))) ∧
 ((xs = xs) ∧
 ((ys45 = ys45) ∧
 (((Go.Sx.S8.a H58) = (Go.Sx.S8.a (Go.Sx.hB Go.Sx.S0 (xs ++ (Go.Sx.padding (List.length xs))) x60))) ∧
 (((Go.Sx.S8.b H58) = (Go.Sx.S8.b (Go.Sx.hB Go.Sx.S0 (xs ++ (Go.Sx.padding (List.length xs))) x60))) ∧
 (((Go.Sx.S8.c H58) = (Go.Sx.S8.c (Go.Sx.hB Go.Sx.S0 (xs ++ (Go.Sx.padding (List.length xs))) x60))) ∧
 (((Go.Sx.S8.d H58) = (Go.Sx.S8.d (Go.Sx.hB Go.Sx.S0 (xs ++ (Go.Sx.padding (List.length xs))) x60))) ∧
 (((Go.Sx.S8.e H58) = (Go.Sx.S8.e (Go.Sx.hB Go.Sx.S0 (xs ++ (Go.Sx.padding (List.length xs))) x60))) ∧
 (((Go.Sx.S8.f H58) = (Go.Sx.S8.f (Go.Sx.hB Go.Sx.S0 (xs ++ (Go.Sx.padding (List.length xs))) x60))) ∧
 (((Go.Sx.S8.g H58) = (Go.Sx.S8.g (Go.Sx.hB Go.Sx.S0 (xs ++ (Go.Sx.padding (List.length xs))) x60))) ∧
 ((Go.Sx.S8.h H58) = (Go.Sx.S8.h (Go.Sx.hB Go.Sx.S0 (xs ++ (Go.Sx.padding (List.length xs))) x60))))))))))))) ∧
 (((List.length (xs ++ (Go.Sx.padding (List.length xs)))) - ((64 : Nat) * x60)) < ((List.length (xs ++ (Go.Sx.padding (List.length xs)))) - ((64 : Nat) * i47)))))))))))))))))))))))))))))))) ∧
 (((decide (((((64 : Nat) * i47) : Nat) : Int) < x48)) = Bool.false) → (∀ (x61 : Int), ((x61 = (Go.Sx.shrv Go.IntKind.u32 (Go.Sx.S8.a (Go.Sx.hB Go.Sx.S0 (xs ++ (Go.Sx.padding (List.length xs))) i47)) (24 : Nat))) → (∀ (x62 : Int), ((x62 = (Go.IntKind.wrap Go.IntKind.u8 x61)) → (∀ (x63 : Int), ((x63 = (Go.Sx.shrv Go.IntKind.u32 (Go.Sx.S8.a (Go.Sx.hB Go.Sx.S0 (xs ++ (Go.Sx.padding (List.length xs))) i47)) (16 : Nat))) → (∀ (x64 : Int), ((x64 = (Go.IntKind.wrap Go.IntKind.u8 x63)) → (∀ (x65 : Int), ((x65 = (Go.Sx.shrv Go.IntKind.u32 (Go.Sx.S8.a (Go.Sx.hB Go.Sx.S0 (xs ++ (Go.Sx.padding (List.length xs))) i47)) (8 : Nat))) → (∀ (x66 : Int), ((x66 = (Go.IntKind.wrap Go.IntKind.u8 x65)) → (∀ (x67 : Int), ((x67 = (Go.IntKind.wrap Go.IntKind.u8 (Go.Sx.S8.a (Go.Sx.hB Go.Sx.S0 (xs ++ (Go.Sx.padding (List.length xs))) i47)))) → (((((0 : Nat) ≤ (0 : Nat)) ∧
 ((0 : Nat) ≤ (0 : Nat))) ∧
 ((Nat.le (4 : Nat) (List.length [x62, x64, x66, x67])) ∧
 (((4 : Nat) ≤ (549755813888 : Nat)) ∧
 ((4 : Nat) ≤ (549755813888 : Nat))))) ∧
 (∀ (cap68 : Nat), (∀ (ys69 : (List Int)), ((((4 : Nat) ≤ cap68) ∧
 (((List.length ys69) = (cap68 * (1 : Nat))) ∧
 ((List.take (4 : Nat) ys69) = ((List.take (0 : Nat) (List.drop (0 : Nat) [])) ++ (List.take (4 : Nat) (List.drop (0 : Nat) [x62, x64, x66, x67])))))) → (∀ (x70 : Int), ((x70 = (Go.Sx.shrv Go.IntKind.u32 (Go.Sx.S8.b (Go.Sx.hB Go.Sx.S0 (xs ++ (Go.Sx.padding (List.length xs))) i47)) (24 : Nat))) → (∀ (x71 : Int), ((x71 = (Go.IntKind.wrap Go.IntKind.u8 x70)) → (∀ (x72 : Int), ((x72 = (Go.Sx.shrv Go.IntKind.u32 (Go.Sx.S8.b (Go.Sx.hB Go.Sx.S0 (xs ++ (Go.Sx.padding (List.length xs))) i47)) (16 : Nat))) → (∀ (x73 : Int), ((x73 = (Go.IntKind.wrap Go.IntKind.u8 x72)) → (∀ (x74 : Int), ((x74 = (Go.Sx.shrv Go.IntKind.u32 (Go.Sx.S8.b (Go.Sx.hB Go.Sx.S0 (xs ++ (Go.Sx.padding (List.length xs))) i47)) (8 : Nat))) → (∀ (x75 : Int), ((x75 = (Go.IntKind.wrap Go.IntKind.u8 x74)) → (∀ (x76 : Int), ((x76 = (Go.IntKind.wrap Go.IntKind.u8 (Go.Sx.S8.b (Go.Sx.hB Go.Sx.S0 (xs ++ (Go.Sx.padding (List.length xs))) i47)))) → (((((4 : Nat) ≤ cap68) ∧
 (((0 : Nat) + (cap68 * (1 : Nat))) ≤ (List.length ys69))) ∧
 ((Nat.le (4 : Nat) (List.length [x71, x73, x75, x76])) ∧
 (((8 : Nat) ≤ (549755813888 : Nat)) ∧
 ((8 : Nat) ≤ (549755813888 : Nat))))) ∧
 (∀ (cap77 : Nat), (∀ (ys78 : (List Int)), ((((8 : Nat) ≤ cap77) ∧
 (((List.length ys78) = (cap77 * (1 : Nat))) ∧
 ((List.take (8 : Nat) ys78) = ((List.take (4 : Nat) (List.drop (0 : Nat) ys69)) ++ (List.take (4 : Nat) (List.drop (0 : Nat) [x71, x73, x75, x76])))))) → (∀ (x79 : Int), ((x79 = (Go.Sx.shrv Go.IntKind.u32 (Go.Sx.S8.c (Go.Sx.hB Go.Sx.S0 (xs ++ (Go.Sx.padding (List.length xs))) i47)) (24 : Nat))) → (∀ (x80 : Int), ((x80 = (Go.IntKind.wrap Go.IntKind.u8 x79)) → (∀ (x81 : Int), ((x81 = (Go.Sx.shrv Go.IntKind.u32 (Go.Sx.S8.c (Go.Sx.hB Go.Sx.S0 (xs ++ (Go.Sx.padding (List.length xs))) i47)) (16 : Nat))) → (∀ (x82 : Int), ((x82 = (Go.IntKind.wrap Go.IntKind.u8 x81)) → (∀ (x83 : Int), ((x83 = (Go.Sx.shrv Go.IntKind.u32 (Go.Sx.S8.c (Go.Sx.hB Go.Sx.S0 (xs ++ (Go.Sx.padding (List.length xs))) i47)) (8 : Nat))) → (∀ (x84 : Int), ((x84 = (Go.IntKind.wrap Go.IntKind.u8 x83)) → (∀ (x85 : Int), ((x85 = (Go.IntKind.wrap Go.IntKind.u8 (Go.Sx.S8.c (Go.Sx.hB Go.Sx.S0 (xs ++ (Go.Sx.padding (List.length xs))) i47)))) → (((((8 : Nat) ≤ cap77) ∧
 (((0 : Nat) + (cap77 * (1 : Nat))) ≤ (List.length ys78))) ∧
 ((Nat.le (4 : Nat) (List.length [x80, x82, x84, x85])) ∧
 (((12 : Nat) ≤ (549755813888 : Nat)) ∧
 ((12 : Nat) ≤ (549755813888 : Nat))))) ∧
 (∀ (cap86 : Nat), (∀ (ys87 : (List Int)), ((((12 : Nat) ≤ cap86) ∧
 (((List.length ys87) = (cap86 * (1 : Nat))) ∧
 ((List.take (12 : Nat) ys87) = ((List.take (8 : Nat) (List.drop (0 : Nat) ys78)) ++ (List.take (4 : Nat) (List.drop (0 : Nat) [x80, x82, x84, x85])))))) → (∀ (x88 : Int), ((x88 = (Go.Sx.shrv Go.IntKind.u32 (Go.Sx.S8.d (Go.Sx.hB Go.Sx.S0 (xs ++ (Go.Sx.padding (List.length xs))) i47)) (24 : Nat))) → (∀ (x89 : Int), ((x89 = (Go.IntKind.wrap Go.IntKind.u8 x88)) → (∀ (x90 : Int), ((x90 = (Go.Sx.shrv Go.IntKind.u32 (Go.Sx.S8.d (Go.Sx.hB Go.Sx.S0 (xs ++ (Go.Sx.padding (List.length xs))) i47)) (16 : Nat))) → (∀ (x91 : Int), ((x91 = (Go.IntKind.wrap Go.IntKind.u8 x90)) → (∀ (x92 : Int), ((x92 = (Go.Sx.shrv Go.IntKind.u32 (Go.Sx.S8.d (Go.Sx.hB Go.Sx.S0 (xs ++ (Go.Sx.padding (List.length xs))) i47)) (8 : Nat))) → (∀ (x93 : Int), ((x93 = (Go.IntKind.wrap Go.IntKind.u8 x92)) → (∀ (x94 : Int), ((x94 = (Go.IntKind.wrap Go.IntKind.u8 (Go.Sx.S8.d (Go.Sx.hB Go.Sx.S0 (xs ++ (Go.Sx.padding (List.length xs))) i47)))) → (((((12 : Nat) ≤ cap86) ∧
 (((0 : Nat) + (cap86 * (1 : Nat))) ≤ (List.length ys87))) ∧
 ((Nat.le (4 : Nat) (List.length [x89, x91, x93, x94])) ∧
 (((16 : Nat) ≤ (549755813888 : Nat)) ∧
 ((16 : Nat) ≤ (549755813888 : Nat))))) ∧
 (∀ (cap95 : Nat), (∀ (ys96 : (List Int)), ((((16 : Nat) ≤ cap95) ∧
 (((List.length ys96) = (cap95 * (1 : Nat))) ∧
 ((List.take (16 : Nat) ys96) = ((List.take (12 : Nat) (List.drop (0 : Nat) ys87)) ++ (List.take (4 : Nat) (List.drop (0 : Nat) [x89, x91, x93, x94])))))) → (∀ (x97 : Int), ((x97 = (Go.Sx.shrv Go.IntKind.u32 (Go.Sx.S8.e (Go.Sx.hB Go.Sx.S0 (xs ++ (Go.Sx.padding (List.length xs))) i47)) (24 : Nat))) → (∀ (x98 : Int), ((x98 = (Go.IntKind.wrap Go.IntKind.u8 x97)) → (∀ (x99 : Int), ((x99 = (Go.Sx.shrv Go.IntKind.u32 (Go.Sx.S8.e (Go.Sx.hB Go.Sx.S0 (xs ++ (Go.Sx.padding (List.length xs))) i47)) (16 : Nat))) → (∀ (x100 : Int), ((x100 = (Go.IntKind.wrap Go.IntKind.u8 x99)) → (∀ (x101 : Int), ((x101 = (Go.Sx.shrv Go.IntKind.u32 (Go.Sx.S8.e (Go.Sx.hB Go.Sx.S0 (xs ++ (Go.Sx.padding (List.length xs))) i47)) (8 : Nat))) → (∀ (x102 : Int), ((x102 = (Go.IntKind.wrap Go.IntKind.u8 x101)) → (∀ (x103 : Int), ((x103 = (Go.IntKind.wrap Go.IntKind.u8 (Go.Sx.S8.e (Go.Sx.hB Go.Sx.S0 (xs ++ (Go.Sx.padding (List.length xs))) i47)))) → (((((16 : Nat) ≤ cap95) ∧
 (((0 : Nat) + (cap95 * (1 : Nat))) ≤ (List.length ys96))) ∧
 ((Nat.le (4 : Nat) (List.length [x98, x100, x102, x103])) ∧
 (((20 : Nat) ≤ (549755813888 : Nat)) ∧
 ((20 : Nat) ≤ (549755813888 : Nat))))) ∧
 (∀ (cap104 : Nat), (∀ (ys105 : (List Int)), ((((20 : Nat) ≤ cap104) ∧
 (((List.length ys105) = (cap104 * (1 : Nat))) ∧
 ((List.take (20 : Nat) ys105) = ((List.take (16 : Nat) (List.drop (0 : Nat) ys96)) ++ (List.take (4 : Nat) (List.drop (0 : Nat) [x98, x100, x102, x103])))))) → (∀ (x106 : Int), ((x106 = (Go.Sx.shrv Go.IntKind.u32 (Go.Sx.S8.f (Go.Sx.hB Go.Sx.S0 (xs ++ (Go.Sx.padding (List.length xs))) i47)) (24 : Nat))) → (∀ (x107 : Int), ((x107 = (Go.IntKind.wrap Go.IntKind.u8 x106)) → (∀ (x108 : Int), ((x108 = (Go.Sx.shrv Go.IntKind.u32 (Go.Sx.S8.f (Go.Sx.hB Go.Sx.S0 (xs ++ (Go.Sx.padding (List.length xs))) i47)) (16 : Nat))) → (∀ (x109 : Int), ((x109 = (Go.IntKind.wrap Go.IntKind.u8 x108)) → (∀ (x110 : Int), ((x110 = (Go.Sx.shrv Go.IntKind.u32 (Go.Sx.S8.f (Go.Sx.hB Go.Sx.S0 (xs ++ (Go.Sx.padding (List.length xs))) i47)) (8 : Nat))) → (∀ (x111 : Int), ((x111 = (Go.IntKind.wrap Go.IntKind.u8 x110)) → (∀ (x112 : Int), ((x112 = (Go.IntKind.wrap Go.IntKind.u8 (Go.Sx.S8.f (Go.Sx.hB Go.Sx.S0 (xs ++ (Go.Sx.padding (List.length xs))) i47)))) → (((((20 : Nat) ≤ cap104) ∧
 (((0 : Nat) + (cap104 * (1 : Nat))) ≤ (List.length ys105))) ∧
 ((Nat.le (4 : Nat) (List.length [x107, x109, x111, x112])) ∧
 (((24 : Nat) ≤ (549755813888 : Nat)) ∧
 ((24 : Nat) ≤ (549755813888 : Nat))))) ∧
 (∀ (cap113 : Nat), (∀ (ys114 : (List Int)), ((((24 : Nat) ≤ cap113) ∧
 (((List.length ys114) = (cap113 * (1 : Nat))) ∧
 ((List.take (24 : Nat) ys114) = ((List.take (20 : Nat) (List.drop (0 : Nat) ys105)) ++ (List.take (4 : Nat) (List.drop (0 : Nat) [x107, x109, x111, x112])))))) → (∀ (x115 : Int), ((x115 = (Go.Sx.shrv Go.IntKind.u32 (Go.Sx.S8.g (Go.Sx.hB Go.Sx.S0 (xs ++ (Go.Sx.padding (List.length xs))) i47)) (24 : Nat))) → (∀ (x116 : Int), ((x116 = (Go.IntKind.wrap Go.IntKind.u8 x115)) → (∀ (x117 : Int), ((x117 = (Go.Sx.shrv Go.IntKind.u32 (Go.Sx.S8.g (Go.Sx.hB Go.Sx.S0 (xs ++ (Go.Sx.padding (List.length xs))) i47)) (16 : Nat))) → (∀ (x118 : Int), ((x118 = (Go.IntKind.wrap Go.IntKind.u8 x117)) → (∀ (x119 : Int), ((x119 = (Go.Sx.shrv Go.IntKind.u32 (Go.Sx.S8.g (Go.Sx.hB Go.Sx.S0 (xs ++ (Go.Sx.padding (List.length xs))) i47)) (8 : Nat))) → (∀ (x120 : Int), ((x120 = (Go.IntKind.wrap Go.IntKind.u8 x119)) → (∀ (x121 : Int), ((x121 = (Go.IntKind.wrap Go.IntKind.u8 (Go.Sx.S8.g (Go.Sx.hB Go.Sx.S0 (xs ++ (Go.Sx.padding (List.length xs))) i47)))) → (((((24 : Nat) ≤ cap113) ∧
 (((0 : Nat) + (cap113 * (1 : Nat))) ≤ (List.length ys114))) ∧
 ((Nat.le (4 : Nat) (List.length [x116, x118, x120, x121])) ∧
 (((28 : Nat) ≤ (549755813888 : Nat)) ∧
 ((28 : Nat) ≤ (549755813888 : Nat))))) ∧
 (∀ (cap122 : Nat), (∀ (ys123 : (List Int)), ((((28 : Nat) ≤ cap122) ∧
 (((List.length ys123) = (cap122 * (1 : Nat))) ∧
 ((List.take (28 : Nat) ys123) = ((List.take (24 : Nat) (List.drop (0 : Nat) ys114)) ++ (List.take (4 : Nat) (List.drop (0 : Nat) [x116, x118, x120, x121])))))) → (∀ (x124 : Int), ((x124 = (Go.Sx.shrv Go.IntKind.u32 (Go.Sx.S8.h (Go.Sx.hB Go.Sx.S0 (xs ++ (Go.Sx.padding (List.length xs))) i47)) (24 : Nat))) → (∀ (x125 : Int), ((x125 = (Go.IntKind.wrap Go.IntKind.u8 x124)) → (∀ (x126 : Int), ((x126 = (Go.Sx.shrv Go.IntKind.u32 (Go.Sx.S8.h (Go.Sx.hB Go.Sx.S0 (xs ++ (Go.Sx.padding (List.length xs))) i47)) (16 : Nat))) → (∀ (x127 : Int), ((x127 = (Go.IntKind.wrap Go.IntKind.u8 x126)) → (∀ (x128 : Int), ((x128 = (Go.Sx.shrv Go.IntKind.u32 (Go.Sx.S8.h (Go.Sx.hB Go.Sx.S0 (xs ++ (Go.Sx.padding (List.length xs))) i47)) (8 : Nat))) → (∀ (x129 : Int), ((x129 = (Go.IntKind.wrap Go.IntKind.u8 x128)) → (∀ (x130 : Int), ((x130 = (Go.IntKind.wrap Go.IntKind.u8 (Go.Sx.S8.h (Go.Sx.hB Go.Sx.S0 (xs ++ (Go.Sx.padding (List.length xs))) i47)))) → (((((28 : Nat) ≤ cap122) ∧
 (((0 : Nat) + (cap122 * (1 : Nat))) ≤ (List.length ys123))) ∧
 ((Nat.le (4 : Nat) (List.length [x125, x127, x129, x130])) ∧
 (((32 : Nat) ≤ (549755813888 : Nat)) ∧
 ((32 : Nat) ≤ (549755813888 : Nat))))) ∧
 (∀ (cap131 : Nat), (∀ (ys132 : (List Int)), ((((32 : Nat) ≤ cap131) ∧
 (((List.length ys132) = (cap131 * (1 : Nat))) ∧
 ((List.take (32 : Nat) ys132) = ((List.take (28 : Nat) (List.drop (0 : Nat) ys123)) ++ (List.take (4 : Nat) (List.drop (0 : Nat) [x125, x127, x129, x130])))))) → (K (Go.Sx.SV.slice (3409 : Nat) (Go.Sx.N.lit (0 : Nat)) (Go.Sx.N.lit (32 : Nat)) (Go.Sx.N.sym cap131)) (Go.Sx.memL [((1 : Nat), (Go.Sx.Reg.mk Bool.true (Go.Sx.Ct.ints Go.IntKind.u8 xs))), ((1513 : Nat), (Go.Sx.Reg.mk Bool.false (Go.Sx.Ct.ints Go.IntKind.u8 ys45))), ((1577 : Nat), (Go.Sx.Reg.mk Bool.false (Go.Sx.Ct.cells [(Go.Sx.SV.int Go.IntKind.u32 (Go.Sx.A.sym (Go.Sx.S8.a (Go.Sx.hB Go.Sx.S0 (xs ++ (Go.Sx.padding (List.length xs))) i47)))), (Go.Sx.SV.int Go.IntKind.u32 (Go.Sx.A.sym (Go.Sx.S8.b (Go.Sx.hB Go.Sx.S0 (xs ++ (Go.Sx.padding (List.length xs))) i47)))), (Go.Sx.SV.int Go.IntKind.u32 (Go.Sx.A.sym (Go.Sx.S8.c (Go.Sx.hB Go.Sx.S0 (xs ++ (Go.Sx.padding (List.length xs))) i47)))), (Go.Sx.SV.int Go.IntKind.u32 (Go.Sx.A.sym (Go.Sx.S8.d (Go.Sx.hB Go.Sx.S0 (xs ++ (Go.Sx.padding (List.length xs))) i47)))), (Go.Sx.SV.int Go.IntKind.u32 (Go.Sx.A.sym (Go.Sx.S8.e (Go.Sx.hB Go.Sx.S0 (xs ++ (Go.Sx.padding (List.length xs))) i47)))), (Go.Sx.SV.int Go.IntKind.u32 (Go.Sx.A.sym (Go.Sx.S8.f (Go.Sx.hB Go.Sx.S0 (xs ++ (Go.Sx.padding (List.length xs))) i47)))), (Go.Sx.SV.int Go.IntKind.u32 (Go.Sx.A.sym (Go.Sx.S8.g (Go.Sx.hB Go.Sx.S0 (xs ++ (Go.Sx.padding (List.length xs))) i47)))), (Go.Sx.SV.int Go.IntKind.u32 (Go.Sx.A.sym (Go.Sx.S8.h (Go.Sx.hB Go.Sx.S0 (xs ++ (Go.Sx.padding (List.length xs))) i47))))]))), ((1833 : Nat), (Go.Sx.Reg.mk Bool.false (Go.Sx.Ct.cells [(Go.Sx.SV.int Go.IntKind.u8 (Go.Sx.A.sym x62)), (Go.Sx.SV.int Go.IntKind.u8 (Go.Sx.A.sym x64)), (Go.Sx.SV.int Go.IntKind.u8 (Go.Sx.A.sym x66)), (Go.Sx.SV.int Go.IntKind.u8 (Go.Sx.A.sym x67))]))), ((2057 : Nat), (Go.Sx.Reg.mk Bool.false (Go.Sx.Ct.cells [(Go.Sx.SV.int Go.IntKind.u8 (Go.Sx.A.sym x71)), (Go.Sx.SV.int Go.IntKind.u8 (Go.Sx.A.sym x73)), (Go.Sx.SV.int Go.IntKind.u8 (Go.Sx.A.sym x75)), (Go.Sx.SV.int Go.IntKind.u8 (Go.Sx.A.sym x76))]))), ((2281 : Nat), (Go.Sx.Reg.mk Bool.false (Go.Sx.Ct.cells [(Go.Sx.SV.int Go.IntKind.u8 (Go.Sx.A.sym x80)), (Go.Sx.SV.int Go.IntKind.u8 (Go.Sx.A.sym x82)), (Go.Sx.SV.int Go.IntKind.u8 (Go.Sx.A.sym x84)), (Go.Sx.SV.int Go.IntKind.u8 (Go.Sx.A.sym x85))]))), ((2505 : Nat), (Go.Sx.Reg.mk Bool.false (Go.Sx.Ct.cells [(Go.Sx.SV.int Go.IntKind.u8 (Go.Sx.A.sym x89)), (Go.Sx.SV.int Go.IntKind.u8 (Go.Sx.A.sym x91)), (Go.Sx.SV.int Go.IntKind.u8 (Go.Sx.A.sym x93)), (Go.Sx.SV.int Go.IntKind.u8 (Go.Sx.A.sym x94))]))), ((2729 : Nat), (Go.Sx.Reg.mk Bool.false (Go.Sx.Ct.cells [(Go.Sx.SV.int Go.IntKind.u8 (Go.Sx.A.sym x98)), (Go.Sx.SV.int Go.IntKind.u8 (Go.Sx.A.sym x100)), (Go.Sx.SV.int Go.IntKind.u8 (Go.Sx.A.sym x102)), (Go.Sx.SV.int Go.IntKind.u8 (Go.Sx.A.sym x103))]))), ((2953 : Nat), (Go.Sx.Reg.mk Bool.false (Go.Sx.Ct.cells [(Go.Sx.SV.int Go.IntKind.u8 (Go.Sx.A.sym x107)), (Go.Sx.SV.int Go.IntKind.u8 (Go.Sx.A.sym x109)), (Go.Sx.SV.int Go.IntKind.u8 (Go.Sx.A.sym x111)), (Go.Sx.SV.int Go.IntKind.u8 (Go.Sx.A.sym x112))]))), ((3177 : Nat), (Go.Sx.Reg.mk Bool.false (Go.Sx.Ct.cells [(Go.Sx.SV.int Go.IntKind.u8 (Go.Sx.A.sym x116)), (Go.Sx.SV.int Go.IntKind.u8 (Go.Sx.A.sym x118)), (Go.Sx.SV.int Go.IntKind.u8 (Go.Sx.A.sym x120)), (Go.Sx.SV.int Go.IntKind.u8 (Go.Sx.A.sym x121))]))), ((3401 : Nat), (Go.Sx.Reg.mk Bool.false (Go.Sx.Ct.cells [(Go.Sx.SV.int Go.IntKind.u8 (Go.Sx.A.sym x125)), (Go.Sx.SV.int Go.IntKind.u8 (Go.Sx.A.sym x127)), (Go.Sx.SV.int Go.IntKind.u8 (Go.Sx.A.sym x129)), (Go.Sx.SV.int Go.IntKind.u8 (Go.Sx.A.sym x130))]))), ((3409 : Nat), (Go.Sx.Reg.mk Bool.false (Go.Sx.Ct.ints Go.IntKind.u8 ys132)))]))))))))))))))))))))))))))))))))))))))))))))))))))))))))))))))))))))))))))))))))))))))))))))))))))))))))))))))))))))))))))))))))))))))))))))))))))))))))))))))))))))))))))))))))))))))))))))))))))))))))))))))))))))))))))))))))))))))))))))))))) := by kernel_rfl
end Go.Sx

/- spec.Sum: what it computes. -/
namespace Go.Sx
open Go Go.Proofs
set_option maxRecDepth 100000
set_option maxHeartbeats 4000000
theorem shl3 {n : Nat} (h : n < 2 ^ 40) : IntKind.u64.wrap (IntKind.u64.wrap (n : Int) * 8) = shlv .u64 (n : Int) 3 := by
  rw [wrapu64 (x := (n : Int)) (by omega) (by omega)]
  rfl
theorem pad_stop {l j : Nat} (h : j + 1 ≤ padN l) (h2 : (l + 1 + j) % 64 = 56) : j + 1 = padN l := by
  unfold padN at *
  split at h <;> split <;> omega
theorem pad_go {l j : Nat} (h : j + 1 ≤ padN l) (h2 : (l + 1 + j) % 64 ≠ 56) : j + 2 ≤ padN l := by
  unfold padN at *
  split at h <;> split <;> omega
theorem padN_pos (l : Nat) : 1 ≤ padN l ∧ padN l ≤ 64 := by unfold padN; split <;> omega
theorem pad_sum (l : Nat) : (l + padN l + 8) % 64 = 0 := by unfold padN; split <;> omega
theorem ss_walk (xs : List Int) (l c : Nat) (K : SV → Mem → Prop) (hl : xs.length = l) (hbig : l ≤ 2 ^ 38) (hb : Bytes xs) (hup : KUp K)
    (hK : ∀ ys cap, Rw ys (sha xs) 32 cap → K (.slice 3409 (.lit 0) (.lit 32) (.sym cap)) (memL [(1, ⟨true, .ints .u8 xs⟩), (3409, ⟨false, .ints .u8 ys⟩)])) :
    execF cxSS (uSS xs l) Tryd.f9 64 [.slice 1 (.lit 0) (.sym l) (.sym c)] (memL [(1, ⟨true, .ints .u8 xs⟩)]) K := by
  rw [vc_ss]
  have hpp := padN_pos l
  refine ⟨⟨by omega, nle (by omega), by omega, by omega⟩, fun cap0 ys1 e0 => ?_⟩
  have r0 := Rw.first hl e0
  refine ⟨⟨r0.fits, nle (Nat.le_refl _), by omega, by omega⟩, fun cap2 ys3 e2 => ?_⟩
  have r1 := r0.next (zs := [128]) (m := 1) rfl e2
  refine ⟨⟨(0, ys3, cap2), ⟨r1, by simp only; omega⟩, ?_⟩, ?_⟩
  · repeat' apply And.intro
    all_goals first | trivial | rfl
  clear r0 r1 e0 e2 ys1 ys3 cap0 cap2
  rintro ⟨j, y, cp⟩ ⟨r0, hj⟩
  simp only at r0 hj
  rintro x6 rfl x7 hx7
  have e7 : x7 = ((l + 1 + j) % 64 : Nat) := by rw [hx7]; exact_mod_cast rfl
  simp only
  refine ⟨fun h => ?_, fun h => ?_⟩
  · have hne : (l + 1 + j) % 64 ≠ 56 := by
      intro e
      rw [e7, e] at h
      exact absurd h (by decide)
    have hj2 := pad_go hj hne
    refine ⟨⟨r0.fits, nle (Nat.le_refl _), by omega, by omega⟩, fun cap8 ys9 e8 => ?_⟩
    have r1 := r0.next (zs := [0]) (m := 1) rfl e8
    refine ⟨(j + 1, ys9, cap8), ⟨?_, by simp only; omega⟩, ?_, by simp only; omega⟩
    · have : xs ++ 128 :: List.replicate j 0 ++ [0] = xs ++ 128 :: List.replicate (j + 1) (0 : Int) := by
        rw [List.append_assoc, List.cons_append, List.replicate_succ' (n := j)]
      rw [this] at r1
      exact r1
    · repeat' apply And.intro
      all_goals first | trivial | rfl | omega
  have h56 : (l + 1 + j) % 64 = 56 := by
    rw [e7] at h
    simp only [bne_eq_false_iff_eq] at h
    omega
  have hjp := pad_stop hj h56
  have hps := pad_sum l
  rintro x11 rfl x12 rfl x13 hx13
  rw [shl3 (by omega)] at hx13
  rintro x14 rfl x15 rfl
  refine ⟨⟨r0.fits, nle (Nat.le_refl _), by omega, by omega⟩, fun cap16 ys17 e16 => ?_⟩
  have r1 := r0.next (zs := [b64 x13 56]) (m := 1) rfl e16
  clear r0
  rintro x18 rfl x19 rfl
  refine ⟨⟨r1.fits, nle (Nat.le_refl _), by omega, by omega⟩, fun cap20 ys21 e20 => ?_⟩
  have r2 := r1.next (zs := [b64 x13 48]) (m := 1) rfl e20
  clear r1
  rintro x22 rfl x23 rfl
  refine ⟨⟨r2.fits, nle (Nat.le_refl _), by omega, by omega⟩, fun cap24 ys25 e24 => ?_⟩
  have r3 := r2.next (zs := [b64 x13 40]) (m := 1) rfl e24
  clear r2
  rintro x26 rfl x27 rfl
  refine ⟨⟨r3.fits, nle (Nat.le_refl _), by omega, by omega⟩, fun cap28 ys29 e28 => ?_⟩
  have r4 := r3.next (zs := [b64 x13 32]) (m := 1) rfl e28
  clear r3
  rintro x30 rfl x31 rfl
  refine ⟨⟨r4.fits, nle (Nat.le_refl _), by omega, by omega⟩, fun cap32 ys33 e32 => ?_⟩
  have r5 := r4.next (zs := [b64 x13 24]) (m := 1) rfl e32
  clear r4
  rintro x34 rfl x35 rfl
  refine ⟨⟨r5.fits, nle (Nat.le_refl _), by omega, by omega⟩, fun cap36 ys37 e36 => ?_⟩
  have r6 := r5.next (zs := [b64 x13 16]) (m := 1) rfl e36
  clear r5
  rintro x38 rfl x39 rfl
  refine ⟨⟨r6.fits, nle (Nat.le_refl _), by omega, by omega⟩, fun cap40 ys41 e40 => ?_⟩
  have r7 := r6.next (zs := [b64 x13 8]) (m := 1) rfl e40
  clear r6
  rintro x42 rfl x43 rfl
  refine ⟨⟨r7.fits, nle (Nat.le_refl _), by omega, by omega⟩, fun cap44 ys45 e44 => ?_⟩
  have r8 := r7.next (zs := [b64 x13 0]) (m := 1) rfl e44
  clear r7
  have hm : xs ++ 128 :: List.replicate j 0 ++ [b64 x13 56] ++ [b64 x13 48] ++ [b64 x13 40] ++ [b64 x13 32] ++ [b64 x13 24] ++ [b64 x13 16] ++ [b64 x13 8] ++ [b64 x13 0] = xs ++ padding xs.length := by
    rw [hl]
    unfold padding
    rw [← hjp, Nat.add_sub_cancel, ← hx13]
    simp only [List.append_assoc, List.cons_append, List.nil_append]
    rfl
  rw [hm] at r8
  have hml := r8.xl
  have hpb : Bytes (xs ++ padding xs.length) := hb.append (padding_bytes _)
  clear hm e7 hx7 h hj hx13 e16 e20 e24 e28 e32 e36 e40 e44
  generalize hmm : xs ++ padding xs.length = m at *
  have hsha : sha xs = out32 (hB S0 m (m.length / 64)) := by
    unfold sha
    rw [hmm]
    congr 2
    rw [hml, hl]
    congr 1
    omega
  refine ⟨⟨(0 : Nat), by omega, ?_⟩, ?_⟩
  · repeat' apply And.intro
    all_goals first | trivial | rfl
  intro (k : Nat) (hk : 64 * k ≤ m.length) x48 hx48
  refine ⟨fun hlt => ?_, fun hlt => ?_⟩
  · simp only [decide_eq_true_eq] at hlt
    have hk2 : 64 * k + 64 ≤ m.length := by omega
    rintro x49 rfl x50 rfl x51 rfl x52 rfl x53 rfl x54 rfl x55 rfl x56 rfl x57 hx57
    rw [wrap64 (by omega) (by omega)] at hx57
    have e1 : x57.toNat = 64 * k + 64 := by omega
    have e2 : Int.toNat ((64 * k : Nat) : Int) = 64 * k := Int.toNat_natCast _
    have hcl := r8.le
    have hcn := r8.len
    rw [e1, e2, if_neg (by omega)]
    simp only [Nat.add_sub_cancel_left, Nat.mul_one]
    have eb : List.take 64 (List.drop (64 * k) ys45) = blk m k := by
      unfold blk
      rw [← r8.row, List.drop_take, List.take_take, Nat.min_eq_left (by omega)]
    rw [eb]
    refine ⟨⟨⟨by omega, by omega⟩, by omega, by omega⟩, by omega, ⟨Nat.le_refl _, by unfold blk; simp; omega, bytes_blk hpb k⟩, ?_⟩
    rintro H58 hH x59 hx59
    rw [wrap64 (by omega) (by omega)] at hx59
    have hH' : H58 = hB S0 m (k + 1) := hH
    refine ⟨(k + 1 : Nat), by omega, ?_, by omega⟩
    rw [← hH']
    repeat' apply And.intro
    all_goals first | trivial | rfl | omega
  simp only [decide_eq_false_iff_not] at hlt
  have hke : k = m.length / 64 := by omega
  rw [← hke] at hsha
  generalize hB S0 m k = H at *
  obtain ⟨a, b, c', d, e, f, g, h⟩ := H
  dsimp only
  rintro x61 rfl x62 rfl x63 rfl x64 rfl x65 rfl x66 rfl x67 rfl
  refine ⟨⟨by omega, nle (Nat.le_refl _), by omega, by omega⟩, fun cap68 ys69 e68 => ?_⟩
  have q1 := Rw.first (n := 4) (xs := out4 a) rfl e68
  rintro x70 rfl x71 rfl x72 rfl x73 rfl x74 rfl x75 rfl x76 rfl
  refine ⟨⟨q1.fits, nle (Nat.le_refl _), by omega, by omega⟩, fun cap77 ys78 e77 => ?_⟩
  have q2 := q1.next (zs := out4 b) (m := 4) rfl e77
  rintro x79 rfl x80 rfl x81 rfl x82 rfl x83 rfl x84 rfl x85 rfl
  refine ⟨⟨q2.fits, nle (Nat.le_refl _), by omega, by omega⟩, fun cap86 ys87 e86 => ?_⟩
  have q3 := q2.next (zs := out4 c') (m := 4) rfl e86
  rintro x88 rfl x89 rfl x90 rfl x91 rfl x92 rfl x93 rfl x94 rfl
  refine ⟨⟨q3.fits, nle (Nat.le_refl _), by omega, by omega⟩, fun cap95 ys96 e95 => ?_⟩
  have q4 := q3.next (zs := out4 d) (m := 4) rfl e95
  rintro x97 rfl x98 rfl x99 rfl x100 rfl x101 rfl x102 rfl x103 rfl
  refine ⟨⟨q4.fits, nle (Nat.le_refl _), by omega, by omega⟩, fun cap104 ys105 e104 => ?_⟩
  have q5 := q4.next (zs := out4 e) (m := 4) rfl e104
  rintro x106 rfl x107 rfl x108 rfl x109 rfl x110 rfl x111 rfl x112 rfl
  refine ⟨⟨q5.fits, nle (Nat.le_refl _), by omega, by omega⟩, fun cap113 ys114 e113 => ?_⟩
  have q6 := q5.next (zs := out4 f) (m := 4) rfl e113
  rintro x115 rfl x116 rfl x117 rfl x118 rfl x119 rfl x120 rfl x121 rfl
  refine ⟨⟨q6.fits, nle (Nat.le_refl _), by omega, by omega⟩, fun cap122 ys123 e122 => ?_⟩
  have q7 := q6.next (zs := out4 g) (m := 4) rfl e122
  rintro x124 rfl x125 rfl x126 rfl x127 rfl x128 rfl x129 rfl x130 rfl
  refine ⟨⟨q7.fits, nle (Nat.le_refl _), by omega, by omega⟩, fun cap131 ys132 e131 => ?_⟩
  have q8 := q7.next (zs := out4 h) (m := 4) rfl e131
  have hq : out4 a ++ out4 b ++ out4 c' ++ out4 d ++ out4 e ++ out4 f ++ out4 g ++ out4 h = sha xs := hsha.symm
  rw [hq] at q8
  exact hup.le (memL_sub [1, 1513, 1577, 1833, 2057, 2281, 2505, 2729, 2953, 3177, 3401, 3409] rfl (by decide) (by
    intro x hx
    simp only [List.mem_cons, List.not_mem_nil, or_false] at hx ⊢
    rcases hx with hx | hx
    · exact .inl hx
    · iterate 11 (apply Or.inr)
      exact hx)) (hK _ _ q8)
end Go.Sx

/- The contract of spec.Sum. -/
namespace Go.Sx
open Go Go.Proofs
set_option maxRecDepth 100000
def gSS : G0 := fun args l K =>
  match args, l with
  | [.slice 1 (.lit 0) (.sym n) (.sym _)], [(1, ⟨true, .ints .u8 xs⟩)] =>
    (xs.length = n ∧ n ≤ 2 ^ 38 ∧ Bytes xs) ∧ ∀ ys cap, Rw ys (sha xs) 32 cap → K (.slice 3409 (.lit 0) (.lit 32) (.sym cap)) (memL [(1, ⟨true, .ints .u8 xs⟩), (3409, ⟨false, .ints .u8 ys⟩)])
  | _, _ => False
theorem ss_good : Good gSS := by
  constructor
  · intro args l K K' hk h
    unfold gSS at h ⊢
    split at h
    · exact ⟨h.1, fun ys cap hy => hk _ _ (h.2 ys cap hy)⟩
    · exact h.elim
  · intro args l K h
    unfold gSS at h
    split at h
    · exact ⟨_, _, h.2 _ _ (Rw.self _)⟩
    · exact h.elim
theorem ss_ok (args : List SV) (l : List (Nat × Reg)) (K : SV → Mem → Prop) (hup : KUp K) (h : gSS args l K) : ∃ U, execF cxSS U Tryd.f9 64 args (memL l) K := by
  unfold gSS at h
  split at h
  · rename_i n c xs
    exact ⟨uSS xs n, ss_walk xs n c K h.1.1 h.1.2.1 h.1.2.2 hup h.2⟩
  · exact h.elim
def cSS : Ef Tryd.prog := mkE mixed 9 Tryd.func9 (by decide) (by kernel_rfl) [] [.sl 1 true] gSS ss_good ss_ok
end Go.Sx

/- The loops of spec.Expand. -/
namespace Go.Sx
open Go Go.Proofs
def cxSE : Cx Tryd.prog := { rds := [], efs := [cJoin, cSS], eqs := [] }
def liSE0 (first D : List Int) (n : Int) : LI where
  ι := Nat × (List Int × Nat) × (List Int × Nat)
  keep := [2, 7, 8]
  keepR := [577, 681]
  F := fun i => ⟨[(9, .slice 737 (.lit 0) (.sym (32 * i.1)) (.sym i.2.1.2)), (10, .slice 739 (.lit 0) (.lit 32) (.sym i.2.2.2)), (11, .int .i64 (.sym ((i.1 : Nat) + 1)))],
    [(737, ⟨false, .ints .u8 i.2.1.1⟩), (739, ⟨false, .ints .u8 i.2.2.1⟩)]⟩
  I := fun _ i => Rw i.2.1.1 (outN first D i.1) (32 * i.1) i.2.1.2 ∧ Rw i.2.2.1 (bI first D i.1) 32 i.2.2.2 ∧ 32 * (i.1 : Int) < n + 32
  μ := fun i => n.toNat + 32 - 32 * i.1
  k := 1
def liSE2 : LI where
  ι := Nat × List Int × Nat
  keep := [2, 7, 8, 9, 10, 11]
  keepR := [577, 681, 737, 739]
  F := fun i => ⟨[(12, .slice 801 (.lit 0) (.sym i.1) (.sym i.2.2)), (13, i64n i.1)], [(801, ⟨false, .ints .u8 i.2.1⟩)]⟩
  I := fun st i => Rw i.2.1 ((xorL (st.reg 681) (st.reg 739)).take i.1) i.1 i.2.2 ∧ i.1 ≤ 32
  μ := fun i => 32 - i.1
  k := 1
def uSE (msg dst : List Int) (n : Int) : Nat → Lp := fun b =>
  match b with
  | 0 => .inv (liSE0 (firstL msg dst n) (domL dst) n)
  | 2 => .inv liSE2
  | _ => .un 0
end Go.Sx

/- spec.Expand: its condition. -/
namespace Go.Sx
open Go Go.Proofs
set_option maxRecDepth 100000
theorem vc_se (msg dst : List Int) (l c l2 c2 : Nat) (n : Int) (K : SV → Mem → Prop) : (execF cxSE (uSE msg dst n) Tryd.f6 64 [.slice 1 (.lit 0) (.sym l) (.sym c), .slice 9 (.lit 0) (.sym l2) (.sym c2), .int .i64 (.sym n)] (memL [(1, ⟨true, .ints .u8 msg⟩), (9, ⟨true, .ints .u8 dst⟩)]) K) =
  ((((((0 : Nat) ≤ (0 : Nat)) ∧
 ((0 : Nat) ≤ (0 : Nat))) ∧
 ((Nat.le ((0 : Nat) + (l2 * (1 : Nat))) (List.length dst)) ∧
 (((((0 : Nat) + l2) * (1 : Nat)) ≤ (549755813888 : Nat)) ∧
 (((0 : Nat) + l2) ≤ (549755813888 : Nat))))) ∧
 (∀ (cap0 : Nat), (∀ (ys1 : (List Int)), (((((0 : Nat) + l2) ≤ cap0) ∧
 (((List.length ys1) = (cap0 * (1 : Nat))) ∧
 ((List.take (((0 : Nat) + l2) * (1 : Nat)) ys1) = ((List.take (0 : Nat) (List.drop (0 : Nat) [])) ++ (List.take (l2 * (1 : Nat)) (List.drop (0 : Nat) dst)))))) → (∀ (x2 : Int), ((x2 = ((l2 : Nat) : Int)) → (∀ (x3 : Int), ((x3 = (Go.IntKind.wrap Go.IntKind.u8 x2)) → ((((l2 ≤ cap0) ∧
 (((0 : Nat) + (cap0 * (1 : Nat))) ≤ (List.length ys1))) ∧
 ((Nat.le (1 : Nat) (List.length [x3])) ∧
 ((((l2 + (1 : Nat)) * (1 : Nat)) ≤ (549755813888 : Nat)) ∧
 ((l2 + (1 : Nat)) ≤ (549755813888 : Nat))))) ∧
 (∀ (cap4 : Nat), (∀ (ys5 : (List Int)), ((((l2 + (1 : Nat)) ≤ cap4) ∧
 (((List.length ys5) = (cap4 * (1 : Nat))) ∧
 ((List.take ((l2 + (1 : Nat)) * (1 : Nat)) ys5) = ((List.take (l2 * (1 : Nat)) (List.drop (0 : Nat) ys1)) ++ (List.take (1 : Nat) (List.drop (0 : Nat) [x3])))))) → ((((0 : Int) ≤ (64 : Int)) ∧
 (((64 : Int) ≤ (140737488355328 : Int)) ∧
 ((64 : Int) ≤ (140737488355328 : Int)))) ∧
 (∀ (x6 : Int), ((x6 = (Go.IntKind.wrap Go.IntKind.i64 (Int.tdiv n (256 : Int)))) → (∀ (x7 : Int), ((x7 = (Go.IntKind.wrap Go.IntKind.u8 x6)) → (∀ (x8 : Int), ((x8 = (Go.IntKind.wrap Go.IntKind.u8 n)) → ((((64 : Nat) ≤ (64 : Nat)) ∧
 ((((0 : Nat) + (l * (1 : Nat))) ≤ (List.length msg)) ∧
 (((3 : Nat) ≤ (List.length [x7, x8, (0 : Int)])) ∧
 (((0 : Nat) + ((l2 + (1 : Nat)) * (1 : Nat))) ≤ (List.length ys5))))) ∧
 (((((64 : Nat) = (64 : Nat)) ∧
 (((List.length (List.take (l * (1 : Nat)) (List.drop (0 : Nat) msg))) = l) ∧
 (((List.length (List.take (3 : Nat) (List.drop (0 : Nat) [x7, x8, (0 : Int)]))) = (3 : Nat)) ∧
 ((List.length (List.take ((l2 + (1 : Nat)) * (1 : Nat)) (List.drop (0 : Nat) ys5))) = (l2 + (1 : Nat)))))) ∧
 (((((64 : Nat) + l) + (3 : Nat)) + (l2 + (1 : Nat))) ≤ (549755813888 : Nat))) ∧
 (∀ (ys9 : (List Int)), (∀ (cap10 : Nat), (∀ (n11 : Nat), ((Go.Sx.Rw ys9 ((((List.take (64 : Nat) (List.drop (0 : Nat) (List.replicate (64 : Nat) (0 : Int)))) ++ (List.take (l * (1 : Nat)) (List.drop (0 : Nat) msg))) ++ (List.take (3 : Nat) (List.drop (0 : Nat) [x7, x8, (0 : Int)]))) ++ (List.take ((l2 + (1 : Nat)) * (1 : Nat)) (List.drop (0 : Nat) ys5))) n11 cap10) → (∀ (ys12 : (List Int)), ((ys12 = ys9) → ((((0 : Nat) + (n11 * (1 : Nat))) ≤ (List.length ys12)) ∧
 ((((List.length (List.take (n11 * (1 : Nat)) (List.drop (0 : Nat) ys12))) = n11) ∧
 ((n11 ≤ (274877906944 : Nat)) ∧
 (Go.Sx.Bytes (List.take (n11 * (1 : Nat)) (List.drop (0 : Nat) ys12))))) ∧
 (∀ (ys13 : (List Int)), (∀ (cap14 : Nat), ((Go.Sx.Rw ys13 (Go.Sx.sha (List.take (n11 * (1 : Nat)) (List.drop (0 : Nat) ys12))) (32 : Nat) cap14) → (∀ (ys15 : (List Int)), ((ys15 = ys13) → ((((0 : Int) ≤ (32 : Int)) ∧
 (((32 : Int) ≤ (140737488355328 : Int)) ∧
 ((32 : Int) ≤ (140737488355328 : Int)))) ∧
 ((∃ (i016 : (Prod Nat (Prod (Prod (List Int) Nat) (Prod (List Int) Nat)))), (((Go.Sx.Rw (Prod.fst (Prod.fst (Prod.snd i016))) (Go.Sx.outN (Go.Sx.firstL msg dst n) (Go.Sx.domL dst) (Prod.fst i016)) ((32 : Nat) * (Prod.fst i016)) (Prod.snd (Prod.fst (Prod.snd i016)))) ∧
 ((Go.Sx.Rw (Prod.fst (Prod.snd (Prod.snd i016))) (Go.Sx.bI (Go.Sx.firstL msg dst n) (Go.Sx.domL dst) (Prod.fst i016)) (32 : Nat) (Prod.snd (Prod.snd (Prod.snd i016)))) ∧
 (((32 : Int) * (((Prod.fst i016) : Nat) : Int)) < (n + (32 : Int))))) ∧
 (((n = n) ∧
 ((((l2 + (1 : Nat)) = (l2 + (1 : Nat))) ∧
 (cap4 = cap4)) ∧
 ((cap14 = cap14) ∧
 ((((0 : Nat) = ((32 : Nat) * (Prod.fst i016))) ∧
 ((0 : Nat) = (Prod.snd (Prod.fst (Prod.snd i016))))) ∧
 (((32 : Nat) = (Prod.snd (Prod.snd (Prod.snd i016)))) ∧
 ((1 : Int) = ((((Prod.fst i016) : Nat) : Int) + (1 : Int)))))))) ∧
 ((ys5 = ys5) ∧
 ((ys15 = ys15) ∧
 (([] = (Prod.fst (Prod.fst (Prod.snd i016)))) ∧
 ((List.replicate (32 : Nat) (0 : Int)) = (Prod.fst (Prod.snd (Prod.snd i016)))))))))) ∧
 (∀ (i17 : (Prod Nat (Prod (Prod (List Int) Nat) (Prod (List Int) Nat)))), (((Go.Sx.Rw (Prod.fst (Prod.fst (Prod.snd i17))) (Go.Sx.outN (Go.Sx.firstL msg dst n) (Go.Sx.domL dst) (Prod.fst i17)) ((32 : Nat) * (Prod.fst i17)) (Prod.snd (Prod.fst (Prod.snd i17)))) ∧
 ((Go.Sx.Rw (Prod.fst (Prod.snd (Prod.snd i17))) (Go.Sx.bI (Go.Sx.firstL msg dst n) (Go.Sx.domL dst) (Prod.fst i17)) (32 : Nat) (Prod.snd (Prod.snd (Prod.snd i17)))) ∧
 (((32 : Int) * (((Prod.fst i17) : Nat) : Int)) < (n + (32 : Int))))) → (∀ (x18 : Int), ((x18 = ((((32 : Nat) * (Prod.fst i17)) : Nat) : Int)) → ((((decide (x18 < n)) = Bool.true) → ((∃ (i019 : (Prod Nat (Prod (List Int) Nat))), (((Go.Sx.Rw (Prod.fst (Prod.snd i019)) (List.take (Prod.fst i019) (Go.Sx.xorL ys15 (Prod.fst (Prod.snd (Prod.snd i17))))) (Prod.fst i019) (Prod.snd (Prod.snd i019))) ∧
 ((Prod.fst i019) ≤ (32 : Nat))) ∧
 (((n = n) ∧
 ((((l2 + (1 : Nat)) = (l2 + (1 : Nat))) ∧
 (cap4 = cap4)) ∧
 ((cap14 = cap14) ∧
 (((((32 : Nat) * (Prod.fst i17)) = ((32 : Nat) * (Prod.fst i17))) ∧
 ((Prod.snd (Prod.fst (Prod.snd i17))) = (Prod.snd (Prod.fst (Prod.snd i17))))) ∧
 (((Prod.snd (Prod.snd (Prod.snd i17))) = (Prod.snd (Prod.snd (Prod.snd i17)))) ∧
 ((((((Prod.fst i17) : Nat) : Int) + (1 : Int)) = ((((Prod.fst i17) : Nat) : Int) + (1 : Int))) ∧
 ((((0 : Nat) = (Prod.fst i019)) ∧
 ((0 : Nat) = (Prod.snd (Prod.snd i019)))) ∧
 ((0 : Int) = (((Prod.fst i019) : Nat) : Int))))))))) ∧
 ((ys5 = ys5) ∧
 ((ys15 = ys15) ∧
 (((Prod.fst (Prod.fst (Prod.snd i17))) = (Prod.fst (Prod.fst (Prod.snd i17)))) ∧
 (((Prod.fst (Prod.snd (Prod.snd i17))) = (Prod.fst (Prod.snd (Prod.snd i17)))) ∧
 ([] = (Prod.fst (Prod.snd i019)))))))))) ∧
 (∀ (i20 : (Prod Nat (Prod (List Int) Nat))), (((Go.Sx.Rw (Prod.fst (Prod.snd i20)) (List.take (Prod.fst i20) (Go.Sx.xorL ys15 (Prod.fst (Prod.snd (Prod.snd i17))))) (Prod.fst i20) (Prod.snd (Prod.snd i20))) ∧
 ((Prod.fst i20) ≤ (32 : Nat))) → ((((decide ((((Prod.fst i20) : Nat) : Int) < (32 : Int))) = Bool.true) → ((((0 : Int) ≤ (((Prod.fst i20) : Nat) : Int)) ∧
 ((((Prod.fst i20) : Nat) : Int) < (32 : Int))) ∧
 (((((Int.toNat (((Prod.fst i20) : Nat) : Int)) * (1 : Nat)) + (1 : Nat)) ≤ (List.length ys15)) ∧
 (∀ (x21 : Int), ((x21 = (List.getD ys15 ((Int.toNat (((Prod.fst i20) : Nat) : Int)) * (1 : Nat)) (0 : Int))) → ((((0 : Int) ≤ (((Prod.fst i20) : Nat) : Int)) ∧
 ((((Prod.fst i20) : Nat) : Int) < (32 : Int))) ∧
 (((((Int.toNat (((Prod.fst i20) : Nat) : Int)) * (1 : Nat)) + (1 : Nat)) ≤ (List.length (Prod.fst (Prod.snd (Prod.snd i17))))) ∧
 (∀ (x22 : Int), ((x22 = (List.getD (Prod.fst (Prod.snd (Prod.snd i17))) ((Int.toNat (((Prod.fst i20) : Nat) : Int)) * (1 : Nat)) (0 : Int))) → (∀ (x23 : Int), ((x23 = (Go.Sx.bxor Go.IntKind.u8 x21 x22)) → (((((Prod.fst i20) ≤ (Prod.snd (Prod.snd i20))) ∧
 (((0 : Nat) + ((Prod.snd (Prod.snd i20)) * (1 : Nat))) ≤ (List.length (Prod.fst (Prod.snd i20))))) ∧
 ((Nat.le (1 : Nat) (List.length [x23])) ∧
 (((((Prod.fst i20) + (1 : Nat)) * (1 : Nat)) ≤ (549755813888 : Nat)) ∧
 (((Prod.fst i20) + (1 : Nat)) ≤ (549755813888 : Nat))))) ∧
 (∀ (cap24 : Nat), (∀ (ys25 : (List Int)), (((((Prod.fst i20) + (1 : Nat)) ≤ cap24) ∧
 (((List.length ys25) = (cap24 * (1 : Nat))) ∧
 ((List.take (((Prod.fst i20) + (1 : Nat)) * (1 : Nat)) ys25) = ((List.take ((Prod.fst i20) * (1 : Nat)) (List.drop (0 : Nat) (Prod.fst (Prod.snd i20)))) ++ (List.take (1 : Nat) (List.drop (0 : Nat) [x23])))))) → (∀ (x26 : Int), ((x26 = (Go.IntKind.wrap Go.IntKind.i64 ((((Prod.fst i20) : Nat) : Int) + (1 : Int)))) → (∃ (x27 : (Prod Nat (Prod (List Int) Nat))), (((Go.Sx.Rw (Prod.fst (Prod.snd x27)) (List.take (Prod.fst x27) (Go.Sx.xorL ys15 (Prod.fst (Prod.snd (Prod.snd i17))))) (Prod.fst x27) (Prod.snd (Prod.snd x27))) ∧
 ((Prod.fst x27) ≤ (32 : Nat))) ∧
 ((((n = n) ∧
 ((((l2 + (1 : Nat)) = (l2 + (1 : Nat))) ∧
 (cap4 = cap4)) ∧
 ((cap14 = cap14) ∧
 (((((32 : Nat) * (Prod.fst i17)) = ((32 : Nat) * (Prod.fst i17))) ∧
 ((Prod.snd (Prod.fst (Prod.snd i17))) = (Prod.snd (Prod.fst (Prod.snd i17))))) ∧
 (((Prod.snd (Prod.snd (Prod.snd i17))) = (Prod.snd (Prod.snd (Prod.snd i17)))) ∧
 ((((((Prod.fst i17) : Nat) : Int) + (1 : Int)) = ((((Prod.fst i17) : Nat) : Int) + (1 : Int))) ∧
 (((((Prod.fst i20) + (1 : Nat)) = (Prod.fst x27)) ∧
 (cap24 = (Prod.snd (Prod.snd x27)))) ∧
 (x26 = (((Prod.fst x27) : Nat) : Int))))))))) ∧
 ((ys5 = ys5) ∧
 ((ys15 = ys15) ∧
 (((Prod.fst (Prod.fst (Prod.snd i17))) = (Prod.fst (Prod.fst (Prod.snd i17)))) ∧
 (((Prod.fst (Prod.snd (Prod.snd i17))) = (Prod.fst (Prod.snd (Prod.snd i17)))) ∧
 (ys25 = (Prod.fst (Prod.snd x27)))))))) ∧
 (((32 : Nat) - (Prod.fst x27)) < ((32 : Nat) - (Prod.fst i20))))))))))))))))))))))) ∧
 (((decide ((((Prod.fst i20) : Nat) : Int) < (32 : Int))) = Bool.false) → (∀ (x28 : Int), ((x28 = (Go.IntKind.wrap Go.IntKind.u8 ((((Prod.fst i17) : Nat) : Int) + (1 : Int)))) → (((((0 : Nat) + ((Prod.fst i20) * (1 : Nat))) ≤ (List.length (Prod.fst (Prod.snd i20)))) ∧
 (((1 : Nat) ≤ (List.length [x28])) ∧
 (((0 : Nat) + ((l2 + (1 : Nat)) * (1 : Nat))) ≤ (List.length ys5)))) ∧
 (((((List.length (List.take ((Prod.fst i20) * (1 : Nat)) (List.drop (0 : Nat) (Prod.fst (Prod.snd i20))))) = (Prod.fst i20)) ∧
 (((List.length (List.take (1 : Nat) (List.drop (0 : Nat) [x28]))) = (1 : Nat)) ∧
 ((List.length (List.take ((l2 + (1 : Nat)) * (1 : Nat)) (List.drop (0 : Nat) ys5))) = (l2 + (1 : Nat))))) ∧
 ((((Prod.fst i20) + (1 : Nat)) + (l2 + (1 : Nat))) ≤ (549755813888 : Nat))) ∧
 (∀ (ys29 : (List Int)), (∀ (cap30 : Nat), (∀ (n31 : Nat), ((Go.Sx.Rw ys29 (((List.take ((Prod.fst i20) * (1 : Nat)) (List.drop (0 : Nat) (Prod.fst (Prod.snd i20)))) ++ (List.take (1 : Nat) (List.drop (0 : Nat) [x28]))) ++ (List.take ((l2 + (1 : Nat)) * (1 : Nat)) (List.drop (0 : Nat) ys5))) n31 cap30) → (∀ (ys32 : (List Int)), ((ys32 = ys29) → ((((0 : Nat) + (n31 * (1 : Nat))) ≤ (List.length ys32)) ∧
 ((((List.length (List.take (n31 * (1 : Nat)) (List.drop (0 : Nat) ys32))) = n31) ∧
 ((n31 ≤ (274877906944 : Nat)) ∧
 (Go.Sx.Bytes (List.take (n31 * (1 : Nat)) (List.drop (0 : Nat) ys32))))) ∧
 (∀ (ys33 : (List Int)), (∀ (cap34 : Nat), ((Go.Sx.Rw ys33 (Go.Sx.sha (List.take (n31 * (1 : Nat)) (List.drop (0 : Nat) ys32))) (32 : Nat) cap34) → (∀ (ys35 : (List Int)), ((ys35 = ys33) → ((((((32 : Nat) * (Prod.fst i17)) ≤ (Prod.snd (Prod.fst (Prod.snd i17)))) ∧
 (((0 : Nat) + ((Prod.snd (Prod.fst (Prod.snd i17))) * (1 : Nat))) ≤ (List.length (Prod.fst (Prod.fst (Prod.snd i17)))))) ∧
 ((Nat.le (32 : Nat) (List.length ys35)) ∧
 ((((((32 : Nat) * (Prod.fst i17)) + (32 : Nat)) * (1 : Nat)) ≤ (549755813888 : Nat)) ∧
 ((((32 : Nat) * (Prod.fst i17)) + (32 : Nat)) ≤ (549755813888 : Nat))))) ∧
 (∀ (cap36 : Nat), (∀ (ys37 : (List Int)), ((((((32 : Nat) * (Prod.fst i17)) + (32 : Nat)) ≤ cap36) ∧
 (((List.length ys37) = (cap36 * (1 : Nat))) ∧
 ((List.take ((((32 : Nat) * (Prod.fst i17)) + (32 : Nat)) * (1 : Nat)) ys37) = ((List.take (((32 : Nat) * (Prod.fst i17)) * (1 : Nat)) (List.drop (0 : Nat) (Prod.fst (Prod.fst (Prod.snd i17))))) ++ (List.take (32 : Nat) (List.drop (0 : Nat) ys35)))))) → (∀ (x38 : Int), ((x38 = (Go.IntKind.wrap Go.IntKind.i64 (((((Prod.fst i17) : Nat) : Int) + (1 : Int)) + (1 : Int)))) → (∃ (x39 : (Prod Nat (Prod (Prod (List Int) Nat) (Prod (List Int) Nat)))), (((Go.Sx.Rw (Prod.fst (Prod.fst (Prod.snd x39))) (Go.Sx.outN (Go.Sx.firstL msg dst n) (Go.Sx.domL dst) (Prod.fst x39)) ((32 : Nat) * (Prod.fst x39)) (Prod.snd (Prod.fst (Prod.snd x39)))) ∧
 ((Go.Sx.Rw (Prod.fst (Prod.snd (Prod.snd x39))) (Go.Sx.bI (Go.Sx.firstL msg dst n) (Go.Sx.domL dst) (Prod.fst x39)) (32 : Nat) (Prod.snd (Prod.snd (Prod.snd x39)))) ∧
 (((32 : Int) * (((Prod.fst x39) : Nat) : Int)) < (n + (32 : Int))))) ∧
 ((((n = n) ∧
 ((((l2 + (1 : Nat)) = (l2 + (1 : Nat))) ∧
 (cap4 = cap4)) ∧
 ((cap14 = cap14) ∧
 ((((((32 : Nat) * (Prod.fst i17)) + (32 : Nat)) = ((32 : Nat) * (Prod.fst x39))) ∧
 (cap36 = (Prod.snd (Prod.fst (Prod.snd x39))))) ∧
 ((cap34 = (Prod.snd (Prod.snd (Prod.snd x39)))) ∧
 (x38 = ((((Prod.fst x39) : Nat) : Int) + (1 : Int)))))))) ∧
 ((ys5 = ys5) ∧
 ((ys15 = ys15) ∧
 ((ys37 = (Prod.fst (Prod.fst (Prod.snd x39)))) ∧
 (ys35 = (Prod.fst (Prod.snd (Prod.snd x39)))))))) ∧
 ((((Int.toNat n) + (32 : Nat)) - ((32 : Nat) * (Prod.fst x39))) < (((Int.toNat n) + (32 : Nat)) - ((32 : Nat) * (Prod.fst i17)))))))))))))))))))))))))))))))))))) ∧
 (((decide (x18 < n)) = Bool.false) → ((((0 : Int) ≤ n) ∧
 (n ≤ (((Prod.snd (Prod.fst (Prod.snd i17))) : Nat) : Int))) ∧
 (K (Go.Sx.SV.slice (737 : Nat) (Go.Sx.N.lit (0 : Nat)) (Go.Sx.N.sym ((Int.toNat n) - (0 : Nat))) (Go.Sx.N.sym ((Prod.snd (Prod.fst (Prod.snd i17))) - (0 : Nat)))) (Go.Sx.memL [((577 : Nat), (Go.Sx.Reg.mk Bool.false (Go.Sx.Ct.ints Go.IntKind.u8 ys5))), ((681 : Nat), (Go.Sx.Reg.mk Bool.false (Go.Sx.Ct.ints Go.IntKind.u8 ys15))), ((737 : Nat), (Go.Sx.Reg.mk Bool.false (Go.Sx.Ct.ints Go.IntKind.u8 (Prod.fst (Prod.fst (Prod.snd i17)))))), ((739 : Nat), (Go.Sx.Reg.mk Bool.false (Go.Sx.Ct.ints Go.IntKind.u8 (Prod.fst (Prod.snd (Prod.snd i17))))))])))))))))))))))))))))))))))))))))))))))))))))) := by kernel_rfl
theorem vc_sen (dst : List Int) (l2 c2 : Nat) (n : Int) (K : SV → Mem → Prop) : (execF cxSE (uSE [] dst n) Tryd.f6 64 [.val (.slice none 0 0), .slice 1 (.lit 0) (.sym l2) (.sym c2), .int .i64 (.sym n)] (memL [(1, ⟨true, .ints .u8 dst⟩)]) K) =
  ((((((0 : Nat) ≤ (0 : Nat)) ∧
 ((0 : Nat) ≤ (0 : Nat))) ∧
 ((Nat.le ((0 : Nat) + (l2 * (1 : Nat))) (List.length dst)) ∧
 (((((0 : Nat) + l2) * (1 : Nat)) ≤ (549755813888 : Nat)) ∧
 (((0 : Nat) + l2) ≤ (549755813888 : Nat))))) ∧
 (∀ (cap0 : Nat), (∀ (ys1 : (List Int)), (((((0 : Nat) + l2) ≤ cap0) ∧
 (((List.length ys1) = (cap0 * (1 : Nat))) ∧
 ((List.take (((0 : Nat) + l2) * (1 : Nat)) ys1) = ((List.take (0 : Nat) (List.drop (0 : Nat) [])) ++ (List.take (l2 * (1 : Nat)) (List.drop (0 : Nat) dst)))))) → (∀ (x2 : Int), ((x2 = ((l2 : Nat) : Int)) → (∀ (x3 : Int), ((x3 = (Go.IntKind.wrap Go.IntKind.u8 x2)) → ((((l2 ≤ cap0) ∧
 (((0 : Nat) + (cap0 * (1 : Nat))) ≤ (List.length ys1))) ∧
 ((Nat.le (1 : Nat) (List.length [x3])) ∧
 ((((l2 + (1 : Nat)) * (1 : Nat)) ≤ (549755813888 : Nat)) ∧
 ((l2 + (1 : Nat)) ≤ (549755813888 : Nat))))) ∧
 (∀ (cap4 : Nat), (∀ (ys5 : (List Int)), ((((l2 + (1 : Nat)) ≤ cap4) ∧
 (((List.length ys5) = (cap4 * (1 : Nat))) ∧
 ((List.take ((l2 + (1 : Nat)) * (1 : Nat)) ys5) = ((List.take (l2 * (1 : Nat)) (List.drop (0 : Nat) ys1)) ++ (List.take (1 : Nat) (List.drop (0 : Nat) [x3])))))) → ((((0 : Int) ≤ (64 : Int)) ∧
 (((64 : Int) ≤ (140737488355328 : Int)) ∧
 ((64 : Int) ≤ (140737488355328 : Int)))) ∧
 (∀ (x6 : Int), ((x6 = (Go.IntKind.wrap Go.IntKind.i64 (Int.tdiv n (256 : Int)))) → (∀ (x7 : Int), ((x7 = (Go.IntKind.wrap Go.IntKind.u8 x6)) → (∀ (x8 : Int), ((x8 = (Go.IntKind.wrap Go.IntKind.u8 n)) → ((((64 : Nat) ≤ (64 : Nat)) ∧
 (((3 : Nat) ≤ (List.length [x7, x8, (0 : Int)])) ∧
 (((0 : Nat) + ((l2 + (1 : Nat)) * (1 : Nat))) ≤ (List.length ys5)))) ∧
 (((((64 : Nat) = (64 : Nat)) ∧
 (((List.length (List.take (3 : Nat) (List.drop (0 : Nat) [x7, x8, (0 : Int)]))) = (3 : Nat)) ∧
 ((List.length (List.take ((l2 + (1 : Nat)) * (1 : Nat)) (List.drop (0 : Nat) ys5))) = (l2 + (1 : Nat))))) ∧
 (((67 : Nat) + (l2 + (1 : Nat))) ≤ (549755813888 : Nat))) ∧
 (∀ (ys9 : (List Int)), (∀ (cap10 : Nat), (∀ (n11 : Nat), ((Go.Sx.Rw ys9 (((List.take (64 : Nat) (List.drop (0 : Nat) (List.replicate (64 : Nat) (0 : Int)))) ++ (List.take (3 : Nat) (List.drop (0 : Nat) [x7, x8, (0 : Int)]))) ++ (List.take ((l2 + (1 : Nat)) * (1 : Nat)) (List.drop (0 : Nat) ys5))) n11 cap10) → (∀ (ys12 : (List Int)), ((ys12 = ys9) → ((((0 : Nat) + (n11 * (1 : Nat))) ≤ (List.length ys12)) ∧
 ((((List.length (List.take (n11 * (1 : Nat)) (List.drop (0 : Nat) ys12))) = n11) ∧
 ((n11 ≤ (274877906944 : Nat)) ∧
 (Go.Sx.Bytes (List.take (n11 * (1 : Nat)) (List.drop (0 : Nat) ys12))))) ∧
 (∀ (ys13 : (List Int)), (∀ (cap14 : Nat), ((Go.Sx.Rw ys13 (Go.Sx.sha (List.take (n11 * (1 : Nat)) (List.drop (0 : Nat) ys12))) (32 : Nat) cap14) → (∀ (ys15 : (List Int)), ((ys15 = ys13) → ((((0 : Int) ≤ (32 : Int)) ∧
 (((32 : Int) ≤ (140737488355328 : Int)) ∧
 ((32 : Int) ≤ (140737488355328 : Int)))) ∧
 ((∃ (i016 : (Prod Nat (Prod (Prod (List Int) Nat) (Prod (List Int) Nat)))), (((Go.Sx.Rw (Prod.fst (Prod.fst (Prod.snd i016))) (Go.Sx.outN (Go.Sx.firstL [] dst n) (Go.Sx.domL dst) (Prod.fst i016)) ((32 : Nat) * (Prod.fst i016)) (Prod.snd (Prod.fst (Prod.snd i016)))) ∧
 ((Go.Sx.Rw (Prod.fst (Prod.snd (Prod.snd i016))) (Go.Sx.bI (Go.Sx.firstL [] dst n) (Go.Sx.domL dst) (Prod.fst i016)) (32 : Nat) (Prod.snd (Prod.snd (Prod.snd i016)))) ∧
 (((32 : Int) * (((Prod.fst i016) : Nat) : Int)) < (n + (32 : Int))))) ∧
 (((n = n) ∧
 ((((l2 + (1 : Nat)) = (l2 + (1 : Nat))) ∧
 (cap4 = cap4)) ∧
 ((cap14 = cap14) ∧
 ((((0 : Nat) = ((32 : Nat) * (Prod.fst i016))) ∧
 ((0 : Nat) = (Prod.snd (Prod.fst (Prod.snd i016))))) ∧
 (((32 : Nat) = (Prod.snd (Prod.snd (Prod.snd i016)))) ∧
 ((1 : Int) = ((((Prod.fst i016) : Nat) : Int) + (1 : Int)))))))) ∧
 ((ys5 = ys5) ∧
 ((ys15 = ys15) ∧
 (([] = (Prod.fst (Prod.fst (Prod.snd i016)))) ∧
 ((List.replicate (32 : Nat) (0 : Int)) = (Prod.fst (Prod.snd (Prod.snd i016)))))))))) ∧
 (∀ (i17 : (Prod Nat (Prod (Prod (List Int) Nat) (Prod (List Int) Nat)))), (((Go.Sx.Rw (Prod.fst (Prod.fst (Prod.snd i17))) (Go.Sx.outN (Go.Sx.firstL [] dst n) (Go.Sx.domL dst) (Prod.fst i17)) ((32 : Nat) * (Prod.fst i17)) (Prod.snd (Prod.fst (Prod.snd i17)))) ∧
 ((Go.Sx.Rw (Prod.fst (Prod.snd (Prod.snd i17))) (Go.Sx.bI (Go.Sx.firstL [] dst n) (Go.Sx.domL dst) (Prod.fst i17)) (32 : Nat) (Prod.snd (Prod.snd (Prod.snd i17)))) ∧
 (((32 : Int) * (((Prod.fst i17) : Nat) : Int)) < (n + (32 : Int))))) → (∀ (x18 : Int), ((x18 = ((((32 : Nat) * (Prod.fst i17)) : Nat) : Int)) → ((((decide (x18 < n)) = Bool.true) → ((∃ (i019 : (Prod Nat (Prod (List Int) Nat))), (((Go.Sx.Rw (Prod.fst (Prod.snd i019)) (List.take (Prod.fst i019) (Go.Sx.xorL ys15 (Prod.fst (Prod.snd (Prod.snd i17))))) (Prod.fst i019) (Prod.snd (Prod.snd i019))) ∧
 ((Prod.fst i019) ≤ (32 : Nat))) ∧
 (((n = n) ∧
 ((((l2 + (1 : Nat)) = (l2 + (1 : Nat))) ∧
 (cap4 = cap4)) ∧
 ((cap14 = cap14) ∧
 (((((32 : Nat) * (Prod.fst i17)) = ((32 : Nat) * (Prod.fst i17))) ∧
 ((Prod.snd (Prod.fst (Prod.snd i17))) = (Prod.snd (Prod.fst (Prod.snd i17))))) ∧
 (((Prod.snd (Prod.snd (Prod.snd i17))) = (Prod.snd (Prod.snd (Prod.snd i17)))) ∧
 ((((((Prod.fst i17) : Nat) : Int) + (1 : Int)) = ((((Prod.fst i17) : Nat) : Int) + (1 : Int))) ∧
 ((((0 : Nat) = (Prod.fst i019)) ∧
 ((0 : Nat) = (Prod.snd (Prod.snd i019)))) ∧
 ((0 : Int) = (((Prod.fst i019) : Nat) : Int))))))))) ∧
 ((ys5 = ys5) ∧
 ((ys15 = ys15) ∧
 (((Prod.fst (Prod.fst (Prod.snd i17))) = (Prod.fst (Prod.fst (Prod.snd i17)))) ∧
 (((Prod.fst (Prod.snd (Prod.snd i17))) = (Prod.fst (Prod.snd (Prod.snd i17)))) ∧
 ([] = (Prod.fst (Prod.snd i019)))))))))) ∧
 (∀ (i20 : (Prod Nat (Prod (List Int) Nat))), (((Go.Sx.Rw (Prod.fst (Prod.snd i20)) (List.take (Prod.fst i20) (Go.Sx.xorL ys15 (Prod.fst (Prod.snd (Prod.snd i17))))) (Prod.fst i20) (Prod.snd (Prod.snd i20))) ∧
 ((Prod.fst i20) ≤ (32 : Nat))) → ((((decide ((((Prod.fst i20) : Nat) : Int) < (32 : Int))) = Bool.true) → ((((0 : Int) ≤ (((Prod.fst i20) : Nat) : Int)) ∧
 ((((Prod.fst i20) : Nat) : Int) < (32 : Int))) ∧
 (((((Int.toNat (((Prod.fst i20) : Nat) : Int)) * (1 : Nat)) + (1 : Nat)) ≤ (List.length ys15)) ∧
 (∀ (x21 : Int), ((x21 = (List.getD ys15 ((Int.toNat (((Prod.fst i20) : Nat) : Int)) * (1 : Nat)) (0 : Int))) → ((((0 : Int) ≤ (((Prod.fst i20) : Nat) : Int)) ∧
 ((((Prod.fst i20) : Nat) : Int) < (32 : Int))) ∧
 (((((Int.toNat (((Prod.fst i20) : Nat) : Int)) * (1 : Nat)) + (1 : Nat)) ≤ (List.length (Prod.fst (Prod.snd (Prod.snd i17))))) ∧
 (∀ (x22 : Int), ((x22 = (List.getD (Prod.fst (Prod.snd (Prod.snd i17))) ((Int.toNat (((Prod.fst i20) : Nat) : Int)) * (1 : Nat)) (0 : Int))) → (∀ (x23 : Int), ((x23 = (Go.Sx.bxor Go.IntKind.u8 x21 x22)) → (((((Prod.fst i20) ≤ (Prod.snd (Prod.snd i20))) ∧
 (((0 : Nat) + ((Prod.snd (Prod.snd i20)) * (1 : Nat))) ≤ (List.length (Prod.fst (Prod.snd i20))))) ∧
 ((Nat.le (1 : Nat) (List.length [x23])) ∧
 (((((Prod.fst i20) + (1 : Nat)) * (1 : Nat)) ≤ (549755813888 : Nat)) ∧
 (((Prod.fst i20) + (1 : Nat)) ≤ (549755813888 : Nat))))) ∧
 (∀ (cap24 : Nat), (∀ (ys25 : (List Int)), (((((Prod.fst i20) + (1 : Nat)) ≤ cap24) ∧
 (((List.length ys25) = (cap24 * (1 : Nat))) ∧
 ((List.take (((Prod.fst i20) + (1 : Nat)) * (1 : Nat)) ys25) = ((List.take ((Prod.fst i20) * (1 : Nat)) (List.drop (0 : Nat) (Prod.fst (Prod.snd i20)))) ++ (List.take (1 : Nat) (List.drop (0 : Nat) [x23])))))) → (∀ (x26 : Int), ((x26 = (Go.IntKind.wrap Go.IntKind.i64 ((((Prod.fst i20) : Nat) : Int) + (1 : Int)))) → (∃ (x27 : (Prod Nat (Prod (List Int) Nat))), (((Go.Sx.Rw (Prod.fst (Prod.snd x27)) (List.take (Prod.fst x27) (Go.Sx.xorL ys15 (Prod.fst (Prod.snd (Prod.snd i17))))) (Prod.fst x27) (Prod.snd (Prod.snd x27))) ∧
 ((Prod.fst x27) ≤ (32 : Nat))) ∧
 ((((n = n) ∧
 ((((l2 + (1 : Nat)) = (l2 + (1 : Nat))) ∧
 (cap4 = cap4)) ∧
 ((cap14 = cap14) ∧
 (((((32 : Nat) * (Prod.fst i17)) = ((32 : Nat) * (Prod.fst i17))) ∧
 ((Prod.snd (Prod.fst (Prod.snd i17))) = (Prod.snd (Prod.fst (Prod.snd i17))))) ∧
 (((Prod.snd (Prod.snd (Prod.snd i17))) = (Prod.snd (Prod.snd (Prod.snd i17)))) ∧
 ((((((Prod.fst i17) : Nat) : Int) + (1 : Int)) = ((((Prod.fst i17) : Nat) : Int) + (1 : Int))) ∧
 (((((Prod.fst i20) + (1 : Nat)) = (Prod.fst x27)) ∧
 (cap24 = (Prod.snd (Prod.snd x27)))) ∧
 (x26 = (((Prod.fst x27) : Nat) : Int))))))))) ∧
 ((ys5 = ys5) ∧
 ((ys15 = ys15) ∧
 (((Prod.fst (Prod.fst (Prod.snd i17))) = (Prod.fst (Prod.fst (Prod.snd i17)))) ∧
 (((Prod.fst (Prod.snd (Prod.snd i17))) = (Prod.fst (Prod.snd (Prod.snd i17)))) ∧
 (ys25 = (Prod.fst (Prod.snd x27)))))))) ∧
 (((32 : Nat) - (Prod.fst x27)) < ((32 : Nat) - (Prod.fst i20))))))))))))))))))))))) ∧
 (((decide ((((Prod.fst i20) : Nat) : Int) < (32 : Int))) = Bool.false) → (∀ (x28 : Int), ((x28 = (Go.IntKind.wrap Go.IntKind.u8 ((((Prod.fst i17) : Nat) : Int) + (1 : Int)))) → (((((0 : Nat) + ((Prod.fst i20) * (1 : Nat))) ≤ (List.length (Prod.fst (Prod.snd i20)))) ∧
 (((1 : Nat) ≤ (List.length [x28])) ∧
 (((0 : Nat) + ((l2 + (1 : Nat)) * (1 : Nat))) ≤ (List.length ys5)))) ∧
 (((((List.length (List.take ((Prod.fst i20) * (1 : Nat)) (List.drop (0 : Nat) (Prod.fst (Prod.snd i20))))) = (Prod.fst i20)) ∧
 (((List.length (List.take (1 : Nat) (List.drop (0 : Nat) [x28]))) = (1 : Nat)) ∧
 ((List.length (List.take ((l2 + (1 : Nat)) * (1 : Nat)) (List.drop (0 : Nat) ys5))) = (l2 + (1 : Nat))))) ∧
 ((((Prod.fst i20) + (1 : Nat)) + (l2 + (1 : Nat))) ≤ (549755813888 : Nat))) ∧
 (∀ (ys29 : (List Int)), (∀ (cap30 : Nat), (∀ (n31 : Nat), ((Go.Sx.Rw ys29 (((List.take ((Prod.fst i20) * (1 : Nat)) (List.drop (0 : Nat) (Prod.fst (Prod.snd i20)))) ++ (List.take (1 : Nat) (List.drop (0 : Nat) [x28]))) ++ (List.take ((l2 + (1 : Nat)) * (1 : Nat)) (List.drop (0 : Nat) ys5))) n31 cap30) → (∀ (ys32 : (List Int)), ((ys32 = ys29) → ((((0 : Nat) + (n31 * (1 : Nat))) ≤ (List.length ys32)) ∧
 ((((List.length (List.take (n31 * (1 : Nat)) (List.drop (0 : Nat) ys32))) = n31) ∧
 ((n31 ≤ (274877906944 : Nat)) ∧
 (Go.Sx.Bytes (List.take (n31 * (1 : Nat)) (List.drop (0 : Nat) ys32))))) ∧
 (∀ (ys33 : (List Int)), (∀ (cap34 : Nat), ((Go.Sx.Rw ys33 (Go.Sx.sha (List.take (n31 * (1 : Nat)) (List.drop (0 : Nat) ys32))) (32 : Nat) cap34) → (∀ (ys35 : (List Int)), ((ys35 = ys33) → ((((((32 : Nat) * (Prod.fst i17)) ≤ (Prod.snd (Prod.fst (Prod.snd i17)))) ∧
 (((0 : Nat) + ((Prod.snd (Prod.fst (Prod.snd i17))) * (1 : Nat))) ≤ (List.length (Prod.fst (Prod.fst (Prod.snd i17)))))) ∧
 ((Nat.le (32 : Nat) (List.length ys35)) ∧
 ((((((32 : Nat) * (Prod.fst i17)) + (32 : Nat)) * (1 : Nat)) ≤ (549755813888 : Nat)) ∧
 ((((32 : Nat) * (Prod.fst i17)) + (32 : Nat)) ≤ (549755813888 : Nat))))) ∧
 (∀ (cap36 : Nat), (∀ (ys37 : (List Int)), ((((((32 : Nat) * (Prod.fst i17)) + (32 : Nat)) ≤ cap36) ∧
 (((List.length ys37) = (cap36 * (1 : Nat))) ∧
 ((List.take ((((32 : Nat) * (Prod.fst i17)) + (32 : Nat)) * (1 : Nat)) ys37) = ((List.take (((32 : Nat) * (Prod.fst i17)) * (1 : Nat)) (List.drop (0 : Nat) (Prod.fst (Prod.fst (Prod.snd i17))))) ++ (List.take (32 : Nat) (List.drop (0 : Nat) ys35)))))) → (∀ (x38 : Int), ((x38 = (Go.IntKind.wrap Go.IntKind.i64 (((((Prod.fst i17) : Nat) : Int) + (1 : Int)) + (1 : Int)))) → (∃ (x39 : (Prod Nat (Prod (Prod (List Int) Nat) (Prod (List Int) Nat)))), (((Go.Sx.Rw (Prod.fst (Prod.fst (Prod.snd x39))) (Go.Sx.outN (Go.Sx.firstL [] dst n) (Go.Sx.domL dst) (Prod.fst x39)) ((32 : Nat) * (Prod.fst x39)) (Prod.snd (Prod.fst (Prod.snd x39)))) ∧
 ((Go.Sx.Rw (Prod.fst (Prod.snd (Prod.snd x39))) (Go.Sx.bI (Go.Sx.firstL [] dst n) (Go.Sx.domL dst) (Prod.fst x39)) (32 : Nat) (Prod.snd (Prod.snd (Prod.snd x39)))) ∧
 (((32 : Int) * (((Prod.fst x39) : Nat) : Int)) < (n + (32 : Int))))) ∧
 ((((n = n) ∧
 ((((l2 + (1 : Nat)) = (l2 + (1 : Nat))) ∧
 (cap4 = cap4)) ∧
 ((cap14 = cap14) ∧
 ((((((32 : Nat) * (Prod.fst i17)) + (32 : Nat)) = ((32 : Nat) * (Prod.fst x39))) ∧
 (cap36 = (Prod.snd (Prod.fst (Prod.snd x39))))) ∧
 ((cap34 = (Prod.snd (Prod.snd (Prod.snd x39)))) ∧
 (x38 = ((((Prod.fst x39) : Nat) : Int) + (1 : Int)))))))) ∧
 ((ys5 = ys5) ∧
 ((ys15 = ys15) ∧
 ((ys37 = (Prod.fst (Prod.fst (Prod.snd x39)))) ∧
 (ys35 = (Prod.fst (Prod.snd (Prod.snd x39)))))))) ∧
 ((((Int.toNat n) + (32 : Nat)) - ((32 : Nat) * (Prod.fst x39))) < (((Int.toNat n) + (32 : Nat)) - ((32 : Nat) * (Prod.fst i17)))))))))))))))))))))))))))))))))))) ∧
 (((decide (x18 < n)) = Bool.false) → ((((0 : Int) ≤ n) ∧
 (n ≤ (((Prod.snd (Prod.fst (Prod.snd i17))) : Nat) : Int))) ∧
 (K (Go.Sx.SV.slice (737 : Nat) (Go.Sx.N.lit (0 : Nat)) (Go.Sx.N.sym ((Int.toNat n) - (0 : Nat))) (Go.Sx.N.sym ((Prod.snd (Prod.fst (Prod.snd i17))) - (0 : Nat)))) (Go.Sx.memL [((577 : Nat), (Go.Sx.Reg.mk Bool.false (Go.Sx.Ct.ints Go.IntKind.u8 ys5))), ((681 : Nat), (Go.Sx.Reg.mk Bool.false (Go.Sx.Ct.ints Go.IntKind.u8 ys15))), ((737 : Nat), (Go.Sx.Reg.mk Bool.false (Go.Sx.Ct.ints Go.IntKind.u8 (Prod.fst (Prod.fst (Prod.snd i17)))))), ((739 : Nat), (Go.Sx.Reg.mk Bool.false (Go.Sx.Ct.ints Go.IntKind.u8 (Prod.fst (Prod.snd (Prod.snd i17))))))])))))))))))))))))))))))))))))))))))))))))))))) := by kernel_rfl
end Go.Sx

/- spec.Expand: what it computes. -/
namespace Go.Sx
open Go Go.Proofs
set_option maxRecDepth 100000
set_option maxHeartbeats 4000000
theorem take1 (xs : List Int) {l : Nat} (h : xs.length = l) : List.take (l * 1) (List.drop 0 xs) = xs := by
  rw [Nat.mul_one, List.drop_zero, List.take_of_length_le (by omega)]
theorem Rw.take1 {ys xs : List Int} {n cap : Nat} (h : Rw ys xs n cap) : List.take (n * 1) (List.drop 0 ys) = xs := by
  rw [Nat.mul_one, List.drop_zero, h.row]
theorem Rw.getD {ys xs : List Int} {n cap k : Nat} (h : Rw ys xs n cap) (hk : k < n) : ys.getD k 0 = xs.getD k 0 := by
  rw [← h.row]
  simp [List.getD_eq_getElem?_getD, List.getElem?_take, hk]
theorem Rw.cut {ys xs : List Int} {n m cap : Nat} (h : Rw ys xs n cap) (hm : m ≤ n) : Rw ys (xs.take m) m cap :=
  ⟨by rw [List.length_take, h.xl]; omega, Nat.le_trans hm h.le, h.len, by rw [← h.row, List.take_take, Nat.min_eq_left hm]⟩
theorem bytes3 {x y : Int} : Bytes [IntKind.u8.wrap x, IntKind.u8.wrap y, 0] := by
  intro z hz
  simp only [List.mem_cons, List.not_mem_nil, or_false] at hz
  rcases hz with rfl | rfl | rfl
  · exact u8_range _
  · exact u8_range _
  · omega
theorem bytes1 {x : Int} : Bytes [IntKind.u8.wrap x] := by
  intro z hz
  simp only [List.mem_cons, List.not_mem_nil, or_false] at hz
  rw [hz]
  exact u8_range _
theorem bytes0 (n : Nat) : Bytes (List.replicate n 0) := by
  intro z hz
  rw [(List.mem_replicate.1 hz).2]
  omega
theorem expand_eq {msg dst : List Int} {n i : Nat} (h1 : n ≤ 32 * i) (h2 : 32 * i < n + 32) : expand msg dst n = (outN (firstL msg dst n) (domL dst) i).take n := by
  unfold expand
  rw [show (n + 31) / 32 = i by omega]
theorem expand_length (msg dst : List Int) (n : Nat) : (expand msg dst n).length = n := by
  unfold expand
  rw [List.length_take, outN_length]
  omega
theorem expand_bytes (msg dst : List Int) (n : Nat) : Bytes (expand msg dst n) := by
  unfold expand
  refine Bytes.take ?_ _
  generalize (n + 31) / 32 = k
  induction k with
  | zero => exact Bytes.nil
  | succ k ih => exact ih.append (bI_bytes _ _ _)
theorem se_walk (msg dst : List Int) (l c l2 c2 : Nat) (n : Int) (K : SV → Mem → Prop) (hl : msg.length = l) (hl2 : dst.length = l2) (hb : Bytes msg) (hb2 : Bytes dst) (h1 : l ≤ 65536) (h2 : l2 ≤ 65536) (hn : 0 ≤ n) (hn2 : n ≤ 65536) (hup : KUp K)
    (hK : ∀ ys cap, Rw ys (expand msg dst n.toNat) n.toNat cap → K (.slice 737 (.lit 0) (.sym n.toNat) (.sym cap)) (memL [(737, ⟨false, .ints .u8 ys⟩)])) :
    execF cxSE (uSE msg dst n) Tryd.f6 64 [.slice 1 (.lit 0) (.sym l) (.sym c), .slice 9 (.lit 0) (.sym l2) (.sym c2), .int .i64 (.sym n)] (memL [(1, ⟨true, .ints .u8 msg⟩), (9, ⟨true, .ints .u8 dst⟩)]) K := by
  rw [vc_se]
  obtain ⟨nn, hnn⟩ : ∃ nn : Nat, n = (nn : Int) := ⟨n.toNat, by omega⟩
  refine ⟨⟨by omega, nle (by omega), by omega, by omega⟩, fun cap0 ys1 e0 => ?_⟩
  have r0 := Rw.first hl2 e0
  rintro x2 rfl x3 rfl
  refine ⟨⟨r0.fits, nle (Nat.le_refl _), by omega, by omega⟩, fun cap4 ys5 e4 => ?_⟩
  have rD := r0.next (zs := [IntKind.u8.wrap ((l2 : Nat) : Int)]) (m := 1) rfl e4
  have hD : dst ++ [IntKind.u8.wrap ((l2 : Nat) : Int)] = domL dst := by unfold domL; rw [hl2]
  rw [hD] at rD
  have hDb := domL_bytes hb2
  have hDl := rD.le
  have hDn := rD.len
  refine ⟨by omega, ?_⟩
  rintro x6 rfl x7 rfl x8 rfl
  refine ⟨⟨by omega, by omega, nle (Nat.le_refl _), by omega⟩, ?_⟩
  refine ⟨⟨⟨rfl, by rw [take1 _ hl, hl], rfl, by rw [rD.take1, rD.xl]⟩, by omega⟩, ?_⟩
  rintro ys9 cap10 n11 rJ ys12 rfl
  have hJ := rJ.le
  have hJn := rJ.len
  have hJx := rJ.xl
  rw [take1 _ hl, rD.take1] at rJ hJx
  have hMl : n11 = 64 + l + 3 + (l2 + 1) := by
    rw [← hJx]
    simp only [List.length_append, domL_length, hl2]
    simp [hl]
  refine ⟨by omega, ⟨by rw [rJ.take1, rJ.xl], by omega, by
    rw [rJ.take1]
    exact (((((bytes0 64).drop 0).take 64).append hb).append ((bytes3.drop 0).take 3)).append hDb⟩, ?_⟩
  rintro ys13 cap14 rF ys15 rfl
  rw [rJ.take1] at rF
  have rF : Rw ys15 (firstL msg dst n) 32 cap14 := rF
  have hFl := rF.le
  have hFn := rF.len
  refine ⟨by omega, ?_⟩
  refine ⟨⟨(0, ([], 0), (List.replicate 32 0, 32)), ⟨⟨rfl, Nat.le_refl _, rfl, rfl⟩, ⟨by simp [bI], Nat.le_refl _, by simp, by simp [bI]⟩, by simp only; omega⟩, ?_⟩, ?_⟩
  · repeat' apply And.intro
    all_goals first | trivial | rfl
  rintro ⟨i, ⟨oy, oc⟩, ⟨ly, lc⟩⟩ ⟨rO, rL, hi⟩ x18 rfl
  simp only at rO rL hi
  simp only
  have hLl := rL.le
  have hLn := rL.len
  refine ⟨fun hlt => ?_, fun hlt => ?_⟩
  · simp only [decide_eq_true_eq] at hlt
    refine ⟨⟨(0, [], 0), ⟨⟨rfl, Nat.le_refl _, rfl, rfl⟩, by simp⟩, ?_⟩, ?_⟩
    · repeat' apply And.intro
      all_goals first | trivial | rfl
    rintro ⟨k, my, mc⟩ ⟨rM, hk⟩
    simp only at rM hk
    simp only [Int.toNat_natCast, Nat.mul_one]
    refine ⟨fun hk1 => ?_, fun hk1 => ?_⟩
    · simp only [decide_eq_true_eq] at hk1
      refine ⟨by omega, by omega, ?_⟩
      rintro x21 rfl
      refine ⟨by omega, by omega, ?_⟩
      rintro x22 rfl x23 hx23
      refine ⟨⟨⟨rM.le, by rw [rM.len]; omega⟩, nle (Nat.le_refl _), by omega, by omega⟩, fun cap24 ys25 e24 => ?_⟩
      have rM2 := rM.next (zs := [x23]) (m := 1) rfl (by simpa only [Nat.mul_one] using e24)
      rw [hx23, ← xorL_take (by omega)] at rM2
      rintro x26 hx26
      rw [wrap64 (by omega) (by omega)] at hx26
      refine ⟨(k + 1, ys25, cap24), ⟨rM2, by simp only; omega⟩, ?_, by simp only; omega⟩
      repeat' apply And.intro
      all_goals first | trivial | rfl | (simp only; omega)
    simp only [decide_eq_false_iff_not] at hk1
    obtain rfl : k = 32 := by omega
    rw [List.take_of_length_le (by rw [xorL_length]; exact Nat.le_refl _)] at rM
    have hxor : xorL ys15 ly = xorL (firstL msg dst n) (bI (firstL msg dst n) (domL dst) i) := xorL_congr (by rw [rF.row, List.take_of_length_le (by rw [rF.xl]; exact Nat.le_refl _)]) (by rw [rL.row, List.take_of_length_le (by rw [rL.xl]; exact Nat.le_refl _)])
    rw [hxor] at rM
    have hMl2 := rM.le
    have hMn2 := rM.len
    rintro x28 rfl
    refine ⟨⟨by omega, Nat.le_refl _, by omega⟩, ?_⟩
    have t1 := rM.take1
    have t2 := rD.take1
    rw [Nat.mul_one] at t1 t2
    rw [t1, t2, rD.xl]
    refine ⟨⟨⟨rM.xl, rfl, rfl⟩, by omega⟩, ?_⟩
    rintro ys29 cap30 n31 rJ2 ys32 rfl
    have hJ2 := rJ2.le
    have hJ2n := rJ2.len
    have hJ2x := rJ2.xl
    have hMl3 : n31 = 32 + 1 + (l2 + 1) := by
      rw [← hJ2x]
      simp only [List.length_append, domL_length, hl2, xorL_length]
      simp
    have t3 := rJ2.take1
    rw [Nat.mul_one] at t3
    rw [t3]
    refine ⟨by omega, ⟨rJ2.xl, by omega, ((xorL_bytes _ _).append bytes1).append hDb⟩, ?_⟩
    rintro ys33 cap34 rB ys35 rfl
    have rB : Rw ys35 (bI (firstL msg dst n) (domL dst) (i + 1)) 32 cap34 := rB
    have hBl := rB.le
    have hBn := rB.len
    refine ⟨⟨⟨rO.le, by rw [rO.len]; omega⟩, nle (by omega), by omega, by omega⟩, fun cap36 ys37 e36 => ?_⟩
    have rO2 : Rw ys37 (outN (firstL msg dst n) (domL dst) (i + 1)) (32 * i + 32) cap36 := by
      refine rO.step (rB.xl) e36.1 e36.2.1 ?_
      have := e36.2.2
      rw [List.drop_zero, List.drop_zero, rB.row] at this
      exact this
    rintro x38 hx38
    rw [wrap64 (by omega) (by omega)] at hx38
    refine ⟨(i + 1, (ys37, cap36), (ys35, cap34)), ⟨rO2, rB, by simp only; omega⟩, ?_, by simp only; omega⟩
    repeat' apply And.intro
    all_goals first | trivial | rfl | (simp only; omega)
  simp only [decide_eq_false_iff_not] at hlt
  have hOl := rO.le
  refine ⟨by omega, ?_⟩
  have hE : expand msg dst n.toNat = (outN (firstL msg dst n) (domL dst) i).take n.toNat := by
    rw [expand_eq (i := i) (by omega) (by omega), hnn, Int.toNat_natCast]
  have rR := rO.cut (m := n.toNat) (by omega)
  rw [← hE] at rR
  exact hup.le (memL_sub [577, 681, 737, 739] rfl (by decide) (by
    intro x hx
    simp only [List.mem_cons, List.not_mem_nil, or_false] at hx ⊢
    exact .inr (.inr (.inl hx)))) (hK _ _ rR)
theorem sen_walk (dst : List Int) (l2 c2 : Nat) (n : Int) (K : SV → Mem → Prop) (hl2 : dst.length = l2) (hb2 : Bytes dst) (h2 : l2 ≤ 65536) (hn : 0 ≤ n) (hn2 : n ≤ 65536) (hup : KUp K)
    (hK : ∀ ys cap, Rw ys (expand [] dst n.toNat) n.toNat cap → K (.slice 737 (.lit 0) (.sym n.toNat) (.sym cap)) (memL [(737, ⟨false, .ints .u8 ys⟩)])) :
    execF cxSE (uSE [] dst n) Tryd.f6 64 [.val (.slice none 0 0), .slice 1 (.lit 0) (.sym l2) (.sym c2), .int .i64 (.sym n)] (memL [(1, ⟨true, .ints .u8 dst⟩)]) K := by
  rw [vc_sen]
  obtain ⟨nn, hnn⟩ : ∃ nn : Nat, n = (nn : Int) := ⟨n.toNat, by omega⟩
  refine ⟨⟨by omega, nle (by omega), by omega, by omega⟩, fun cap0 ys1 e0 => ?_⟩
  have r0 := Rw.first hl2 e0
  rintro x2 rfl x3 rfl
  refine ⟨⟨r0.fits, nle (Nat.le_refl _), by omega, by omega⟩, fun cap4 ys5 e4 => ?_⟩
  have rD := r0.next (zs := [IntKind.u8.wrap ((l2 : Nat) : Int)]) (m := 1) rfl e4
  have hD : dst ++ [IntKind.u8.wrap ((l2 : Nat) : Int)] = domL dst := by unfold domL; rw [hl2]
  rw [hD] at rD
  have hDb := domL_bytes hb2
  have hDl := rD.le
  have hDn := rD.len
  refine ⟨by omega, ?_⟩
  rintro x6 rfl x7 rfl x8 rfl
  refine ⟨⟨by omega, nle (Nat.le_refl _), by omega⟩, ?_⟩
  refine ⟨⟨⟨rfl, rfl, by rw [rD.take1, rD.xl]⟩, by omega⟩, ?_⟩
  rintro ys9 cap10 n11 rJ ys12 rfl
  have hJ := rJ.le
  have hJn := rJ.len
  have hJx := rJ.xl
  rw [rD.take1] at rJ hJx
  have hMl : n11 = 64 + 0 + 3 + (l2 + 1) := by
    rw [← hJx]
    simp only [List.length_append, domL_length, hl2]
    simp
  refine ⟨by omega, ⟨by rw [rJ.take1, rJ.xl], by omega, by
    rw [rJ.take1]
    exact ((((bytes0 64).drop 0).take 64).append ((bytes3.drop 0).take 3)).append hDb⟩, ?_⟩
  rintro ys13 cap14 rF ys15 rfl
  rw [rJ.take1] at rF
  have rF : Rw ys15 (firstL [] dst n) 32 cap14 := by
    unfold firstL
    rw [List.append_nil]
    exact rF
  have hFl := rF.le
  have hFn := rF.len
  refine ⟨by omega, ?_⟩
  refine ⟨⟨(0, ([], 0), (List.replicate 32 0, 32)), ⟨⟨rfl, Nat.le_refl _, rfl, rfl⟩, ⟨by simp [bI], Nat.le_refl _, by simp, by simp [bI]⟩, by simp only; omega⟩, ?_⟩, ?_⟩
  · repeat' apply And.intro
    all_goals first | trivial | rfl
  rintro ⟨i, ⟨oy, oc⟩, ⟨ly, lc⟩⟩ ⟨rO, rL, hi⟩ x18 rfl
  simp only at rO rL hi
  simp only
  have hLl := rL.le
  have hLn := rL.len
  refine ⟨fun hlt => ?_, fun hlt => ?_⟩
  · simp only [decide_eq_true_eq] at hlt
    refine ⟨⟨(0, [], 0), ⟨⟨rfl, Nat.le_refl _, rfl, rfl⟩, by simp⟩, ?_⟩, ?_⟩
    · repeat' apply And.intro
      all_goals first | trivial | rfl
    rintro ⟨k, my, mc⟩ ⟨rM, hk⟩
    simp only at rM hk
    simp only [Int.toNat_natCast, Nat.mul_one]
    refine ⟨fun hk1 => ?_, fun hk1 => ?_⟩
    · simp only [decide_eq_true_eq] at hk1
      refine ⟨by omega, by omega, ?_⟩
      rintro x21 rfl
      refine ⟨by omega, by omega, ?_⟩
      rintro x22 rfl x23 hx23
      refine ⟨⟨⟨rM.le, by rw [rM.len]; omega⟩, nle (Nat.le_refl _), by omega, by omega⟩, fun cap24 ys25 e24 => ?_⟩
      have rM2 := rM.next (zs := [x23]) (m := 1) rfl (by simpa only [Nat.mul_one] using e24)
      rw [hx23, ← xorL_take (by omega)] at rM2
      rintro x26 hx26
      rw [wrap64 (by omega) (by omega)] at hx26
      refine ⟨(k + 1, ys25, cap24), ⟨rM2, by simp only; omega⟩, ?_, by simp only; omega⟩
      repeat' apply And.intro
      all_goals first | trivial | rfl | (simp only; omega)
    simp only [decide_eq_false_iff_not] at hk1
    obtain rfl : k = 32 := by omega
    rw [List.take_of_length_le (by rw [xorL_length]; exact Nat.le_refl _)] at rM
    have hxor : xorL ys15 ly = xorL (firstL [] dst n) (bI (firstL [] dst n) (domL dst) i) := xorL_congr (by rw [rF.row, List.take_of_length_le (by rw [rF.xl]; exact Nat.le_refl _)]) (by rw [rL.row, List.take_of_length_le (by rw [rL.xl]; exact Nat.le_refl _)])
    rw [hxor] at rM
    have hMl2 := rM.le
    have hMn2 := rM.len
    rintro x28 rfl
    refine ⟨⟨by omega, Nat.le_refl _, by omega⟩, ?_⟩
    have t1 := rM.take1
    have t2 := rD.take1
    rw [Nat.mul_one] at t1 t2
    rw [t1, t2, rD.xl]
    refine ⟨⟨⟨rM.xl, rfl, rfl⟩, by omega⟩, ?_⟩
    rintro ys29 cap30 n31 rJ2 ys32 rfl
    have hJ2 := rJ2.le
    have hJ2n := rJ2.len
    have hJ2x := rJ2.xl
    have hMl3 : n31 = 32 + 1 + (l2 + 1) := by
      rw [← hJ2x]
      simp only [List.length_append, domL_length, hl2, xorL_length]
      simp
    have t3 := rJ2.take1
    rw [Nat.mul_one] at t3
    rw [t3]
    refine ⟨by omega, ⟨rJ2.xl, by omega, ((xorL_bytes _ _).append bytes1).append hDb⟩, ?_⟩
    rintro ys33 cap34 rB ys35 rfl
    have rB : Rw ys35 (bI (firstL [] dst n) (domL dst) (i + 1)) 32 cap34 := rB
    have hBl := rB.le
    have hBn := rB.len
    refine ⟨⟨⟨rO.le, by rw [rO.len]; omega⟩, nle (by omega), by omega, by omega⟩, fun cap36 ys37 e36 => ?_⟩
    have rO2 : Rw ys37 (outN (firstL [] dst n) (domL dst) (i + 1)) (32 * i + 32) cap36 := by
      refine rO.step (rB.xl) e36.1 e36.2.1 ?_
      have := e36.2.2
      rw [List.drop_zero, List.drop_zero, rB.row] at this
      exact this
    rintro x38 hx38
    rw [wrap64 (by omega) (by omega)] at hx38
    refine ⟨(i + 1, (ys37, cap36), (ys35, cap34)), ⟨rO2, rB, by simp only; omega⟩, ?_, by simp only; omega⟩
    repeat' apply And.intro
    all_goals first | trivial | rfl | (simp only; omega)
  simp only [decide_eq_false_iff_not] at hlt
  have hOl := rO.le
  refine ⟨by omega, ?_⟩
  have hE : expand [] dst n.toNat = (outN (firstL [] dst n) (domL dst) i).take n.toNat := by
    rw [expand_eq (i := i) (by omega) (by omega), hnn, Int.toNat_natCast]
  have rR := rO.cut (m := n.toNat) (by omega)
  rw [← hE] at rR
  exact hup.le (memL_sub [577, 681, 737, 739] rfl (by decide) (by
    intro x hx
    simp only [List.mem_cons, List.not_mem_nil, or_false] at hx ⊢
    exact .inr (.inr (.inl hx)))) (hK _ _ rR)
end Go.Sx

/- The blocks laid into the answer, in plain Lean. -/
namespace Go.Sx
open Go
theorem bxor_zero {x : Int} (h1 : 0 ≤ x) (h2 : x < 256) : bxor .u8 x 0 = x := by
  obtain ⟨n, rfl⟩ := Int.eq_ofNat_of_zero_le h1
  have : ∀ k : Fin 256, bxor .u8 ((k.val : Nat) : Int) 0 = ((k.val : Nat) : Int) := by decide +kernel
  exact this ⟨n, by omega⟩
theorem xorL_zero {f : List Int} (hl : f.length = 32) (hb : Bytes f) : xorL f (List.replicate 32 0) = f := by
  apply List.ext_getElem
  · rw [xorL_length, hl]
  · intro i h1 h2
    have e0 : (xorL f (List.replicate 32 0))[i] = bxor .u8 (f.getD i 0) ((List.replicate 32 0).getD i 0) := by
      simp [xorL]
    rw [e0]
    have e1 : f.getD i 0 = f[i] := by simp [List.getD_eq_getElem?_getD, h2]
    have e2 : (List.replicate 32 (0 : Int)).getD i 0 = 0 := by
      rw [List.getD_eq_getElem?_getD, List.getElem?_replicate]
      split <;> rfl
    rw [e1, e2]
    exact bxor_zero (hb _ (List.getElem_mem h2)).1 (hb _ (List.getElem_mem h2)).2
theorem shr8 {n : Int} (h1 : 0 ≤ n) (h2 : n ≤ 65536) : shrv .i64 n 8 = IntKind.i64.wrap (Int.tdiv n 256) := by
  have e : shrv .i64 n 8 = n.fdiv 256 := rfl
  rw [e, Int.fdiv_eq_ediv_of_nonneg _ (by omega), Int.tdiv_eq_ediv_of_nonneg h1, wrap64 (by omega) (by omega)]
theorem res_step {res o b : List Int} {n j : Nat} (hl : res.length = n) (h : res.take (32 * j) = o.take n) (ho : o.length = 32 * j) (hb : b.length = 32) (hj : 32 * j < n) :
    (splice res (32 * j) (b.take (min 32 (min n (32 * (j + 1)) - 32 * j)))).length = n ∧
    (splice res (32 * j) (b.take (min 32 (min n (32 * (j + 1)) - 32 * j)))).take (32 * (j + 1)) = (o ++ b).take n := by
  generalize hq : b.take (min 32 (min n (32 * (j + 1)) - 32 * j)) = q
  have hql : q.length = min 32 (min n (32 * (j + 1)) - 32 * j) := by rw [← hq, List.length_take]; omega
  have hsl : (splice res (32 * j) q).length = n := by rw [splice_length (by omega), hl]
  refine ⟨hsl, ?_⟩
  have hmid := take_splice_mid (x := res) (q := q) (n := 32 * j) (by omega)
  rw [h, List.take_of_length_le (l := o) (by omega)] at hmid
  by_cases hc : 32 * (j + 1) ≤ n
  · have e1 : q.length = 32 := by omega
    have e2 : q = b := by rw [← hq, List.take_of_length_le (by omega)]
    rw [e1] at hmid
    rw [show 32 * (j + 1) = 32 * j + 32 by omega, hmid, e2, List.take_of_length_le (by simp; omega)]
  · have e1 : 32 * j + q.length = n := by omega
    rw [List.take_of_length_le (by omega)]
    rw [e1, List.take_of_length_le (by omega)] at hmid
    rw [hmid, List.take_append, List.take_of_length_le (l := o) (by omega), ho, ← hq]
    congr 2
    omega
end Go.Sx

/- hash.ExpandMsgXmd: what it computes. -/
namespace Go.Sx
open Go Go.Proofs
set_option maxRecDepth 100000
set_option maxHeartbeats 4000000
theorem ex_walk (msg dst : List Int) (l c l2 c2 : Nat) (n : Int) (K : SV → Mem → Prop) (hl : msg.length = l) (hl2 : dst.length = l2) (hc : l ≤ c) (hc2 : l2 ≤ c2) (hb : Bytes msg) (hb2 : Bytes dst) (h1 : l ≤ 65536) (h2 : l2 ≤ 65536) (hn : 32 ≤ n) (hn2 : n ≤ 65536) (hup : KUp K)
    (hK1 : n > 8160 → ∀ s, K (.tup [.val (.slice none 0 0), .iface 48 (.ptr 633 (.lit 0))]) (memL [(633, ⟨false, .cells [.val (.string s)]⟩)]))
    (hK2 : n ≤ 8160 → l2 > 255 → ∀ s, K (.tup [.val (.slice none 0 0), .iface 48 (.ptr 657 (.lit 0))]) (memL [(657, ⟨false, .cells [.val (.string s)]⟩)]))
    (hK : n ≤ 8160 → l2 ≤ 255 → ∀ ys, ys = expand msg dst n.toNat → K (.tup [.slice 1569 (.lit 0) (.sym n.toNat) (.sym n.toNat), .val .nilIface]) (memL [(1569, ⟨false, .ints .u8 ys⟩)])) :
    execF cxEX (uEX 17 msg dst n) Tryd.f7 64 [.slice 9 (.lit 0) (.sym l) (.sym c), .slice 17 (.lit 0) (.sym l2) (.sym c2), .int .i64 (.sym n)] (memL [(0, ⟨true, .ints .u32 kL⟩), (9, ⟨true, .ints .u8 msg⟩), (17, ⟨true, .ints .u8 dst⟩)]) K := by
  rw [vc_ex, take1 _ hl, take1 _ hl2]
  have hf : firstL msg dst n = sha (List.replicate 64 0 ++ msg ++ [IntKind.u8.wrap (shrv .i64 n 8), IntKind.u8.wrap n, 0] ++ dst ++ [IntKind.u8.wrap ((l2 : Nat) : Int)]) := by
    unfold firstL domL
    rw [shr8 (by omega) (by omega), hl2]
    simp only [List.append_assoc]
  have hfl : (firstL msg dst n).length = 32 := rfl
  have hfb : Bytes (firstL msg dst n) := sha_bytes _
  have hdom : domL dst = dst ++ [IntKind.u8.wrap ((l2 : Nat) : Int)] := by unfold domL; rw [hl2]
  have hexp : ∀ j : Nat, n ≤ 32 * (j : Int) → 32 * (j : Int) < n + 32 → expand msg dst n.toNat = (outN (firstL msg dst n) (domL dst) j).take n.toNat := fun j q1 q2 => by
    rw [expand_eq (i := j) (by omega) (by omega), show ((n.toNat : Nat) : Int) = n by omega]
  rintro ys0 rfl x1 rfl x2 hx2 x3 hx3
  rw [wrap64 (x := n + 32) (by omega) (by omega), wrap64 (by omega) (by omega)] at hx2
  rw [Int.tdiv_eq_ediv_of_nonneg (by omega), wrap64 (by omega) (by omega)] at hx3
  refine ⟨fun hbig => ?_, fun hbig => ?_⟩
  · simp only [decide_eq_true_eq] at hbig
    exact hup.le (memL_sub [0, 9, 17, 529, 633] rfl (by decide) (by
      intro x hx
      simp only [List.mem_cons, List.not_mem_nil, or_false] at hx ⊢
      iterate 4 (apply Or.inr)
      exact hx)) (hK1 (by omega) _)
  simp only [decide_eq_false_iff_not] at hbig
  rintro x4 rfl
  refine ⟨fun hbig2 => ?_, fun hbig2 => ?_⟩
  · simp only [decide_eq_true_eq] at hbig2
    exact hup.le (memL_sub [0, 9, 17, 529, 657] rfl (by decide) (by
      intro x hx
      simp only [List.mem_cons, List.not_mem_nil, or_false] at hx ⊢
      iterate 4 (apply Or.inr)
      exact hx)) (hK2 (by omega) (by omega) _)
  simp only [decide_eq_false_iff_not] at hbig2
  rintro x5 rfl x6 hx6
  rintro ys7 rfl
  refine ⟨by omega, ?_⟩
  refine ⟨Nat.le_refl _, [], ⟨rfl, Abs.empty rfl, ((bytes0 64).drop 0).take 64, rfl, Nat.le_refl _, by omega, by simp⟩, ?_⟩
  rintro x9 x10 x11 x12 a1 ys13 rfl
  have a1 : Abs (List.replicate 64 0) x9 ys13 x11 x12 := a1
  refine ⟨by omega, _, ⟨rfl, a1, hb, hl, hc, h1, by simp⟩, ?_⟩
  rintro x15 x16 x17 x18 a2 ys19 rfl x20 rfl x21 rfl x22 rfl
  refine ⟨Nat.le_refl _, _, ⟨rfl, a2, (bytes3.drop 0).take 3, rfl, Nat.le_refl _, by omega, by simp <;> omega⟩, ?_⟩
  rintro x24 x25 x26 x27 a3 ys28 rfl
  have a3 : Abs (List.replicate 64 0 ++ msg ++ [IntKind.u8.wrap (shrv .i64 n 8), IntKind.u8.wrap n, 0]) x24 ys28 x26 x27 := a3
  refine ⟨by omega, _, ⟨rfl, a3, hb2, hl2, hc2, h2, by simp <;> omega⟩, ?_⟩
  rintro x30 x31 x32 x33 a4 ys34 rfl
  subst hx6
  refine ⟨Nat.le_refl _, _, ⟨rfl, a4, (bytes1.drop 0).take 1, rfl, Nat.le_refl _, by omega, by simp <;> omega⟩, ?_⟩
  rintro x36 x37 x38 x39 a5 ys40 rfl
  refine ⟨_, ⟨rfl, a5, by simp <;> omega⟩, ?_⟩
  rintro ys42 cap43 ⟨f1, f2, f3⟩ ys44 rfl
  have f1 : ys44.take 32 = firstL msg dst n := f1.trans hf.symm
  rintro ys45 rfl
  have hx64 := a5.xl
  refine ⟨by omega, _, ⟨rfl, Abs.empty hx64, (by rw [List.drop_zero, f1]; exact hfb), (by rw [List.drop_zero, f1]; rfl), f3, by omega, by simp⟩, ?_⟩
  rintro x47 x48 x49 x50 b1 ys51 rfl
  rw [List.drop_zero, f1, List.nil_append] at b1
  refine ⟨Nat.le_refl _, _, ⟨rfl, b1, by simp [Bytes], rfl, Nat.le_refl _, by omega, by rw [hfl]; omega⟩, ?_⟩
  rintro x53 x54 x55 x56 b2 ys57 rfl
  have b2 : Abs (firstL msg dst n ++ [1]) x53 ys57 x55 x56 := b2
  refine ⟨by omega, _, ⟨rfl, b2, hb2, hl2, hc2, h2, by rw [List.length_append, hfl]; simp⟩, ?_⟩
  rintro x59 x60 x61 x62 b3 ys63 rfl
  refine ⟨Nat.le_refl _, _, ⟨rfl, b3, (bytes1.drop 0).take 1, rfl, Nat.le_refl _, by omega, by rw [List.length_append, List.length_append, hfl]; simp; omega⟩, ?_⟩
  rintro x65 x66 x67 x68 b4 ys69 rfl
  refine ⟨_, ⟨rfl, b4, by rw [List.length_append, List.length_append, List.length_append, hfl]; simp; omega⟩, ?_⟩
  rintro ys71 cap72 ⟨g1, g2, g3⟩ ys73 rfl
  have g1 : ys73.take 32 = bI (firstL msg dst n) (domL dst) 1 := by
    rw [g1]
    show sha _ = sha _
    rw [show bI (firstL msg dst n) (domL dst) 0 = List.replicate 32 0 from rfl, xorL_zero hfl hfb, hdom]
    simp only [List.append_assoc]
    rfl
  have rF : Rw ys44 (firstL msg dst n) 32 cap43 := ⟨hfl, f3, f2, f1⟩
  have rB : Rw ys73 (bI (firstL msg dst n) (domL dst) 1) 32 cap72 := ⟨bI_length _ _ _, g3, g2, g1⟩
  have hr0 := res_step (res := List.replicate n.toNat 0) (o := outN (firstL msg dst n) (domL dst) 0) (b := bI (firstL msg dst n) (domL dst) 1) (n := n.toNat) (j := 0) (by simp) (by simp [outN]) rfl (bI_length _ _ _) (by omega)
  rw [show min 32 (min n.toNat (32 * (0 + 1)) - 32 * 0) = 32 by omega, List.take_of_length_le (l := bI (firstL msg dst n) (domL dst) 1) (by rw [bI_length]; exact Nat.le_refl _)] at hr0
  rw [List.drop_zero, g1, Nat.mul_one]
  refine ⟨by omega, by omega, ⟨by omega, by simp <;> omega⟩, ?_⟩
  refine ⟨⟨⟨1, ys73, cap72, splice (List.replicate n.toNat 0) 0 (bI (firstL msg dst n) (domL dst) 1), x65, ys69, x67, x68⟩, ⟨Nat.le_refl _, by simp only; omega, rB, by simp only; rw [hr0.1]; omega, hr0.2, b4.xl⟩, ?_⟩, ?_⟩
  · repeat' apply And.intro
    all_goals first | trivial | rfl
  clear hr0 g1 g2 g3 rB b4 b3 b2 b1 a5 a4 a3 a2 a1
  rintro ⟨j, b, bc, res, H, x, nx, len⟩ ⟨q1, q2, rB, q4, q5, q6⟩
  simp only at q1 q2 rB q4 q5 q6
  simp only
  have hFl := rF.le
  have hFn := rF.len
  have hBl := rB.le
  have hBn := rB.len
  refine ⟨fun hj => ?_, fun hj => ?_⟩
  · simp only [decide_eq_true_eq] at hj
    rintro ys76 rfl
    refine ⟨by omega, ?_⟩
    refine ⟨⟨(0, List.replicate 32 0), ⟨by simp, by simp, by simp⟩, ?_⟩, ?_⟩
    · repeat' apply And.intro
      all_goals first | trivial | rfl
    rintro ⟨k, w⟩ ⟨w1, w2, w3⟩
    simp only at w1 w2 w3
    simp only [Int.toNat_natCast, Nat.mul_one]
    refine ⟨fun hk => ?_, fun hk => ?_⟩
    · simp only [decide_eq_true_eq] at hk
      refine ⟨by omega, by omega, ?_⟩
      rintro x79 rfl
      refine ⟨by omega, by omega, ?_⟩
      rintro x80 rfl x81 hx81
      refine ⟨by omega, by omega, ?_⟩
      rintro x82 hx82
      rw [wrap64 (by omega) (by omega)] at hx82
      refine ⟨(k + 1, w.set k x81), ⟨by simp only [List.length_set]; exact w1, ?_, by simp only; omega⟩, ?_, by simp only; omega⟩
      · simp only
        rw [xorL_take (by omega), ← w2, ← hx81, List.take_add_one, List.take_set_of_le (Nat.le_refl _)]
        simp [show k < w.length by omega]
      · repeat' apply And.intro
        all_goals first | trivial | rfl | (simp only; omega)
    simp only [decide_eq_false_iff_not] at hk
    obtain rfl : k = 32 := by omega
    rw [List.take_of_length_le (by omega), List.take_of_length_le (by rw [xorL_length]; exact Nat.le_refl _)] at w2
    have hxor : w = xorL (firstL msg dst n) (bI (firstL msg dst n) (domL dst) j) := by
      rw [w2]
      exact xorL_congr (by rw [rF.row, List.take_of_length_le (by rw [rF.xl]; exact Nat.le_refl _)]) (by rw [rB.row, List.take_of_length_le (by rw [rB.xl]; exact Nat.le_refl _)])
    have hwb : Bytes w := by rw [hxor]; exact xorL_bytes _ _
    have hw32 : List.take 32 (List.drop 0 w) = w := by rw [List.drop_zero, List.take_of_length_le (by omega)]
    rw [hw32]
    refine ⟨by omega, _, ⟨by trivial, Abs.empty q6, hwb, w1, Nat.le_refl _, by omega, by simp⟩, ?_⟩
    rintro x85 x86 x87 x88 c1 ys89 rfl x90 rfl
    rw [List.nil_append] at c1
    refine ⟨Nat.le_refl _, _, ⟨by trivial, c1, (bytes1.drop 0).take 1, rfl, Nat.le_refl _, by omega, by rw [w1]; omega⟩, ?_⟩
    rintro x92 x93 x94 x95 c2' ys96 rfl
    refine ⟨by omega, _, ⟨by trivial, c2', hb2, hl2, hc2, h2, by rw [List.length_append, w1]; simp⟩, ?_⟩
    rintro x98 x99 x100 x101 c3 ys102 rfl
    refine ⟨Nat.le_refl _, _, ⟨by trivial, c3, (bytes1.drop 0).take 1, rfl, Nat.le_refl _, by omega, by rw [List.length_append, List.length_append, w1]; simp; omega⟩, ?_⟩
    rintro x104 x105 x106 x107 c4 ys108 rfl
    refine ⟨_, ⟨by trivial, c4, by rw [List.length_append, List.length_append, List.length_append, w1]; simp; omega⟩, ?_⟩
    rintro ys110 cap111 ⟨g1, g2, g3⟩ ys112 rfl
    have g1 : ys112.take 32 = bI (firstL msg dst n) (domL dst) (j + 1) := by
      rw [g1]
      show sha _ = sha _
      rw [← hxor, hdom]
      simp only [List.append_assoc]
      rfl
    have rB2 : Rw ys112 (bI (firstL msg dst n) (domL dst) (j + 1)) 32 cap111 := ⟨bI_length _ _ _, g3, g2, g1⟩
    rintro x113 hx113 x114 hx114 x115 hx115 x116 hx116 x117 hx117
    rw [wrap64 (by omega) (by omega)] at hx113
    rw [hx113, wrap64 (by omega) (by omega)] at hx114
    rw [wrap64 (by omega) (by omega)] at hx115
    have e114 : x114.toNat = 32 * j := by omega
    have e117 : x117 = ((min n.toNat (32 * (j + 1)) : Nat) : Int) := by
      rw [hx117]
      split <;> omega
    have e117' : x117.toNat = min n.toNat (32 * (j + 1)) := by omega
    have hres := res_step (res := res) (o := outN (firstL msg dst n) (domL dst) j) (b := bI (firstL msg dst n) (domL dst) (j + 1)) (n := n.toNat) (j := j) (by omega) q5 (outN_length _ _ _) (bI_length _ _ _) (by omega)
    have htk : List.take (min 32 (x117.toNat - x114.toNat)) (List.drop 0 ys112) = (bI (firstL msg dst n) (domL dst) (j + 1)).take (min 32 (min n.toNat (32 * (j + 1)) - 32 * j)) := by
      rw [List.drop_zero, ← g1, List.take_take, e117', e114]
      congr 1
      omega
    rw [htk, if_neg (by omega), e114]
    refine ⟨⟨⟨by omega, by omega⟩, by omega, by omega⟩, ⟨by omega, by omega⟩, ?_⟩
    rintro x118 hx118
    rw [wrap64 (by omega) (by omega)] at hx118
    refine ⟨⟨j + 1, ys112, cap111, splice res (32 * j) ((bI (firstL msg dst n) (domL dst) (j + 1)).take (min 32 (min n.toNat (32 * (j + 1)) - 32 * j))), x104, ys108, x106, x107⟩, ⟨by simp only; omega, by simp only; omega, rB2, by simp only; rw [hres.1]; omega, hres.2, c4.xl⟩, ?_, by simp only; omega⟩
    repeat' apply And.intro
    all_goals first | trivial | rfl | (simp only; omega)
  simp only [decide_eq_false_iff_not] at hj
  rw [List.take_of_length_le (by omega)] at q5
  have hres : res = expand msg dst n.toNat := by rw [q5, hexp j (by omega) (by omega)]
  exact hup.le (memL_sub [0, 17, 529, 1177, 1569, 1641] rfl (by decide) (by
    intro x hx
    simp only [List.mem_cons, List.not_mem_nil, or_false] at hx ⊢
    exact .inr (.inr (.inr (.inr (.inl hx)))))) (hK (by omega) (by omega) _ hres)
theorem exn_walk (dst : List Int) (l2 c2 : Nat) (n : Int) (K : SV → Mem → Prop) (hl2 : dst.length = l2) (hc2 : l2 ≤ c2) (hb2 : Bytes dst) (h2 : l2 ≤ 65536) (hn : 32 ≤ n) (hn2 : n ≤ 65536) (hup : KUp K)
    (hK1 : n > 8160 → ∀ s, K (.tup [.val (.slice none 0 0), .iface 48 (.ptr 633 (.lit 0))]) (memL [(633, ⟨false, .cells [.val (.string s)]⟩)]))
    (hK2 : n ≤ 8160 → l2 > 255 → ∀ s, K (.tup [.val (.slice none 0 0), .iface 48 (.ptr 657 (.lit 0))]) (memL [(657, ⟨false, .cells [.val (.string s)]⟩)]))
    (hK : n ≤ 8160 → l2 ≤ 255 → ∀ ys, ys = expand [] dst n.toNat → K (.tup [.slice 1569 (.lit 0) (.sym n.toNat) (.sym n.toNat), .val .nilIface]) (memL [(1569, ⟨false, .ints .u8 ys⟩)])) :
    execF cxEX (uEX 9 [] dst n) Tryd.f7 64 [.val (.slice none 0 0), .slice 9 (.lit 0) (.sym l2) (.sym c2), .int .i64 (.sym n)] (memL [(0, ⟨true, .ints .u32 kL⟩), (9, ⟨true, .ints .u8 dst⟩)]) K := by
  rw [vc_exn, take1 _ hl2]
  have hf : firstL [] dst n = sha (List.replicate 64 0 ++ [IntKind.u8.wrap (shrv .i64 n 8), IntKind.u8.wrap n, 0] ++ dst ++ [IntKind.u8.wrap ((l2 : Nat) : Int)]) := by
    unfold firstL domL
    rw [shr8 (by omega) (by omega), hl2]
    simp only [List.append_assoc, List.nil_append]
  have hfl : (firstL [] dst n).length = 32 := rfl
  have hfb : Bytes (firstL [] dst n) := sha_bytes _
  have hdom : domL dst = dst ++ [IntKind.u8.wrap ((l2 : Nat) : Int)] := by unfold domL; rw [hl2]
  have hexp : ∀ j : Nat, n ≤ 32 * (j : Int) → 32 * (j : Int) < n + 32 → expand [] dst n.toNat = (outN (firstL [] dst n) (domL dst) j).take n.toNat := fun j q1 q2 => by
    rw [expand_eq (i := j) (by omega) (by omega), show ((n.toNat : Nat) : Int) = n by omega]
  rintro ys0 rfl x1 rfl x2 hx2 x3 hx3
  rw [wrap64 (x := n + 32) (by omega) (by omega), wrap64 (by omega) (by omega)] at hx2
  rw [Int.tdiv_eq_ediv_of_nonneg (by omega), wrap64 (by omega) (by omega)] at hx3
  refine ⟨fun hbig => ?_, fun hbig => ?_⟩
  · simp only [decide_eq_true_eq] at hbig
    exact hup.le (memL_sub [0, 9, 529, 633] rfl (by decide) (by
      intro x hx
      simp only [List.mem_cons, List.not_mem_nil, or_false] at hx ⊢
      iterate 3 (apply Or.inr)
      exact hx)) (hK1 (by omega) _)
  simp only [decide_eq_false_iff_not] at hbig
  rintro x4 rfl
  refine ⟨fun hbig2 => ?_, fun hbig2 => ?_⟩
  · simp only [decide_eq_true_eq] at hbig2
    exact hup.le (memL_sub [0, 9, 529, 657] rfl (by decide) (by
      intro x hx
      simp only [List.mem_cons, List.not_mem_nil, or_false] at hx ⊢
      iterate 3 (apply Or.inr)
      exact hx)) (hK2 (by omega) (by omega) _)
  simp only [decide_eq_false_iff_not] at hbig2
  rintro x5 rfl x6 hx6
  rintro ys7 rfl
  refine ⟨by omega, ?_⟩
  refine ⟨Nat.le_refl _, [], ⟨rfl, Abs.empty rfl, ((bytes0 64).drop 0).take 64, rfl, Nat.le_refl _, by omega, by simp⟩, ?_⟩
  rintro x9 x10 x11 x12 a1 ys13 rfl
  have a1 : Abs (List.replicate 64 0) x9 ys13 x11 x12 := a1
  refine ⟨_, ⟨rfl, a1, by simp, by simp⟩, ?_⟩
  rintro x15 x16 x17 x18 a2 ys19 rfl x20 rfl x21 rfl x22 rfl
  refine ⟨Nat.le_refl _, _, ⟨rfl, a2, (bytes3.drop 0).take 3, rfl, Nat.le_refl _, by omega, by simp <;> omega⟩, ?_⟩
  rintro x24 x25 x26 x27 a3 ys28 rfl
  have a3 : Abs (List.replicate 64 0 ++ [IntKind.u8.wrap (shrv .i64 n 8), IntKind.u8.wrap n, 0]) x24 ys28 x26 x27 := a3
  refine ⟨by omega, _, ⟨rfl, a3, hb2, hl2, hc2, h2, by simp <;> omega⟩, ?_⟩
  rintro x30 x31 x32 x33 a4 ys34 rfl
  subst hx6
  refine ⟨Nat.le_refl _, _, ⟨rfl, a4, (bytes1.drop 0).take 1, rfl, Nat.le_refl _, by omega, by simp <;> omega⟩, ?_⟩
  rintro x36 x37 x38 x39 a5 ys40 rfl
  refine ⟨_, ⟨rfl, a5, by simp <;> omega⟩, ?_⟩
  rintro ys42 cap43 ⟨f1, f2, f3⟩ ys44 rfl
  have f1 : ys44.take 32 = firstL [] dst n := f1.trans hf.symm
  rintro ys45 rfl
  have hx64 := a5.xl
  refine ⟨by omega, _, ⟨rfl, Abs.empty hx64, (by rw [List.drop_zero, f1]; exact hfb), (by rw [List.drop_zero, f1]; rfl), f3, by omega, by simp⟩, ?_⟩
  rintro x47 x48 x49 x50 b1 ys51 rfl
  rw [List.drop_zero, f1, List.nil_append] at b1
  refine ⟨Nat.le_refl _, _, ⟨rfl, b1, by simp [Bytes], rfl, Nat.le_refl _, by omega, by rw [hfl]; omega⟩, ?_⟩
  rintro x53 x54 x55 x56 b2 ys57 rfl
  have b2 : Abs (firstL [] dst n ++ [1]) x53 ys57 x55 x56 := b2
  refine ⟨by omega, _, ⟨rfl, b2, hb2, hl2, hc2, h2, by rw [List.length_append, hfl]; simp⟩, ?_⟩
  rintro x59 x60 x61 x62 b3 ys63 rfl
  refine ⟨Nat.le_refl _, _, ⟨rfl, b3, (bytes1.drop 0).take 1, rfl, Nat.le_refl _, by omega, by rw [List.length_append, List.length_append, hfl]; simp; omega⟩, ?_⟩
  rintro x65 x66 x67 x68 b4 ys69 rfl
  refine ⟨_, ⟨rfl, b4, by rw [List.length_append, List.length_append, List.length_append, hfl]; simp; omega⟩, ?_⟩
  rintro ys71 cap72 ⟨g1, g2, g3⟩ ys73 rfl
  have g1 : ys73.take 32 = bI (firstL [] dst n) (domL dst) 1 := by
    rw [g1]
    show sha _ = sha _
    rw [show bI (firstL [] dst n) (domL dst) 0 = List.replicate 32 0 from rfl, xorL_zero hfl hfb, hdom]
    simp only [List.append_assoc]
    rfl
  have rF : Rw ys44 (firstL [] dst n) 32 cap43 := ⟨hfl, f3, f2, f1⟩
  have rB : Rw ys73 (bI (firstL [] dst n) (domL dst) 1) 32 cap72 := ⟨bI_length _ _ _, g3, g2, g1⟩
  have hr0 := res_step (res := List.replicate n.toNat 0) (o := outN (firstL [] dst n) (domL dst) 0) (b := bI (firstL [] dst n) (domL dst) 1) (n := n.toNat) (j := 0) (by simp) (by simp [outN]) rfl (bI_length _ _ _) (by omega)
  rw [show min 32 (min n.toNat (32 * (0 + 1)) - 32 * 0) = 32 by omega, List.take_of_length_le (l := bI (firstL [] dst n) (domL dst) 1) (by rw [bI_length]; exact Nat.le_refl _)] at hr0
  rw [List.drop_zero, g1, Nat.mul_one]
  refine ⟨by omega, by omega, ⟨by omega, by simp <;> omega⟩, ?_⟩
  refine ⟨⟨⟨1, ys73, cap72, splice (List.replicate n.toNat 0) 0 (bI (firstL [] dst n) (domL dst) 1), x65, ys69, x67, x68⟩, ⟨Nat.le_refl _, by simp only; omega, rB, by simp only; rw [hr0.1]; omega, hr0.2, b4.xl⟩, ?_⟩, ?_⟩
  · repeat' apply And.intro
    all_goals first | trivial | rfl
  clear hr0 g1 g2 g3 rB b4 b3 b2 b1 a5 a4 a3 a2 a1
  rintro ⟨j, b, bc, res, H, x, nx, len⟩ ⟨q1, q2, rB, q4, q5, q6⟩
  simp only at q1 q2 rB q4 q5 q6
  simp only
  have hFl := rF.le
  have hFn := rF.len
  have hBl := rB.le
  have hBn := rB.len
  refine ⟨fun hj => ?_, fun hj => ?_⟩
  · simp only [decide_eq_true_eq] at hj
    rintro ys76 rfl
    refine ⟨by omega, ?_⟩
    refine ⟨⟨(0, List.replicate 32 0), ⟨by simp, by simp, by simp⟩, ?_⟩, ?_⟩
    · repeat' apply And.intro
      all_goals first | trivial | rfl
    rintro ⟨k, w⟩ ⟨w1, w2, w3⟩
    simp only at w1 w2 w3
    simp only [Int.toNat_natCast, Nat.mul_one]
    refine ⟨fun hk => ?_, fun hk => ?_⟩
    · simp only [decide_eq_true_eq] at hk
      refine ⟨by omega, by omega, ?_⟩
      rintro x79 rfl
      refine ⟨by omega, by omega, ?_⟩
      rintro x80 rfl x81 hx81
      refine ⟨by omega, by omega, ?_⟩
      rintro x82 hx82
      rw [wrap64 (by omega) (by omega)] at hx82
      refine ⟨(k + 1, w.set k x81), ⟨by simp only [List.length_set]; exact w1, ?_, by simp only; omega⟩, ?_, by simp only; omega⟩
      · simp only
        rw [xorL_take (by omega), ← w2, ← hx81, List.take_add_one, List.take_set_of_le (Nat.le_refl _)]
        simp [show k < w.length by omega]
      · repeat' apply And.intro
        all_goals first | trivial | rfl | (simp only; omega)
    simp only [decide_eq_false_iff_not] at hk
    obtain rfl : k = 32 := by omega
    rw [List.take_of_length_le (by omega), List.take_of_length_le (by rw [xorL_length]; exact Nat.le_refl _)] at w2
    have hxor : w = xorL (firstL [] dst n) (bI (firstL [] dst n) (domL dst) j) := by
      rw [w2]
      exact xorL_congr (by rw [rF.row, List.take_of_length_le (by rw [rF.xl]; exact Nat.le_refl _)]) (by rw [rB.row, List.take_of_length_le (by rw [rB.xl]; exact Nat.le_refl _)])
    have hwb : Bytes w := by rw [hxor]; exact xorL_bytes _ _
    have hw32 : List.take 32 (List.drop 0 w) = w := by rw [List.drop_zero, List.take_of_length_le (by omega)]
    rw [hw32]
    refine ⟨by omega, _, ⟨by trivial, Abs.empty q6, hwb, w1, Nat.le_refl _, by omega, by simp⟩, ?_⟩
    rintro x85 x86 x87 x88 c1 ys89 rfl x90 rfl
    rw [List.nil_append] at c1
    refine ⟨Nat.le_refl _, _, ⟨by trivial, c1, (bytes1.drop 0).take 1, rfl, Nat.le_refl _, by omega, by rw [w1]; omega⟩, ?_⟩
    rintro x92 x93 x94 x95 c2' ys96 rfl
    refine ⟨by omega, _, ⟨by trivial, c2', hb2, hl2, hc2, h2, by rw [List.length_append, w1]; simp⟩, ?_⟩
    rintro x98 x99 x100 x101 c3 ys102 rfl
    refine ⟨Nat.le_refl _, _, ⟨by trivial, c3, (bytes1.drop 0).take 1, rfl, Nat.le_refl _, by omega, by rw [List.length_append, List.length_append, w1]; simp; omega⟩, ?_⟩
    rintro x104 x105 x106 x107 c4 ys108 rfl
    refine ⟨_, ⟨by trivial, c4, by rw [List.length_append, List.length_append, List.length_append, w1]; simp; omega⟩, ?_⟩
    rintro ys110 cap111 ⟨g1, g2, g3⟩ ys112 rfl
    have g1 : ys112.take 32 = bI (firstL [] dst n) (domL dst) (j + 1) := by
      rw [g1]
      show sha _ = sha _
      rw [← hxor, hdom]
      simp only [List.append_assoc]
      rfl
    have rB2 : Rw ys112 (bI (firstL [] dst n) (domL dst) (j + 1)) 32 cap111 := ⟨bI_length _ _ _, g3, g2, g1⟩
    rintro x113 hx113 x114 hx114 x115 hx115 x116 hx116 x117 hx117
    rw [wrap64 (by omega) (by omega)] at hx113
    rw [hx113, wrap64 (by omega) (by omega)] at hx114
    rw [wrap64 (by omega) (by omega)] at hx115
    have e114 : x114.toNat = 32 * j := by omega
    have e117 : x117 = ((min n.toNat (32 * (j + 1)) : Nat) : Int) := by
      rw [hx117]
      split <;> omega
    have e117' : x117.toNat = min n.toNat (32 * (j + 1)) := by omega
    have hres := res_step (res := res) (o := outN (firstL [] dst n) (domL dst) j) (b := bI (firstL [] dst n) (domL dst) (j + 1)) (n := n.toNat) (j := j) (by omega) q5 (outN_length _ _ _) (bI_length _ _ _) (by omega)
    have htk : List.take (min 32 (x117.toNat - x114.toNat)) (List.drop 0 ys112) = (bI (firstL [] dst n) (domL dst) (j + 1)).take (min 32 (min n.toNat (32 * (j + 1)) - 32 * j)) := by
      rw [List.drop_zero, ← g1, List.take_take, e117', e114]
      congr 1
      omega
    rw [htk, if_neg (by omega), e114]
    refine ⟨⟨⟨by omega, by omega⟩, by omega, by omega⟩, ⟨by omega, by omega⟩, ?_⟩
    rintro x118 hx118
    rw [wrap64 (by omega) (by omega)] at hx118
    refine ⟨⟨j + 1, ys112, cap111, splice res (32 * j) ((bI (firstL [] dst n) (domL dst) (j + 1)).take (min 32 (min n.toNat (32 * (j + 1)) - 32 * j))), x104, ys108, x106, x107⟩, ⟨by simp only; omega, by simp only; omega, rB2, by simp only; rw [hres.1]; omega, hres.2, c4.xl⟩, ?_, by simp only; omega⟩
    repeat' apply And.intro
    all_goals first | trivial | rfl | (simp only; omega)
  simp only [decide_eq_false_iff_not] at hj
  rw [List.take_of_length_le (by omega)] at q5
  have hres : res = expand [] dst n.toNat := by rw [q5, hexp j (by omega) (by omega)]
  exact hup.le (memL_sub [0, 9, 529, 1177, 1569, 1641] rfl (by decide) (by
    intro x hx
    simp only [List.mem_cons, List.not_mem_nil, or_false] at hx ⊢
    exact .inr (.inr (.inr (.inr (.inl hx)))))) (hK (by omega) (by omega) _ hres)
end Go.Sx

/- The contracts of slices.Clone, hash.ExpandMsgXmd, spec.Expand. -/
namespace Go.Sx
open Go Go.Proofs
set_option maxRecDepth 100000
theorem vc_clone (xs : List Int) (l c : Nat) (K : SV → Mem → Prop) : (execF cx0 u0 Tryd.f8 64 [.slice 1 (.lit 0) (.sym l) (.sym c)] (memL [(1, ⟨true, .ints .u8 xs⟩)]) K) =
  ((((((0 : Nat) ≤ (0 : Nat)) ∧
 ((0 : Nat) ≤ (0 : Nat))) ∧
 ((Nat.le ((0 : Nat) + (l * (1 : Nat))) (List.length xs)) ∧
 (((((0 : Nat) + l) * (1 : Nat)) ≤ (549755813888 : Nat)) ∧
 (((0 : Nat) + l) ≤ (549755813888 : Nat))))) ∧
 (∀ (cap0 : Nat), (∀ (ys1 : (List Int)), (((((0 : Nat) + l) ≤ cap0) ∧
 (((List.length ys1) = (cap0 * (1 : Nat))) ∧
 ((List.take (((0 : Nat) + l) * (1 : Nat)) ys1) = ((List.take (0 : Nat) (List.drop (0 : Nat) [])) ++ (List.take (l * (1 : Nat)) (List.drop (0 : Nat) xs)))))) → (K (Go.Sx.SV.slice (553 : Nat) (Go.Sx.N.lit (0 : Nat)) (Go.Sx.N.sym l) (Go.Sx.N.sym cap0)) (Go.Sx.memL [((1 : Nat), (Go.Sx.Reg.mk Bool.true (Go.Sx.Ct.ints Go.IntKind.u8 xs))), ((553 : Nat), (Go.Sx.Reg.mk Bool.false (Go.Sx.Ct.ints Go.IntKind.u8 ys1)))]))))))) := by kernel_rfl
theorem vc_clonen (K : SV → Mem → Prop) : (execF cx0 u0 Tryd.f8 64 [.val (.slice none 0 0)] (memL []) K) =
  ((K (Go.Sx.SV.val (Go.Value.slice Option.none (0 : Nat) (0 : Nat))) Go.Sx.Tr.leaf)) := by kernel_rfl

def gClone : G0 := fun args l K =>
  match args, l with
  | [.slice 1 (.lit 0) (.sym n) (.sym _)], [(1, ⟨true, .ints .u8 xs⟩)] =>
    (xs.length = n ∧ n ≤ 2 ^ 39) ∧ ∀ ys cap, Rw ys xs n cap → K (.slice 553 (.lit 0) (.sym n) (.sym cap)) (memL [(553, ⟨false, .ints .u8 ys⟩)])
  | [.val (.slice none 0 0)], [] => K (.val (.slice none 0 0)) (memL [])
  | _, _ => False
theorem clone_good : Good gClone := by
  constructor
  · intro args l K K' hk h
    unfold gClone at h ⊢
    split at h
    · exact ⟨h.1, fun ys cap hy => hk _ _ (h.2 ys cap hy)⟩
    · exact hk _ _ h
    · exact h.elim
  · intro args l K h
    unfold gClone at h
    split at h
    · obtain ⟨⟨rfl, _⟩, h2⟩ := h
      exact ⟨_, _, h2 _ _ (Rw.self _)⟩
    · exact ⟨_, _, h⟩
    · exact h.elim
theorem clone_ok (args : List SV) (l : List (Nat × Reg)) (K : SV → Mem → Prop) (hup : KUp K) (h : gClone args l K) : ∃ U, execF cx0 U Tryd.f8 64 args (memL l) K := by
  refine ⟨u0, ?_⟩
  unfold gClone at h
  split at h
  · obtain ⟨⟨h1, h2⟩, h3⟩ := h
    rw [vc_clone]
    refine ⟨⟨by omega, nle (by omega), by omega, by omega⟩, fun cap ys e => ?_⟩
    exact hup.le (memL_sub [1, 553] rfl (by decide) (by
      intro x hx
      simp only [List.mem_cons, List.not_mem_nil, or_false] at hx ⊢
      exact .inr hx)) (h3 _ _ (Rw.first h1 e))
  · rw [vc_clonen]
    exact h
  · exact h.elim
def cClone : Ef Tryd.prog := mkE mixed 8 Tryd.func8 (by decide) (by kernel_rfl) [] [.sl 1 true] gClone clone_good clone_ok

/-- What is met behind ExpandMsgXmd. -/
def exK (msg dst : List Int) (n : Int) (K : SV → Mem → Prop) : Prop :=
  (n > 8160 → ∀ s, K (.tup [.val (.slice none 0 0), .iface 48 (.ptr 633 (.lit 0))]) (memL [(633, ⟨false, .cells [.val (.string s)]⟩)])) ∧
  (n ≤ 8160 → dst.length > 255 → ∀ s, K (.tup [.val (.slice none 0 0), .iface 48 (.ptr 657 (.lit 0))]) (memL [(657, ⟨false, .cells [.val (.string s)]⟩)])) ∧
  (n ≤ 8160 → dst.length ≤ 255 → ∀ ys, ys = expand msg dst n.toNat → K (.tup [.slice 1569 (.lit 0) (.sym n.toNat) (.sym n.toNat), .val .nilIface]) (memL [(1569, ⟨false, .ints .u8 ys⟩)]))
def gEX : G0 := fun args l K =>
  match args, l with
  | [.slice 9 (.lit 0) (.sym n1) (.sym c1), .slice 17 (.lit 0) (.sym n2) (.sym c2), .int .i64 (.sym n)], [(0, ⟨true, .ints .u32 ks⟩), (9, ⟨true, .ints .u8 msg⟩), (17, ⟨true, .ints .u8 dst⟩)] =>
    (ks = kL ∧ msg.length = n1 ∧ dst.length = n2 ∧ n1 ≤ c1 ∧ n2 ≤ c2 ∧ Bytes msg ∧ Bytes dst ∧ n1 ≤ 65536 ∧ n2 ≤ 65536 ∧ 32 ≤ n ∧ n ≤ 65536) ∧ exK msg dst n K
  | [.val (.slice none 0 0), .slice 9 (.lit 0) (.sym n2) (.sym c2), .int .i64 (.sym n)], [(0, ⟨true, .ints .u32 ks⟩), (9, ⟨true, .ints .u8 dst⟩)] =>
    (ks = kL ∧ dst.length = n2 ∧ n2 ≤ c2 ∧ Bytes dst ∧ n2 ≤ 65536 ∧ 32 ≤ n ∧ n ≤ 65536) ∧ exK [] dst n K
  | _, _ => False
theorem exK_mono {msg dst : List Int} {n : Int} {K K' : SV → Mem → Prop} (hk : ∀ v m, K v m → K' v m) (h : exK msg dst n K) : exK msg dst n K' :=
  ⟨fun a s => hk _ _ (h.1 a s), fun a b s => hk _ _ (h.2.1 a b s), fun a b ys e => hk _ _ (h.2.2 a b ys e)⟩
theorem exK_live {msg dst : List Int} {n : Int} {K : SV → Mem → Prop} (h : exK msg dst n K) : ∃ v m, K v m := by
  by_cases h1 : n > 8160
  · exact ⟨_, _, h.1 h1 .empty⟩
  · by_cases h2 : dst.length > 255
    · exact ⟨_, _, h.2.1 (by omega) h2 .empty⟩
    · exact ⟨_, _, h.2.2 (by omega) (by omega) _ rfl⟩
theorem ex_good : Good gEX := by
  constructor
  · intro args l K K' hk h
    unfold gEX at h ⊢
    split at h
    · exact ⟨h.1, exK_mono hk h.2⟩
    · exact ⟨h.1, exK_mono hk h.2⟩
    · exact h.elim
  · intro args l K h
    unfold gEX at h
    split at h
    · exact exK_live h.2
    · exact exK_live h.2
    · exact h.elim
theorem ex_ok (args : List SV) (l : List (Nat × Reg)) (K : SV → Mem → Prop) (hup : KUp K) (h : gEX args l K) : ∃ U, execF cxEX U Tryd.f7 64 args (memL l) K := by
  unfold gEX at h
  split at h
  · rename_i n1 c1 n2 c2 n ks msg dst
    obtain ⟨⟨hk, h1, h2, h3, h4, h5, h6, h7, h8, h9, h10⟩, ha, hb, hc⟩ := h
    subst hk
    subst h2
    exact ⟨uEX 17 msg dst n, ex_walk msg dst n1 c1 _ c2 n K h1 rfl h3 h4 h5 h6 h7 h8 h9 h10 hup ha hb hc⟩
  · rename_i n2 c2 n ks dst
    obtain ⟨⟨hk, h2, h4, h6, h8, h9, h10⟩, ha, hb, hc⟩ := h
    subst hk
    subst h2
    exact ⟨uEX 9 [] dst n, exn_walk dst _ c2 n K rfl h4 h6 h8 h9 h10 hup ha hb hc⟩
  · exact h.elim
def cEX : Ef Tryd.prog := mkE mixed 7 Tryd.func7 (by decide) (by kernel_rfl) [0] [.sl 1 true, .sl 1 true, .num] gEX ex_good ex_ok

def gSE : G0 := fun args l K =>
  match args, l with
  | [.slice 1 (.lit 0) (.sym n1) (.sym _), .slice 9 (.lit 0) (.sym n2) (.sym _), .int .i64 (.sym n)], [(1, ⟨true, .ints .u8 msg⟩), (9, ⟨true, .ints .u8 dst⟩)] =>
    (msg.length = n1 ∧ dst.length = n2 ∧ Bytes msg ∧ Bytes dst ∧ n1 ≤ 65536 ∧ n2 ≤ 65536 ∧ 0 ≤ n ∧ n ≤ 65536) ∧
      ∀ ys cap, Rw ys (expand msg dst n.toNat) n.toNat cap → K (.slice 737 (.lit 0) (.sym n.toNat) (.sym cap)) (memL [(737, ⟨false, .ints .u8 ys⟩)])
  | [.val (.slice none 0 0), .slice 1 (.lit 0) (.sym n2) (.sym _), .int .i64 (.sym n)], [(1, ⟨true, .ints .u8 dst⟩)] =>
    (dst.length = n2 ∧ Bytes dst ∧ n2 ≤ 65536 ∧ 0 ≤ n ∧ n ≤ 65536) ∧
      ∀ ys cap, Rw ys (expand [] dst n.toNat) n.toNat cap → K (.slice 737 (.lit 0) (.sym n.toNat) (.sym cap)) (memL [(737, ⟨false, .ints .u8 ys⟩)])
  | _, _ => False
theorem Rw.made {xs : List Int} {n : Nat} (h : xs.length = n) : Rw xs xs n n := ⟨h, Nat.le_refl _, h, List.take_of_length_le (by omega)⟩
theorem se_good : Good gSE := by
  constructor
  · intro args l K K' hk h
    unfold gSE at h ⊢
    split at h
    · exact ⟨h.1, fun ys cap hy => hk _ _ (h.2 ys cap hy)⟩
    · exact ⟨h.1, fun ys cap hy => hk _ _ (h.2 ys cap hy)⟩
    · exact h.elim
  · intro args l K h
    unfold gSE at h
    split at h
    · exact ⟨_, _, h.2 _ _ (Rw.made (expand_length _ _ _))⟩
    · exact ⟨_, _, h.2 _ _ (Rw.made (expand_length _ _ _))⟩
    · exact h.elim
theorem se_ok (args : List SV) (l : List (Nat × Reg)) (K : SV → Mem → Prop) (hup : KUp K) (h : gSE args l K) : ∃ U, execF cxSE U Tryd.f6 64 args (memL l) K := by
  unfold gSE at h
  split at h
  · rename_i n1 c1 n2 c2 n msg dst
    obtain ⟨⟨h1, h2, h5, h6, h7, h8, h9, h10⟩, hc⟩ := h
    exact ⟨uSE msg dst n, se_walk msg dst n1 c1 n2 c2 n K h1 h2 h5 h6 h7 h8 h9 h10 hup hc⟩
  · rename_i n2 c2 n dst
    obtain ⟨⟨h2, h6, h8, h9, h10⟩, hc⟩ := h
    exact ⟨uSE [] dst n, sen_walk dst n2 c2 n K h2 h6 h8 h9 h10 hup hc⟩
  · exact h.elim
def cSE : Ef Tryd.prog := mkNw mixed 6 Tryd.func6 (by decide) (by kernel_rfl) [] [.sl 1 true, .sl 1 true, .num] gSE se_good se_ok
end Go.Sx

/- impl.Expand: what it computes; its contract. -/
namespace Go.Sx
open Go Go.Proofs
set_option maxRecDepth 100000
def cxIE : Cx Tryd.prog := { rds := [], efs := [cClone, cEX], eqs := [] }
theorem vc_ie (msg dst : List Int) (l c l2 c2 : Nat) (n : Int) (K : SV → Mem → Prop) : (execF cxIE u0 Tryd.f5 64 [.slice 9 (.lit 0) (.sym l) (.sym c), .slice 17 (.lit 0) (.sym l2) (.sym c2), .int .i64 (.sym n)] (memL [(0, ⟨true, .ints .u32 kL⟩), (9, ⟨true, .ints .u8 msg⟩), (17, ⟨true, .ints .u8 dst⟩)]) K) =
  (((((decide (n < (0 : Int))) = Bool.true) → (K (Go.Sx.SV.tup [(Go.Sx.SV.val (Go.Value.slice Option.none (0 : Nat) (0 : Nat))), (Go.Sx.SV.bool (Go.Sx.B.lit Bool.false))]) (Go.Sx.memL [((0 : Nat), (Go.Sx.Reg.mk Bool.true (Go.Sx.Ct.ints Go.IntKind.u32 Go.Sx.kL))), ((9 : Nat), (Go.Sx.Reg.mk Bool.true (Go.Sx.Ct.ints Go.IntKind.u8 msg))), ((17 : Nat), (Go.Sx.Reg.mk Bool.true (Go.Sx.Ct.ints Go.IntKind.u8 dst)))]))) ∧
 (((decide (n < (0 : Int))) = Bool.false) → ((((decide (n > (20000 : Int))) = Bool.true) → (K (Go.Sx.SV.tup [(Go.Sx.SV.val (Go.Value.slice Option.none (0 : Nat) (0 : Nat))), (Go.Sx.SV.bool (Go.Sx.B.lit Bool.false))]) (Go.Sx.memL [((0 : Nat), (Go.Sx.Reg.mk Bool.true (Go.Sx.Ct.ints Go.IntKind.u32 Go.Sx.kL))), ((9 : Nat), (Go.Sx.Reg.mk Bool.true (Go.Sx.Ct.ints Go.IntKind.u8 msg))), ((17 : Nat), (Go.Sx.Reg.mk Bool.true (Go.Sx.Ct.ints Go.IntKind.u8 dst)))]))) ∧
 (((decide (n > (20000 : Int))) = Bool.false) → ((((0 : Nat) + (l * (1 : Nat))) ≤ (List.length msg)) ∧
 ((((List.length (List.take (l * (1 : Nat)) (List.drop (0 : Nat) msg))) = l) ∧
 (l ≤ (549755813888 : Nat))) ∧
 (∀ (ys0 : (List Int)), (∀ (cap1 : Nat), ((Go.Sx.Rw ys0 (List.take (l * (1 : Nat)) (List.drop (0 : Nat) msg)) l cap1) → (∀ (ys2 : (List Int)), ((ys2 = ys0) → ((((0 : Nat) + (l2 * (1 : Nat))) ≤ (List.length dst)) ∧
 ((((List.length (List.take (l2 * (1 : Nat)) (List.drop (0 : Nat) dst))) = l2) ∧
 (l2 ≤ (549755813888 : Nat))) ∧
 (∀ (ys3 : (List Int)), (∀ (cap4 : Nat), ((Go.Sx.Rw ys3 (List.take (l2 * (1 : Nat)) (List.drop (0 : Nat) dst)) l2 cap4) → (∀ (ys5 : (List Int)), ((ys5 = ys3) → (((((0 : Nat) + (l * (1 : Nat))) ≤ (List.length ys2)) ∧
 (((0 : Nat) + (l2 * (1 : Nat))) ≤ (List.length ys5))) ∧
 (((Go.Sx.kL = Go.Sx.kL) ∧
 (((List.length (List.take (l * (1 : Nat)) (List.drop (0 : Nat) ys2))) = l) ∧
 (((List.length (List.take (l2 * (1 : Nat)) (List.drop (0 : Nat) ys5))) = l2) ∧
 ((l ≤ cap1) ∧
 ((l2 ≤ cap4) ∧
 ((Go.Sx.Bytes (List.take (l * (1 : Nat)) (List.drop (0 : Nat) ys2))) ∧
 ((Go.Sx.Bytes (List.take (l2 * (1 : Nat)) (List.drop (0 : Nat) ys5))) ∧
 ((l ≤ (65536 : Nat)) ∧
 ((l2 ≤ (65536 : Nat)) ∧
 (((32 : Int) ≤ n) ∧
 (n ≤ (65536 : Int)))))))))))) ∧
 (((n > (8160 : Int)) → (∀ (s6 : ByteArray), (K (Go.Sx.SV.tup [(Go.Sx.SV.val (Go.Value.slice Option.none (0 : Nat) (0 : Nat))), (Go.Sx.SV.bool (Go.Sx.B.lit Bool.false))]) (Go.Sx.memL [((0 : Nat), (Go.Sx.Reg.mk Bool.true (Go.Sx.Ct.ints Go.IntKind.u32 Go.Sx.kL))), ((9 : Nat), (Go.Sx.Reg.mk Bool.true (Go.Sx.Ct.ints Go.IntKind.u8 msg))), ((17 : Nat), (Go.Sx.Reg.mk Bool.true (Go.Sx.Ct.ints Go.IntKind.u8 dst))), ((585 : Nat), (Go.Sx.Reg.mk Bool.false (Go.Sx.Ct.ints Go.IntKind.u8 ys2))), ((601 : Nat), (Go.Sx.Reg.mk Bool.false (Go.Sx.Ct.ints Go.IntKind.u8 ys5))), ((617 : Nat), (Go.Sx.Reg.mk Bool.false (Go.Sx.Ct.cells [(Go.Sx.SV.val (Go.Value.string s6))])))])))) ∧
 (((n ≤ (8160 : Int)) → (((List.length (List.take (l2 * (1 : Nat)) (List.drop (0 : Nat) ys5))) > (255 : Nat)) → (∀ (s7 : ByteArray), (K (Go.Sx.SV.tup [(Go.Sx.SV.val (Go.Value.slice Option.none (0 : Nat) (0 : Nat))), (Go.Sx.SV.bool (Go.Sx.B.lit Bool.false))]) (Go.Sx.memL [((0 : Nat), (Go.Sx.Reg.mk Bool.true (Go.Sx.Ct.ints Go.IntKind.u32 Go.Sx.kL))), ((9 : Nat), (Go.Sx.Reg.mk Bool.true (Go.Sx.Ct.ints Go.IntKind.u8 msg))), ((17 : Nat), (Go.Sx.Reg.mk Bool.true (Go.Sx.Ct.ints Go.IntKind.u8 dst))), ((585 : Nat), (Go.Sx.Reg.mk Bool.false (Go.Sx.Ct.ints Go.IntKind.u8 ys2))), ((601 : Nat), (Go.Sx.Reg.mk Bool.false (Go.Sx.Ct.ints Go.IntKind.u8 ys5))), ((617 : Nat), (Go.Sx.Reg.mk Bool.false (Go.Sx.Ct.cells [(Go.Sx.SV.val (Go.Value.string s7))])))]))))) ∧
 ((n ≤ (8160 : Int)) → (((List.length (List.take (l2 * (1 : Nat)) (List.drop (0 : Nat) ys5))) ≤ (255 : Nat)) → (∀ (ys8 : (List Int)), ((ys8 = (Go.Sx.expand (List.take (l * (1 : Nat)) (List.drop (0 : Nat) ys2)) (List.take (l2 * (1 : Nat)) (List.drop (0 : Nat) ys5)) (Int.toNat n))) → (∀ (ys9 : (List Int)), ((ys9 = ys8) → (K (Go.Sx.SV.tup [(Go.Sx.SV.slice (617 : Nat) (Go.Sx.N.lit (0 : Nat)) (Go.Sx.N.sym (Int.toNat n)) (Go.Sx.N.sym (Int.toNat n))), (Go.Sx.SV.bool (Go.Sx.B.lit Bool.true))]) (Go.Sx.memL [((0 : Nat), (Go.Sx.Reg.mk Bool.true (Go.Sx.Ct.ints Go.IntKind.u32 Go.Sx.kL))), ((9 : Nat), (Go.Sx.Reg.mk Bool.true (Go.Sx.Ct.ints Go.IntKind.u8 msg))), ((17 : Nat), (Go.Sx.Reg.mk Bool.true (Go.Sx.Ct.ints Go.IntKind.u8 dst))), ((585 : Nat), (Go.Sx.Reg.mk Bool.false (Go.Sx.Ct.ints Go.IntKind.u8 ys2))), ((601 : Nat), (Go.Sx.Reg.mk Bool.false (Go.Sx.Ct.ints Go.IntKind.u8 ys5))), ((617 : Nat), (Go.Sx.Reg.mk Bool.false (Go.Sx.Ct.ints Go.IntKind.u8 ys9)))]))))))))))))))))))))))))))))))) := by kernel_rfl
theorem vc_ien (dst : List Int) (l2 c2 : Nat) (n : Int) (K : SV → Mem → Prop) : (execF cxIE u0 Tryd.f5 64 [.val (.slice none 0 0), .slice 9 (.lit 0) (.sym l2) (.sym c2), .int .i64 (.sym n)] (memL [(0, ⟨true, .ints .u32 kL⟩), (9, ⟨true, .ints .u8 dst⟩)]) K) =
  (((((decide (n < (0 : Int))) = Bool.true) → (K (Go.Sx.SV.tup [(Go.Sx.SV.val (Go.Value.slice Option.none (0 : Nat) (0 : Nat))), (Go.Sx.SV.bool (Go.Sx.B.lit Bool.false))]) (Go.Sx.memL [((0 : Nat), (Go.Sx.Reg.mk Bool.true (Go.Sx.Ct.ints Go.IntKind.u32 Go.Sx.kL))), ((9 : Nat), (Go.Sx.Reg.mk Bool.true (Go.Sx.Ct.ints Go.IntKind.u8 dst)))]))) ∧
 (((decide (n < (0 : Int))) = Bool.false) → ((((decide (n > (20000 : Int))) = Bool.true) → (K (Go.Sx.SV.tup [(Go.Sx.SV.val (Go.Value.slice Option.none (0 : Nat) (0 : Nat))), (Go.Sx.SV.bool (Go.Sx.B.lit Bool.false))]) (Go.Sx.memL [((0 : Nat), (Go.Sx.Reg.mk Bool.true (Go.Sx.Ct.ints Go.IntKind.u32 Go.Sx.kL))), ((9 : Nat), (Go.Sx.Reg.mk Bool.true (Go.Sx.Ct.ints Go.IntKind.u8 dst)))]))) ∧
 (((decide (n > (20000 : Int))) = Bool.false) → ((((0 : Nat) + (l2 * (1 : Nat))) ≤ (List.length dst)) ∧
 ((((List.length (List.take (l2 * (1 : Nat)) (List.drop (0 : Nat) dst))) = l2) ∧
 (l2 ≤ (549755813888 : Nat))) ∧
 (∀ (ys0 : (List Int)), (∀ (cap1 : Nat), ((Go.Sx.Rw ys0 (List.take (l2 * (1 : Nat)) (List.drop (0 : Nat) dst)) l2 cap1) → (∀ (ys2 : (List Int)), ((ys2 = ys0) → ((((0 : Nat) + (l2 * (1 : Nat))) ≤ (List.length ys2)) ∧
 (((Go.Sx.kL = Go.Sx.kL) ∧
 (((List.length (List.take (l2 * (1 : Nat)) (List.drop (0 : Nat) ys2))) = l2) ∧
 ((l2 ≤ cap1) ∧
 ((Go.Sx.Bytes (List.take (l2 * (1 : Nat)) (List.drop (0 : Nat) ys2))) ∧
 ((l2 ≤ (65536 : Nat)) ∧
 (((32 : Int) ≤ n) ∧
 (n ≤ (65536 : Int)))))))) ∧
 (((n > (8160 : Int)) → (∀ (s3 : ByteArray), (K (Go.Sx.SV.tup [(Go.Sx.SV.val (Go.Value.slice Option.none (0 : Nat) (0 : Nat))), (Go.Sx.SV.bool (Go.Sx.B.lit Bool.false))]) (Go.Sx.memL [((0 : Nat), (Go.Sx.Reg.mk Bool.true (Go.Sx.Ct.ints Go.IntKind.u32 Go.Sx.kL))), ((9 : Nat), (Go.Sx.Reg.mk Bool.true (Go.Sx.Ct.ints Go.IntKind.u8 dst))), ((601 : Nat), (Go.Sx.Reg.mk Bool.false (Go.Sx.Ct.ints Go.IntKind.u8 ys2))), ((617 : Nat), (Go.Sx.Reg.mk Bool.false (Go.Sx.Ct.cells [(Go.Sx.SV.val (Go.Value.string s3))])))])))) ∧
 (((n ≤ (8160 : Int)) → (((List.length (List.take (l2 * (1 : Nat)) (List.drop (0 : Nat) ys2))) > (255 : Nat)) → (∀ (s4 : ByteArray), (K (Go.Sx.SV.tup [(Go.Sx.SV.val (Go.Value.slice Option.none (0 : Nat) (0 : Nat))), (Go.Sx.SV.bool (Go.Sx.B.lit Bool.false))]) (Go.Sx.memL [((0 : Nat), (Go.Sx.Reg.mk Bool.true (Go.Sx.Ct.ints Go.IntKind.u32 Go.Sx.kL))), ((9 : Nat), (Go.Sx.Reg.mk Bool.true (Go.Sx.Ct.ints Go.IntKind.u8 dst))), ((601 : Nat), (Go.Sx.Reg.mk Bool.false (Go.Sx.Ct.ints Go.IntKind.u8 ys2))), ((617 : Nat), (Go.Sx.Reg.mk Bool.false (Go.Sx.Ct.cells [(Go.Sx.SV.val (Go.Value.string s4))])))]))))) ∧
 ((n ≤ (8160 : Int)) → (((List.length (List.take (l2 * (1 : Nat)) (List.drop (0 : Nat) ys2))) ≤ (255 : Nat)) → (∀ (ys5 : (List Int)), ((ys5 = (Go.Sx.expand [] (List.take (l2 * (1 : Nat)) (List.drop (0 : Nat) ys2)) (Int.toNat n))) → (∀ (ys6 : (List Int)), ((ys6 = ys5) → (K (Go.Sx.SV.tup [(Go.Sx.SV.slice (617 : Nat) (Go.Sx.N.lit (0 : Nat)) (Go.Sx.N.sym (Int.toNat n)) (Go.Sx.N.sym (Int.toNat n))), (Go.Sx.SV.bool (Go.Sx.B.lit Bool.true))]) (Go.Sx.memL [((0 : Nat), (Go.Sx.Reg.mk Bool.true (Go.Sx.Ct.ints Go.IntKind.u32 Go.Sx.kL))), ((9 : Nat), (Go.Sx.Reg.mk Bool.true (Go.Sx.Ct.ints Go.IntKind.u8 dst))), ((601 : Nat), (Go.Sx.Reg.mk Bool.false (Go.Sx.Ct.ints Go.IntKind.u8 ys2))), ((617 : Nat), (Go.Sx.Reg.mk Bool.false (Go.Sx.Ct.ints Go.IntKind.u8 ys6)))])))))))))))))))))))))))) := by kernel_rfl

def ieK (msg dst : List Int) (n : Int) (K : SV → Mem → Prop) : Prop :=
  (n > 8160 ∨ dst.length > 255 → K (.tup [.val (.slice none 0 0), .bool (.lit false)]) (memL [])) ∧
  (n ≤ 8160 → dst.length ≤ 255 → ∀ ys, ys = expand msg dst n.toNat → K (.tup [.slice 617 (.lit 0) (.sym n.toNat) (.sym n.toNat), .bool (.lit true)]) (memL [(617, ⟨false, .ints .u8 ys⟩)]))
theorem ie_walk (msg dst : List Int) (l c l2 c2 : Nat) (n : Int) (K : SV → Mem → Prop) (hl : msg.length = l) (hl2 : dst.length = l2) (hb : Bytes msg) (hb2 : Bytes dst) (h1 : l ≤ 65536) (h2 : l2 ≤ 65536) (hn : 32 ≤ n) (hn2 : n ≤ 20000) (hup : KUp K) (h : ieK msg dst n K) :
    execF cxIE u0 Tryd.f5 64 [.slice 9 (.lit 0) (.sym l) (.sym c), .slice 17 (.lit 0) (.sym l2) (.sym c2), .int .i64 (.sym n)] (memL [(0, ⟨true, .ints .u32 kL⟩), (9, ⟨true, .ints .u8 msg⟩), (17, ⟨true, .ints .u8 dst⟩)]) K := by
  rw [vc_ie]
  obtain ⟨hK1, hK2⟩ := h
  refine ⟨fun hneg => ?_, fun _ => ⟨fun hbig => ?_, fun _ => ?_⟩⟩
  · simp only [decide_eq_true_eq] at hneg
    omega
  · simp only [decide_eq_true_eq] at hbig
    omega
  rw [take1 _ hl, take1 _ hl2]
  refine ⟨by omega, ⟨hl, by omega⟩, ?_⟩
  rintro ys0 cap1 r1 ys2 rfl
  refine ⟨by omega, ⟨hl2, by omega⟩, ?_⟩
  rintro ys3 cap4 r2 ys5 rfl
  rw [r1.take1, r2.take1]
  have q2 := r2.le
  have q2n := r2.len
  have q1 := r1.le
  have q1n := r1.len
  refine ⟨⟨by omega, by omega⟩, ⟨rfl, hl, hl2, r1.le, r2.le, hb, hb2, h1, h2, hn, by omega⟩, ?_⟩
  have hsub : ∀ (g : Reg), MemLe (memL [(617, g)]) (memL [(0, ⟨true, .ints .u32 kL⟩), (9, ⟨true, .ints .u8 msg⟩), (17, ⟨true, .ints .u8 dst⟩), (585, ⟨false, .ints .u8 ys2⟩), (601, ⟨false, .ints .u8 ys5⟩), (617, g)]) := fun g => memL_sub [0, 9, 17, 585, 601, 617] rfl (by decide) (by
    intro x hx
    simp only [List.mem_cons, List.not_mem_nil, or_false] at hx ⊢
    iterate 5 (apply Or.inr)
    exact hx)
  refine ⟨fun a s => ?_, fun a b s => ?_, fun a b ys8 e8 ys9 e9 => ?_⟩
  · exact hup.le (memL_sub (l := []) [0, 9, 17, 585, 601, 617] rfl (by decide) (by intro x hx; cases hx)) (hK1 (.inl a))
  · exact hup.le (memL_sub (l := []) [0, 9, 17, 585, 601, 617] rfl (by decide) (by intro x hx; cases hx)) (hK1 (.inr b))
  · exact hup.le (hsub _) (hK2 a b _ (e9.trans e8))
theorem ien_walk (dst : List Int) (l2 c2 : Nat) (n : Int) (K : SV → Mem → Prop) (hl2 : dst.length = l2) (hb2 : Bytes dst) (h2 : l2 ≤ 65536) (hn : 32 ≤ n) (hn2 : n ≤ 20000) (hup : KUp K) (h : ieK [] dst n K) :
    execF cxIE u0 Tryd.f5 64 [.val (.slice none 0 0), .slice 9 (.lit 0) (.sym l2) (.sym c2), .int .i64 (.sym n)] (memL [(0, ⟨true, .ints .u32 kL⟩), (9, ⟨true, .ints .u8 dst⟩)]) K := by
  rw [vc_ien]
  obtain ⟨hK1, hK2⟩ := h
  refine ⟨fun hneg => ?_, fun _ => ⟨fun hbig => ?_, fun _ => ?_⟩⟩
  · simp only [decide_eq_true_eq] at hneg
    omega
  · simp only [decide_eq_true_eq] at hbig
    omega
  rw [take1 _ hl2]
  refine ⟨by omega, ⟨hl2, by omega⟩, ?_⟩
  rintro ys3 cap4 r2 ys5 rfl
  rw [r2.take1]
  have q2 := r2.le
  have q2n := r2.len
  refine ⟨by omega, ⟨rfl, hl2, r2.le, hb2, h2, hn, by omega⟩, ?_⟩
  have hsub : ∀ (g : Reg), MemLe (memL [(617, g)]) (memL [(0, ⟨true, .ints .u32 kL⟩), (9, ⟨true, .ints .u8 dst⟩), (601, ⟨false, .ints .u8 ys5⟩), (617, g)]) := fun g => memL_sub [0, 9, 601, 617] rfl (by decide) (by
    intro x hx
    simp only [List.mem_cons, List.not_mem_nil, or_false] at hx ⊢
    iterate 3 (apply Or.inr)
    exact hx)
  refine ⟨fun a s => ?_, fun a b s => ?_, fun a b ys8 e8 ys9 e9 => ?_⟩
  · exact hup.le (memL_sub (l := []) [0, 9, 601, 617] rfl (by decide) (by intro x hx; cases hx)) (hK1 (.inl a))
  · exact hup.le (memL_sub (l := []) [0, 9, 601, 617] rfl (by decide) (by intro x hx; cases hx)) (hK1 (.inr b))
  · exact hup.le (hsub _) (hK2 a b _ (e9.trans e8))

def gIE : G0 := fun args l K =>
  match args, l with
  | [.slice 9 (.lit 0) (.sym n1) (.sym _), .slice 17 (.lit 0) (.sym n2) (.sym _), .int .i64 (.sym n)], [(0, ⟨true, .ints .u32 ks⟩), (9, ⟨true, .ints .u8 msg⟩), (17, ⟨true, .ints .u8 dst⟩)] =>
    (ks = kL ∧ msg.length = n1 ∧ dst.length = n2 ∧ Bytes msg ∧ Bytes dst ∧ n1 ≤ 65536 ∧ n2 ≤ 65536 ∧ 32 ≤ n ∧ n ≤ 20000) ∧ ieK msg dst n K
  | [.val (.slice none 0 0), .slice 9 (.lit 0) (.sym n2) (.sym _), .int .i64 (.sym n)], [(0, ⟨true, .ints .u32 ks⟩), (9, ⟨true, .ints .u8 dst⟩)] =>
    (ks = kL ∧ dst.length = n2 ∧ Bytes dst ∧ n2 ≤ 65536 ∧ 32 ≤ n ∧ n ≤ 20000) ∧ ieK [] dst n K
  | _, _ => False
theorem ieK_mono {msg dst : List Int} {n : Int} {K K' : SV → Mem → Prop} (hk : ∀ v m, K v m → K' v m) (h : ieK msg dst n K) : ieK msg dst n K' :=
  ⟨fun a => hk _ _ (h.1 a), fun a b ys e => hk _ _ (h.2 a b ys e)⟩
theorem ieK_live {msg dst : List Int} {n : Int} {K : SV → Mem → Prop} (h : ieK msg dst n K) : ∃ v m, K v m := by
  by_cases h1 : n > 8160 ∨ dst.length > 255
  · exact ⟨_, _, h.1 h1⟩
  · exact ⟨_, _, h.2 (by omega) (by omega) _ rfl⟩
theorem ie_good : Good gIE := by
  constructor
  · intro args l K K' hk h
    unfold gIE at h ⊢
    split at h
    · exact ⟨h.1, ieK_mono hk h.2⟩
    · exact ⟨h.1, ieK_mono hk h.2⟩
    · exact h.elim
  · intro args l K h
    unfold gIE at h
    split at h
    · exact ieK_live h.2
    · exact ieK_live h.2
    · exact h.elim
theorem ie_ok (args : List SV) (l : List (Nat × Reg)) (K : SV → Mem → Prop) (hup : KUp K) (h : gIE args l K) : ∃ U, execF cxIE U Tryd.f5 64 args (memL l) K := by
  refine ⟨u0, ?_⟩
  unfold gIE at h
  split at h
  · rename_i n1 c1 n2 c2 n ks msg dst
    obtain ⟨⟨hk, h1, h2, h5, h6, h7, h8, h9, h10⟩, hc⟩ := h
    subst hk
    exact ie_walk msg dst n1 c1 n2 c2 n K h1 h2 h5 h6 h7 h8 h9 h10 hup hc
  · rename_i n2 c2 n ks dst
    obtain ⟨⟨hk, h2, h6, h8, h9, h10⟩, hc⟩ := h
    subst hk
    exact ien_walk dst n2 c2 n K h2 h6 h8 h9 h10 hup hc
  · exact h.elim
def cIE : Ef Tryd.prog := mkNw mixed 5 Tryd.func5 (by decide) (by kernel_rfl) [0] [.sl 1 true, .sl 1 true, .num] gIE ie_good ie_ok
end Go.Sx
