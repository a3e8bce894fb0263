/-
  Compiled functions (the reference, the transforms): each is what the compiler makes of the given code, by the kernel. No condition but what each theorem names.
-/
import Derived.Test.YtahmhofnilgfgaaDoorVNtoVO
import Derived.Test.YtahmhofnilgfgaaDoorChecked
set_option linter.unusedVariables false
set_option linter.unusedSimpArgs false
namespace Go.VM
open Go Go.Proofs
local instance iopEA : CoeFun Nat (fun _ => VI → Item) := ⟨fun d => .op none (some d)⟩
def ic (k : IntKind) : Nat → List Int → List (Nat × Nat × X)
  | _, [] => []
  | i, m :: l => (i, 1, .c (.int k m)) :: ic k (i + 1) l
def z16 : List V := List.replicate 16 (.int .u8 0)
local instance icoEA : Coe Int X := ⟨fun n => .c (.int .i64 n)⟩
def c13 : VC := (.seq (.reg [(1:Nat) (.box 79 (.t 0)),
(2:Nat) (.alloc (.ints .i32 (List.replicate 64 0) 79))] [1, 2])
(.seq (.reg [(3:Nat) (.ldA 64 (.t 1)),
.call (some 4) 31 [(.t 3), (.c (.bool true)), (.c (.fn 32 []))],
.call (some 5) 31 [(.t 4), (.c (.bool false)), (.c (.fn 33 []))],
.op none none (.st 64 (.t 2) (.t 5))] [2])
.ret))
def F13 : VFn := { nt := 6, res := [.cells 2 64], body := c13 }
theorem is13 : compFn Tryd.prog (kz c13) 13 = some F13 := by kernel_rfl
def c19l0 : VC := (.seq (.reg [(22:Nat) (.bin .lss (.t 21) (64:Int))] [4, 5, 6, 7, 8, 21, 22])
(.seq (.cond (.t 22) .skip
(.exit 0))
(.seq (.block 1 (.seq (.reg [(23:Nat) (.mov (.t 21)),
(9:Nat) (.mov (.t 23))] [4, 5, 6, 7, 8, 9, 21])
(.reg [(24:Nat) (.mov (.t 9)),
(25:Nat) (.mov (.t 9)),
(26:Nat) (.idxA 64 1 (.t 7) (.t 25)),
(27:Nat) (.ld (.t 26)),
(28:Nat) (.idxA 64 1 (.t 6) (.t 27)),
(29:Nat) (.ld (.t 28)),
(30:Nat) (.mov (.t 5)),
(31:Nat) (.bin .mul (.t 29) (.t 30)),
(32:Nat) (.bin .add (.t 31) (50:Int)),
(33:Nat) (.bin .quo (.t 32) (100:Int)),
(34:Nat) (.mm false (.t 33) (1:Int)),
(35:Nat) (.mm true (.t 34) (255:Int)),
(36:Nat) (.idxA 64 1 (.t 8) (.t 24)),
.op none none (.st 1 (.t 36) (.t 35))] [4, 5, 6, 7, 8, 21])))
(.reg [(37:Nat) (.bin .add (.t 21) (1:Int)),
(21:Nat) (.mov (.t 37))] [4, 5, 6, 7, 8, 21]))))
def c19t : VC := (.seq (.reg [(17:Nat) (.mov (.t 0)),
.call (some 18) 49 [(.t 17)],
.call (some 19) 22 [],
(6:Nat) (.alloc (.ints .i64 (List.replicate 64 0) 60)),
(7:Nat) (.alloc (.ints .i64 (List.replicate 64 0) 60)),
.op none none (.st 64 (.t 6) (.t 18)),
.op none none (.st 64 (.t 7) (.t 19))] [4, 5, 6, 7])
(.seq (.reg [(20:Nat) (.build (.ints .i64 (List.replicate 64 0)) []),
(8:Nat) (.alloc (.ints .i64 (List.replicate 64 0) 60)),
.op none none (.st 64 (.t 8) (.t 20))] [4, 5, 6, 7, 8])
(.seq (.seq (.reg [(21:Nat) (.mov (0:Int))] [4, 5, 6, 7, 8, 21])
(.block 0 (.loop c19l0)))
(.seq (.reg [(38:Nat) (.ldA 64 (.t 8)),
.op none none (.st 64 (.t 4) (.t 38))] [4])
.ret))))
def c19 : VC := (.seq (.reg [(4:Nat) (.alloc (.ints .i64 (List.replicate 64 0) 60))] [0, 1, 4])
(.seq (.reg [(10:Nat) (.mov (.t 1)),
(11:Nat) (.bin .mul (2:Int) (.t 10)),
(12:Nat) (.bin .sub (200:Int) (.t 11)),
(5:Nat) (.mov (.t 12))] [0, 1, 4, 5])
(.seq (.seq (.reg [(13:Nat) (.mov (.t 1)),
(14:Nat) (.bin .lss (.t 13) (50:Int))] [0, 1, 4, 5, 14])
(.cond (.t 14) (.reg [(15:Nat) (.mov (.t 1)),
(16:Nat) (.bin .quo (5000:Int) (.t 15)),
(5:Nat) (.mov (.t 16))] [0, 4, 5])
.skip))
  c19t)))
def F19 : VFn := { nt := 39, res := [.cells 4 64], body := c19 }
theorem is19 : compFn Tryd.prog (kz c19) 19 = some F19 := by kernel_rfl
def h21 : List (Nat × List Nat) := [(0, [0, 1]), (1, [0, 1, 5]), (2, [0, 1, 5, 6]), (3, [5]), (4, [5, 6]), (5, [5, 6]), (6, [1, 5, 6, 18]), (7, [5, 6, 21]), (8, [5, 6]), (9, [5, 6, 22]), (10, [5, 6, 22, 23]), (11, [5, 6, 7, 22]), (12, [5, 6, 22]), (13, [5, 6, 22]), (14, [30]), (15, [5]), (16, [5, 6]), (17, [5, 6]), (18, [5, 6, 8]), (19, [5, 6, 8, 9]), (20, [5, 6, 8, 9, 10]), (21, [5, 6, 8, 9, 10, 40]), (22, [5, 6, 8, 9, 10]), (23, [5, 6, 8, 9, 10]), (24, [5, 6, 8, 9, 10, 58, 59]), (25, [5, 6, 8, 9, 10, 58, 59, 60]), (26, [5, 6, 8, 9, 10, 11, 58, 59]), (27, [5, 6, 8, 9, 10, 11, 58, 59]), (28, [5, 6, 8, 9, 10, 58, 59]), (29, [5, 6, 8, 9, 10, 58, 59]), (30, [5, 6, 8, 9, 10, 58, 59]), (31, [5, 6, 8, 9, 10]), (32, [4])]
def c21l0 : VC := (.seq (.reg [(23:Nat) (.bin .lss (.t 22) (12:Int))] [5, 6, 22, 23])
(.seq (.cond (.t 23) .skip
(.exit 1))
(.seq (.block 2 (.seq (.reg [(24:Nat) (.mov (.t 22)),
(7:Nat) (.mov (.t 24))] [5, 6, 7, 22])
(.reg [(25:Nat) (.mov (.t 6)),
(26:Nat) (.mov (.t 7)),
(27:Nat) (.bsl 3 1 (.ints .i64 [0]) [(0, 1, (.t 26))]),
.app (some 28) .i64 3 (.t 25) (.t 27),
(6:Nat) (.mov (.t 28))] [5, 6, 22])))
(.reg [(29:Nat) (.bin .add (.t 22) (1:Int)),
(22:Nat) (.mov (.t 29))] [5, 6, 22]))))
def c21l1 : VC := (.seq (.reg [(60:Nat) (.bin .lss (.t 59) (.t 58))] [5, 6, 8, 9, 10, 58, 59, 60])
(.seq (.cond (.t 60) .skip
(.exit 5))
(.seq (.block 6 (.seq (.reg [(61:Nat) (.mov (.t 6)),
(62:Nat) (.mov (.t 8)),
(63:Nat) (.nilck (.t 62)),
(64:Nat) (.fld 17 (.t 63)),
(65:Nat) (.ld (.t 64)),
(66:Nat) (.len (.t 65)),
(67:Nat) (.idxS 1 (.t 61) (.t 66)),
(68:Nat) (.ld (.t 67)),
(11:Nat) (.mov (.t 68))] [5, 6, 8, 9, 10, 11, 58, 59])
(.seq (.reg [(69:Nat) (.mov (.t 8)),
(70:Nat) (.mov (.t 8)),
(71:Nat) (.nilck (.t 70)),
(72:Nat) (.fld 17 (.t 71)),
(73:Nat) (.ld (.t 72)),
(74:Nat) (.mov (.t 11)),
(75:Nat) (.bsl 3 1 (.ints .i64 [0]) [(0, 1, (.t 74))]),
.app (some 76) .i64 3 (.t 73) (.t 75),
(77:Nat) (.nilck (.t 69)),
(78:Nat) (.fld 17 (.t 77)),
.op none none (.st 1 (.t 78) (.t 76))] [5, 6, 8, 9, 10, 11, 58, 59])
(.seq (.drw [(79:Nat) (.mov (.t 8)),
(80:Nat) (.mov (.t 11)),
(81:Nat) (.mov (.t 8)),
(82:Nat) (.mov (.t 11)),
(83:Nat) (.mov (.t 9)),
(84:Nat) (.mov (.t 10)),
(85:Nat) (.nilck (.t 79)),
(86:Nat) (.fld 18 (.t 85)),
(87:Nat) (.idxA 256 1 (.t 86) (.t 80)),
(88:Nat) (.nilck (.t 81)),
(89:Nat) (.fld 274 (.t 88))] [(.op none none (.st 1 (.t 87) (.t 83)), [(81:Nat) (.mov (.t 8)),
(82:Nat) (.mov (.t 11)),
(84:Nat) (.mov (.t 10)),
(88:Nat) (.nilck (.t 81)),
(89:Nat) (.fld 274 (.t 88))], [(90:Nat) (.idxA 256 1 (.t 89) (.t 82))]), (.op none none (.st 1 (.t 90) (.t 84)), [], [])] [5, 6, 8, 9, 10, 58, 59])
(.reg [(91:Nat) (.mov (.t 9)),
(92:Nat) (.bin .add (.t 91) (1:Int)),
(9:Nat) (.mov (.t 92))] [5, 6, 8, 9, 10, 58, 59])))))
(.reg [(93:Nat) (.bin .add (.t 59) (1:Int)),
(59:Nat) (.mov (.t 93))] [5, 6, 8, 9, 10, 58, 59]))))
def c21l2 : VC := (.seq (.seq (.reg [(39:Nat) (.mov (.t 10)),
(40:Nat) (.bin .leq (.t 39) (16:Int))] [5, 6, 8, 9, 10, 40])
(.cond (.t 40) .skip
(.exit 3)))
(.seq (.block 4 (.seq (.drt [(43:Nat) (.mov (.t 8)),
(44:Nat) (.mov (.t 10)),
(45:Nat) (.mov (.t 5)),
(46:Nat) (.mov (.t 10)),
(47:Nat) (.bin .sub (.t 46) (1:Int)),
(48:Nat) (.idxStr (.t 45) (.t 47)),
(49:Nat) (.conv .i64 (.t 48)),
(50:Nat) (.nilck (.t 43)),
(51:Nat) (.fld 0 (.t 50)),
(52:Nat) (.idxA 17 1 (.t 51) (.t 44))] [.op none none (.st 1 (.t 52) (.t 49))] [5, 6, 8, 9, 10])
(.seq (.seq (.reg [(53:Nat) (.mov (.t 8)),
(54:Nat) (.mov (.t 10)),
(55:Nat) (.nilck (.t 53)),
(56:Nat) (.fld 0 (.t 55)),
(57:Nat) (.idxA 17 1 (.t 56) (.t 54)),
(58:Nat) (.ld (.t 57)),
(59:Nat) (.mov (0:Int))] [5, 6, 8, 9, 10, 58, 59])
(.block 5 (.loop c21l1)))
(.reg [(94:Nat) (.mov (.t 9)),
(95:Nat) (.bin .mul (.t 94) (2:Int)),
(9:Nat) (.mov (.t 95))] [5, 6, 8, 9, 10]))))
(.reg [(41:Nat) (.mov (.t 10)),
(42:Nat) (.bin .add (.t 41) (1:Int)),
(10:Nat) (.mov (.t 42))] [5, 6, 8, 9, 10])))
def c21 : VC := (.seq (.reg [(4:Nat) (.mov (.c .nilp))] [0, 1])
(.seq (.reg [(5:Nat) (.mov (.c (.str ⟨#[0, 1, 5, 1, 1, 1, 1, 1, 1, 0, 0, 0, 0, 0, 0, 0]⟩)))] [0, 1, 5])
(.seq (.reg [(12:Nat) (.bsl 3 0 (.ints .i64 []) []),
(6:Nat) (.mov (.t 12))] [0, 1, 5, 6])
(.seq (.block 0 (.seq (.reg [(19:Nat) (.mov (.t 0)),
(20:Nat) (.bin .eql (.t 19) (0:Int)),
(18:Nat) (.mov (.t 20))] [1, 5, 6, 18])
(.cond (.t 18) (.seq (.seq (.reg [(21:Nat) (.mov (.t 1))] [5, 6, 21])
(.cond (.t 21) (.reg [(5:Nat) (.mov (.c (.str ⟨#[0, 3, 1, 1, 1, 1, 1, 1, 1, 1, 1, 0, 0, 0, 0, 0]⟩)))] [5, 6])
.skip))
(.seq (.reg [(22:Nat) (.mov (0:Int))] [5, 6, 22])
(.block 1 (.loop c21l0))))
(.seq (.reg [(31:Nat) (.mov (.t 1)),
(30:Nat) (.mov (.t 31))] [30])
(.cond (.t 30) (.seq (.reg [(5:Nat) (.mov (.c (.str ⟨#[0, 2, 1, 2, 4, 4, 3, 4, 7, 5, 4, 4, 0, 1, 2, 119]⟩)))] [5])
(.seq (.reg [(32:Nat) (.bsl 3 43 (.ints .i64 (List.replicate 43 0)) (ic .i64 0 [0, 1, 2, 3, 17, 4, 5, 33, 49, 6, 18, 65, 81, 7, 97, 113, 19, 34, 50, 129, 8, 20, 66, 145, 161, 177, 193, 9, 35, 51, 82, 240, 21, 98, 114, 209, 10, 22, 36, 52, 225, 37, 241])),
(6:Nat) (.mov (.t 32))] [5, 6])
(.reg [(33:Nat) (.mov (.t 6)),
(34:Nat) (.mov (.t 6)),
.call (some 35) 50 [(.t 34)],
.app (some 36) .i64 3 (.t 33) (.t 35),
(6:Nat) (.mov (.t 36))] [5, 6])))
(.seq (.reg [(5:Nat) (.mov (.c (.str ⟨#[0, 2, 1, 3, 3, 2, 4, 3, 5, 5, 4, 4, 0, 0, 1, 125]⟩)))] [5])
(.seq (.reg [(13:Nat) (.bsl 3 37 (.ints .i64 (List.replicate 37 0)) (ic .i64 0 [1, 2, 3, 0, 4, 17, 5, 18, 33, 49, 65, 6, 19, 81, 97, 7, 34, 113, 20, 50, 129, 145, 161, 8, 35, 66, 177, 193, 21, 82, 209, 240, 36, 51, 98, 114, 130])),
(6:Nat) (.mov (.t 13))] [5, 6])
(.reg [(14:Nat) (.mov (.t 6)),
(15:Nat) (.mov (.t 6)),
.call (some 16) 50 [(.t 15)],
.app (some 17) .i64 3 (.t 14) (.t 16),
(6:Nat) (.mov (.t 17))] [5, 6]))))))))
(.seq (.reg [(37:Nat) (.build (.agg [(.int .i64 0), (.int .i64 0), (.int .i64 0), (.int .i64 0), (.int .i64 0), (.int .i64 0), (.int .i64 0), (.int .i64 0), (.int .i64 0), (.int .i64 0), (.int .i64 0), (.int .i64 0), (.int .i64 0), (.int .i64 0), (.int .i64 0), (.int .i64 0), (.int .i64 0), .nils, (.int .i64 0), (.int .i64 0), (.int .i64 0), (.int .i64 0), (.int .i64 0), (.int .i64 0), (.int .i64 0), (.int .i64 0), (.int .i64 0), (.int .i64 0), (.int .i64 0), (.int .i64 0), (.int .i64 0), (.int .i64 0), (.int .i64 0), (.int .i64 0), (.int .i64 0), (.int .i64 0), (.int .i64 0), (.int .i64 0), (.int .i64 0), (.int .i64 0), (.int .i64 0), (.int .i64 0), (.int .i64 0), (.int .i64 0), (.int .i64 0), (.int .i64 0), (.int .i64 0), (.int .i64 0), (.int .i64 0), (.int .i64 0), (.int .i64 0), (.int .i64 0), (.int .i64 0), (.int .i64 0), (.int .i64 0), (.int .i64 0), (.int .i64 0), (.int .i64 0), (.int .i64 0), (.int .i64 0), (.int .i64 0), (.int .i64 0), (.int .i64 0), (.int .i64 0), (.int .i64 0), (.int .i64 0), (.int .i64 0), (.int .i64 0), (.int .i64 0), (.int .i64 0), (.int .i64 0), (.int .i64 0), (.int .i64 0), (.int .i64 0), (.int .i64 0), (.int .i64 0), (.int .i64 0), (.int .i64 0), (.int .i64 0), (.int .i64 0), (.int .i64 0), (.int .i64 0), (.int .i64 0), (.int .i64 0), (.int .i64 0), (.int .i64 0), (.int .i64 0), (.int .i64 0), (.int .i64 0), (.int .i64 0), (.int .i64 0), (.int .i64 0), (.int .i64 0), (.int .i64 0), (.int .i64 0), (.int .i64 0), (.int .i64 0), (.int .i64 0), (.int .i64 0), (.int .i64 0), (.int .i64 0), (.int .i64 0), (.int .i64 0), (.int .i64 0), (.int .i64 0), (.int .i64 0), (.int .i64 0), (.int .i64 0), (.int .i64 0), (.int .i64 0), (.int .i64 0), (.int .i64 0), (.int .i64 0), (.int .i64 0), (.int .i64 0), (.int .i64 0), (.int .i64 0), (.int .i64 0), (.int .i64 0), (.int .i64 0), (.int .i64 0), (.int .i64 0), (.int .i64 0), (.int .i64 0), (.int .i64 0), (.int .i64 0), (.int .i64 0), (.int .i64 0), (.int .i64 0), (.int .i64 0), (.int .i64 0), (.int .i64 0), (.int .i64 0), (.int .i64 0), (.int .i64 0), (.int .i64 0), (.int .i64 0), (.int .i64 0), (.int .i64 0), (.int .i64 0), (.int .i64 0), (.int .i64 0), (.int .i64 0), (.int .i64 0), (.int .i64 0), (.int .i64 0), (.int .i64 0), (.int .i64 0), (.int .i64 0), (.int .i64 0), (.int .i64 0), (.int .i64 0), (.int .i64 0), (.int .i64 0), (.int .i64 0), (.int .i64 0), (.int .i64 0), (.int .i64 0), (.int .i64 0), (.int .i64 0), (.int .i64 0), (.int .i64 0), (.int .i64 0), (.int .i64 0), (.int .i64 0), (.int .i64 0), (.int .i64 0), (.int .i64 0), (.int .i64 0), (.int .i64 0), (.int .i64 0), (.int .i64 0), (.int .i64 0), (.int .i64 0), (.int .i64 0), (.int .i64 0), (.int .i64 0), (.int .i64 0), (.int .i64 0), (.int .i64 0), (.int .i64 0), (.int .i64 0), (.int .i64 0), (.int .i64 0), (.int .i64 0), (.int .i64 0), (.int .i64 0), (.int .i64 0), (.int .i64 0), (.int .i64 0), (.int .i64 0), (.int .i64 0), (.int .i64 0), (.int .i64 0), (.int .i64 0), (.int .i64 0), (.int .i64 0), (.int .i64 0), (.int .i64 0), (.int .i64 0), (.int .i64 0), (.int .i64 0), (.int .i64 0), (.int .i64 0), (.int .i64 0), (.int .i64 0), (.int .i64 0), (.int .i64 0), (.int .i64 0), (.int .i64 0), (.int .i64 0), (.int .i64 0), (.int .i64 0), (.int .i64 0), (.int .i64 0), (.int .i64 0), (.int .i64 0), (.int .i64 0), (.int .i64 0), (.int .i64 0), (.int .i64 0), (.int .i64 0), (.int .i64 0), (.int .i64 0), (.int .i64 0), (.int .i64 0), (.int .i64 0), (.int .i64 0), (.int .i64 0), (.int .i64 0), (.int .i64 0), (.int .i64 0), (.int .i64 0), (.int .i64 0), (.int .i64 0), (.int .i64 0), (.int .i64 0), (.int .i64 0), (.int .i64 0), (.int .i64 0), (.int .i64 0), (.int .i64 0), (.int .i64 0), (.int .i64 0), (.int .i64 0), (.int .i64 0), (.int .i64 0), (.int .i64 0), (.int .i64 0), (.int .i64 0), (.int .i64 0), (.int .i64 0), (.int .i64 0), (.int .i64 0), (.int .i64 0), (.int .i64 0), (.int .i64 0), (.int .i64 0), (.int .i64 0), (.int .i64 0), (.int .i64 0), (.int .i64 0), (.int .i64 0), (.int .i64 0), (.int .i64 0), (.int .i64 0), (.int .i64 0), (.int .i64 0), (.int .i64 0), (.int .i64 0), (.int .i64 0), (.int .i64 0), (.int .i64 0), (.int .i64 0), (.int .i64 0), (.int .i64 0), (.int .i64 0), (.int .i64 0), (.int .i64 0), (.int .i64 0), (.int .i64 0), (.int .i64 0), (.int .i64 0), (.int .i64 0), (.int .i64 0), (.int .i64 0), (.int .i64 0), (.int .i64 0), (.int .i64 0), (.int .i64 0), (.int .i64 0), (.int .i64 0), (.int .i64 0), (.int .i64 0), (.int .i64 0), (.int .i64 0), (.int .i64 0), (.int .i64 0), (.int .i64 0), (.int .i64 0), (.int .i64 0), (.int .i64 0), (.int .i64 0), (.int .i64 0), (.int .i64 0), (.int .i64 0), (.int .i64 0), (.int .i64 0), (.int .i64 0), (.int .i64 0), (.int .i64 0), (.int .i64 0), (.int .i64 0), (.int .i64 0), (.int .i64 0), (.int .i64 0), (.int .i64 0), (.int .i64 0), (.int .i64 0), (.int .i64 0), (.int .i64 0), (.int .i64 0), (.int .i64 0), (.int .i64 0), (.int .i64 0), (.int .i64 0), (.int .i64 0), (.int .i64 0), (.int .i64 0), (.int .i64 0), (.int .i64 0), (.int .i64 0), (.int .i64 0), (.int .i64 0), (.int .i64 0), (.int .i64 0), (.int .i64 0), (.int .i64 0), (.int .i64 0), (.int .i64 0), (.int .i64 0), (.int .i64 0), (.int .i64 0), (.int .i64 0), (.int .i64 0), (.int .i64 0), (.int .i64 0), (.int .i64 0), (.int .i64 0), (.int .i64 0), (.int .i64 0), (.int .i64 0), (.int .i64 0), (.int .i64 0), (.int .i64 0), (.int .i64 0), (.int .i64 0), (.int .i64 0), (.int .i64 0), (.int .i64 0), (.int .i64 0), (.int .i64 0), (.int .i64 0), (.int .i64 0), (.int .i64 0), (.int .i64 0), (.int .i64 0), (.int .i64 0), (.int .i64 0), (.int .i64 0), (.int .i64 0), (.int .i64 0), (.int .i64 0), (.int .i64 0), (.int .i64 0), (.int .i64 0), (.int .i64 0), (.int .i64 0), (.int .i64 0), (.int .i64 0), (.int .i64 0), (.int .i64 0), (.int .i64 0), (.int .i64 0), (.int .i64 0), (.int .i64 0), (.int .i64 0), (.int .i64 0), (.int .i64 0), (.int .i64 0), (.int .i64 0), (.int .i64 0), (.int .i64 0), (.int .i64 0), (.int .i64 0), (.int .i64 0), (.int .i64 0), (.int .i64 0), (.int .i64 0), (.int .i64 0), (.int .i64 0), (.int .i64 0), (.int .i64 0), (.int .i64 0), (.int .i64 0), (.int .i64 0), (.int .i64 0), (.int .i64 0), (.int .i64 0), (.int .i64 0), (.int .i64 0), (.int .i64 0), (.int .i64 0), (.int .i64 0), (.int .i64 0), (.int .i64 0), (.int .i64 0), (.int .i64 0), (.int .i64 0), (.int .i64 0), (.int .i64 0), (.int .i64 0), (.int .i64 0), (.int .i64 0), (.int .i64 0), (.int .i64 0), (.int .i64 0), (.int .i64 0), (.int .i64 0), (.int .i64 0), (.int .i64 0), (.int .i64 0), (.int .i64 0), (.int .i64 0), (.int .i64 0), (.int .i64 0), (.int .i64 0), (.int .i64 0), (.int .i64 0), (.int .i64 0), (.int .i64 0), (.int .i64 0), (.int .i64 0), (.int .i64 0), (.int .i64 0), (.int .i64 0), (.int .i64 0), (.int .i64 0), (.int .i64 0), (.int .i64 0), (.int .i64 0), (.int .i64 0), (.int .i64 0), (.int .i64 0), (.int .i64 0), (.int .i64 0), (.int .i64 0), (.int .i64 0), (.int .i64 0), (.int .i64 0), (.int .i64 0), (.int .i64 0), (.int .i64 0), (.int .i64 0), (.int .i64 0), (.int .i64 0), (.int .i64 0), (.int .i64 0), (.int .i64 0), (.int .i64 0), (.int .i64 0), (.int .i64 0), (.int .i64 0), (.int .i64 0), (.int .i64 0), (.int .i64 0), (.int .i64 0), (.int .i64 0), (.int .i64 0), (.int .i64 0), (.int .i64 0), (.int .i64 0), (.int .i64 0), (.int .i64 0), (.int .i64 0), (.int .i64 0), (.int .i64 0), (.int .i64 0), (.int .i64 0), (.int .i64 0), (.int .i64 0), (.int .i64 0), (.int .i64 0), (.int .i64 0), (.int .i64 0), (.int .i64 0), (.int .i64 0), (.int .i64 0), (.int .i64 0), (.int .i64 0), (.int .i64 0), (.int .i64 0), (.int .i64 0), (.int .i64 0), (.int .i64 0), (.int .i64 0), (.int .i64 0), (.int .i64 0), (.int .i64 0), (.int .i64 0), (.int .i64 0), (.int .i64 0), (.int .i64 0), (.int .i64 0), (.int .i64 0), (.int .i64 0), (.int .i64 0), (.int .i64 0), (.int .i64 0), (.int .i64 0), (.int .i64 0), (.int .i64 0), (.int .i64 0), (.int .i64 0), (.int .i64 0), (.int .i64 0), (.int .i64 0), (.int .i64 0), (.int .i64 0), (.int .i64 0)]) []),
(38:Nat) (.box 71 (.t 37)),
(8:Nat) (.mov (.t 38))] [5, 6, 8])
(.seq (.reg [(9:Nat) (.mov (0:Int))] [5, 6, 8, 9])
(.seq (.seq (.reg [(10:Nat) (.mov (1:Int))] [5, 6, 8, 9, 10])
(.block 3 (.loop c21l2)))
(.seq (.reg [(96:Nat) (.mov (.t 8)),
(4:Nat) (.mov (.t 96))] [4])
.ret))))))))
def F21 : VFn := { nt := 97, res := [.tmp 4], body := c21 }
theorem is21 : compFn Tryd.prog h21 21 = some F21 := by kernel_rfl
def h22 : List (Nat × List Nat) := [(0, [0, 26, 27, 38, 39]), (1, [0, 1, 26, 27, 38, 39]), (2, [0, 1, 2, 3, 26, 27, 38, 39]), (3, [0, 1, 2, 3, 6, 26, 27, 38, 39]), (4, [0, 1, 2, 3, 6, 7, 26, 27, 38, 39]), (5, [0, 1, 2, 3, 4, 6, 26, 27, 38, 39]), (6, [0, 1, 2, 3, 6, 26, 27, 38, 39]), (7, [0, 1, 2, 3, 6, 26, 27, 38, 39]), (8, [0, 1, 2, 3, 6, 19, 26, 27, 38, 39]), (9, [0, 1, 2, 3, 6, 26, 27, 38, 39]), (10, [0, 1, 2, 3, 6, 26, 27, 31, 38, 39]), (11, [0, 1, 2, 3, 6, 26, 27, 38, 39]), (12, [0, 1, 2, 3, 6, 26, 27, 38, 39, 43]), (13, [0, 1, 2, 3, 6, 26, 27, 38, 39]), (14, [0, 1, 2, 3, 6, 26, 27, 38, 39, 53]), (15, [0, 1, 2, 3, 6, 26, 27, 38, 39]), (16, [0, 1, 2, 3, 6, 26, 27, 38, 39, 58]), (17, [0, 1, 2, 3, 6, 26, 27, 38, 39]), (18, [0, 1, 2, 3, 6, 26, 27, 38, 39]), (19, [0])]
def c22l0 : VC := (.seq (.reg [(7:Nat) (.bin .lss (.t 6) (64:Int))] [0, 1, 2, 3, 6, 7, 26, 27, 38, 39])
(.seq (.cond (.t 7) .skip
(.exit 0))
(.seq (.block 1 (.seq (.reg [(8:Nat) (.mov (.t 6)),
(4:Nat) (.mov (.t 8))] [0, 1, 2, 3, 4, 6, 26, 27, 38, 39])
(.seq (.reg [(9:Nat) (.mov (.t 4)),
(10:Nat) (.mov (.t 3)),
(11:Nat) (.bin .mul (8:Int) (.t 10)),
(12:Nat) (.mov (.t 2)),
(13:Nat) (.bin .add (.t 11) (.t 12)),
(14:Nat) (.idxA 64 1 (.t 1) (.t 9)),
.op none none (.st 1 (.t 14) (.t 13))] [0, 1, 2, 3, 6, 26, 27, 38, 39])
(.block 2 (.seq (.reg [(20:Nat) (.mov (.t 2)),
(21:Nat) (.mov (.t 3)),
(22:Nat) (.bin .add (.t 20) (.t 21)),
(23:Nat) (.bin .rem (.t 22) (2:Int)),
(24:Nat) (.bin .eql (.t 23) (0:Int)),
(25:Nat) (.mov (.t 24)),
.op (some (25, true)) (some 26) (.mov (.t 2)),
.op (some (25, true)) (some 27) (.bin .eql (.t 26) (7:Int)),
(28:Nat) (.pick (.t 25) (.t 27) (.c (.bool false))),
(19:Nat) (.mov (.t 28))] [0, 1, 2, 3, 6, 19, 26, 27, 38, 39])
(.cond (.t 19) (.reg [(29:Nat) (.mov (.t 3)),
(30:Nat) (.bin .add (.t 29) (1:Int)),
(3:Nat) (.mov (.t 30))] [0, 1, 2, 3, 6, 26, 27, 38, 39])
(.seq (.reg [(32:Nat) (.mov (.t 2)),
(33:Nat) (.mov (.t 3)),
(34:Nat) (.bin .add (.t 32) (.t 33)),
(35:Nat) (.bin .rem (.t 34) (2:Int)),
(36:Nat) (.bin .eql (.t 35) (0:Int)),
(37:Nat) (.mov (.t 36)),
.op (some (37, true)) (some 38) (.mov (.t 3)),
.op (some (37, true)) (some 39) (.bin .eql (.t 38) (0:Int)),
(40:Nat) (.pick (.t 37) (.t 39) (.c (.bool false))),
(31:Nat) (.mov (.t 40))] [0, 1, 2, 3, 6, 26, 27, 31, 38, 39])
(.cond (.t 31) (.reg [(41:Nat) (.mov (.t 2)),
(42:Nat) (.bin .add (.t 41) (1:Int)),
(2:Nat) (.mov (.t 42))] [0, 1, 2, 3, 6, 26, 27, 38, 39])
(.seq (.reg [(44:Nat) (.mov (.t 2)),
(45:Nat) (.mov (.t 3)),
(46:Nat) (.bin .add (.t 44) (.t 45)),
(47:Nat) (.bin .rem (.t 46) (2:Int)),
(48:Nat) (.bin .eql (.t 47) (0:Int)),
(43:Nat) (.mov (.t 48))] [0, 1, 2, 3, 6, 26, 27, 38, 39, 43])
(.cond (.t 43) (.reg [(49:Nat) (.mov (.t 2)),
(50:Nat) (.bin .add (.t 49) (1:Int)),
(51:Nat) (.mov (.t 3)),
(52:Nat) (.bin .sub (.t 51) (1:Int)),
(2:Nat) (.mov (.t 50)),
(3:Nat) (.mov (.t 52))] [0, 1, 2, 3, 6, 26, 27, 38, 39])
(.seq (.reg [(54:Nat) (.mov (.t 3)),
(55:Nat) (.bin .eql (.t 54) (7:Int)),
(53:Nat) (.mov (.t 55))] [0, 1, 2, 3, 6, 26, 27, 38, 39, 53])
(.cond (.t 53) (.reg [(56:Nat) (.mov (.t 2)),
(57:Nat) (.bin .add (.t 56) (1:Int)),
(2:Nat) (.mov (.t 57))] [0, 1, 2, 3, 6, 26, 27, 38, 39])
(.seq (.reg [(59:Nat) (.mov (.t 2)),
(60:Nat) (.bin .eql (.t 59) (0:Int)),
(58:Nat) (.mov (.t 60))] [0, 1, 2, 3, 6, 26, 27, 38, 39, 58])
(.cond (.t 58) (.reg [(61:Nat) (.mov (.t 3)),
(62:Nat) (.bin .add (.t 61) (1:Int)),
(3:Nat) (.mov (.t 62))] [0, 1, 2, 3, 6, 26, 27, 38, 39])
(.reg [(15:Nat) (.mov (.t 2)),
(16:Nat) (.bin .sub (.t 15) (1:Int)),
(17:Nat) (.mov (.t 3)),
(18:Nat) (.bin .add (.t 17) (1:Int)),
(2:Nat) (.mov (.t 16)),
(3:Nat) (.mov (.t 18))] [0, 1, 2, 3, 6, 26, 27, 38, 39])))))))))))))))
(.reg [(63:Nat) (.bin .add (.t 6) (1:Int)),
(6:Nat) (.mov (.t 63))] [0, 1, 2, 3, 6, 26, 27, 38, 39]))))
def c22 : VC := (.seq (.reg [(0:Nat) (.alloc (.ints .i64 (List.replicate 64 0) 60))] [0, 26, 27, 38, 39])
(.seq (.reg [(5:Nat) (.build (.ints .i64 (List.replicate 64 0)) []),
(1:Nat) (.alloc (.ints .i64 (List.replicate 64 0) 60)),
.op none none (.st 64 (.t 1) (.t 5))] [0, 1, 26, 27, 38, 39])
(.seq (.reg [(2:Nat) (.mov (0:Int)),
(3:Nat) (.mov (0:Int))] [0, 1, 2, 3, 26, 27, 38, 39])
(.seq (.seq (.reg [(6:Nat) (.mov (0:Int))] [0, 1, 2, 3, 6, 26, 27, 38, 39])
(.block 0 (.loop c22l0)))
(.seq (.reg [(64:Nat) (.ldA 64 (.t 1)),
.op none none (.st 64 (.t 0) (.t 64))] [0])
.ret)))))
def F22 : VFn := { nt := 65, res := [.cells 0 64], body := c22 }
theorem is22 : compFn Tryd.prog h22 22 = some F22 := by kernel_rfl
def c26 : VC := (.seq (.reg [(4:Nat) (.mov (0:Int))] [0, 1])
(.seq (.seq (.reg [(5:Nat) (.mov (.t 0)),
(6:Nat) (.bin .lss (.t 5) (0:Int))] [0, 1, 6])
(.cond (.t 6) (.seq (.reg [(7:Nat) (.mov (.t 0)),
(8:Nat) (.un .neg (.t 7)),
(9:Nat) (.mov (.t 1)),
(10:Nat) (.bin .quo (.t 9) (2:Int)),
(11:Nat) (.bin .add (.t 8) (.t 10)),
(12:Nat) (.mov (.t 1)),
(13:Nat) (.bin .quo (.t 11) (.t 12)),
(14:Nat) (.un .neg (.t 13)),
(4:Nat) (.mov (.t 14))] [4])
.ret)
.skip))
(.seq (.reg [(15:Nat) (.mov (.t 0)),
(16:Nat) (.mov (.t 1)),
(17:Nat) (.bin .quo (.t 16) (2:Int)),
(18:Nat) (.bin .add (.t 15) (.t 17)),
(19:Nat) (.mov (.t 1)),
(20:Nat) (.bin .quo (.t 18) (.t 19)),
(4:Nat) (.mov (.t 20))] [4])
.ret)))
def F26 : VFn := { nt := 21, res := [.tmp 4], body := c26 }
theorem is26 : compFn Tryd.prog (kz c26) 26 = some F26 := by kernel_rfl
def c27l0 : VC := (.seq (.seq (.reg [(8:Nat) (.mov (.t 0)),
(9:Nat) (.bin .gtr (.t 8) (0:Int))] [0, 3, 9])
(.cond (.t 9) .skip
(.exit 0)))
(.seq (.block 1 (.reg [(12:Nat) (.mov (.t 3)),
(13:Nat) (.bin .add (.t 12) (1:Int)),
(3:Nat) (.mov (.t 13))] [0, 3]))
(.reg [(10:Nat) (.mov (.t 0)),
(11:Nat) (.bin .shr (.t 10) (.c (.int .u64 1))),
(0:Nat) (.mov (.t 11))] [0, 3])))
def c27 : VC := (.seq (.reg [(2:Nat) (.mov (0:Int))] [0])
(.seq (.seq (.reg [(4:Nat) (.mov (.t 0)),
(5:Nat) (.bin .lss (.t 4) (0:Int))] [0, 5])
(.cond (.t 5) (.reg [(6:Nat) (.mov (.t 0)),
(7:Nat) (.un .neg (.t 6)),
(0:Nat) (.mov (.t 7))] [0])
.skip))
(.seq (.reg [(3:Nat) (.mov (0:Int))] [0, 3])
(.seq (.block 0 (.loop c27l0))
(.seq (.reg [(14:Nat) (.mov (.t 3)),
(2:Nat) (.mov (.t 14))] [2])
.ret)))))
def F27 : VFn := { nt := 15, res := [.tmp 2], body := c27 }
theorem is27 : compFn Tryd.prog (kz c27) 27 = some F27 := by kernel_rfl
def c28 : VC := (.seq (.reg [(4:Nat) (.mov (.c (.int .u32 0)))] [0, 1])
(.seq (.seq (.reg [(5:Nat) (.mov (.t 0)),
(6:Nat) (.bin .lss (.t 5) (0:Int))] [0, 1, 6])
(.cond (.t 6) (.reg [(7:Nat) (.mov (.t 0)),
(8:Nat) (.mov (.t 1)),
(9:Nat) (.bin .shl (1:Int) (.t 8)),
(10:Nat) (.bin .sub (.t 9) (1:Int)),
(11:Nat) (.bin .add (.t 7) (.t 10)),
(0:Nat) (.mov (.t 11))] [0])
.skip))
(.seq (.reg [(12:Nat) (.mov (.t 0)),
(13:Nat) (.conv .u32 (.t 12)),
(4:Nat) (.mov (.t 13))] [4])
.ret)))
def F28 : VFn := { nt := 14, res := [.tmp 4], body := c28 }
theorem is28 : compFn Tryd.prog (kz c28) 28 = some F28 := by kernel_rfl
def c31l0 : VC := (.seq (.reg [(19:Nat) (.bin .lss (.t 18) (8:Int))] [2, 3, 4, 6, 8, 9, 13, 18, 19])
(.seq (.cond (.t 19) .skip
(.exit 2))
(.seq (.block 3 (.seq (.reg [(20:Nat) (.mov (.t 18)),
(10:Nat) (.mov (.t 20))] [2, 3, 4, 6, 8, 9, 10, 13, 18])
(.reg [(21:Nat) (.mov (.t 10)),
(22:Nat) (.mov (.t 9)),
(23:Nat) (.mov (.t 10)),
.callv (some 24) (.t 22) [(.t 23)],
(25:Nat) (.idxA 64 1 (.t 3) (.t 24)),
(26:Nat) (.ld (.t 25)),
(27:Nat) (.idxA 8 1 (.t 8) (.t 21)),
.op none none (.st 1 (.t 27) (.t 26))] [2, 3, 4, 6, 8, 9, 13, 18])))
(.reg [(28:Nat) (.bin .add (.t 18) (1:Int)),
(18:Nat) (.mov (.t 28))] [2, 3, 4, 6, 8, 9, 13, 18]))))
def c31l1 : VC := (.seq (.reg [(33:Nat) (.bin .lss (.t 32) (8:Int))] [2, 3, 4, 6, 9, 13, 31, 32, 33])
(.seq (.cond (.t 33) .skip
(.exit 4))
(.seq (.block 5 (.seq (.reg [(34:Nat) (.mov (.t 32)),
(35:Nat) (.idxV false 8 1 (.t 31) (.t 32)),
(11:Nat) (.mov (.t 34)),
(12:Nat) (.mov (.t 35))] [2, 3, 4, 6, 9, 11, 12, 13, 31, 32])
(.reg [(36:Nat) (.mov (.t 9)),
(37:Nat) (.mov (.t 11)),
.callv (some 38) (.t 36) [(.t 37)],
(39:Nat) (.mov (.t 12)),
(40:Nat) (.idxA 64 1 (.t 3) (.t 38)),
.op none none (.st 1 (.t 40) (.t 39))] [2, 3, 4, 6, 9, 13, 31, 32])))
(.reg [(41:Nat) (.bin .add (.t 32) (1:Int)),
(32:Nat) (.mov (.t 41))] [2, 3, 4, 6, 9, 13, 31, 32]))))
def c31l2 : VC := (.seq (.reg [(14:Nat) (.bin .lss (.t 13) (8:Int))] [2, 3, 4, 6, 13, 14])
(.seq (.cond (.t 14) .skip
(.exit 0))
(.seq (.block 1 (.seq (.reg [(15:Nat) (.mov (.t 13)),
(7:Nat) (.alloc (.own [(.int .i64 0)] 3)),
.op none none (.st 1 (.t 7) (.t 15))] [2, 3, 4, 6, 7, 13])
(.seq (.reg [(16:Nat) (.build (.ints .i32 (List.replicate 8 0)) []),
(8:Nat) (.alloc (.ints .i32 (List.replicate 8 0) 127)),
.op none none (.st 8 (.t 8) (.t 16))] [2, 3, 4, 6, 7, 8, 13])
(.seq (.reg [(17:Nat) (.mkfn 51 [(.t 4), (.t 7)]),
(9:Nat) (.mov (.t 17))] [2, 3, 4, 6, 8, 9, 13])
(.seq (.seq (.reg [(18:Nat) (.mov (0:Int))] [2, 3, 4, 6, 8, 9, 13, 18])
(.block 2 (.loop c31l0)))
(.seq (.reg [(29:Nat) (.mov (.t 2)),
(30:Nat) (.ldA 8 (.t 8)),
.callv (some 31) (.t 29) [(.t 30)],
(32:Nat) (.mov (0:Int))] [2, 3, 4, 6, 9, 13, 31, 32])
(.block 4 (.loop c31l1))))))))
(.reg [(42:Nat) (.bin .add (.t 13) (1:Int)),
(13:Nat) (.mov (.t 42))] [2, 3, 4, 6, 13]))))
def c31 : VC := (.seq (.reg [(3:Nat) (.box 79 (.t 0)),
(4:Nat) (.box 4 (.t 1)),
(6:Nat) (.alloc (.ints .i32 (List.replicate 64 0) 79))] [2, 3, 4, 6])
(.seq (.seq (.reg [(13:Nat) (.mov (0:Int))] [2, 3, 4, 6, 13])
(.block 0 (.loop c31l2)))
(.seq (.reg [(43:Nat) (.ldA 64 (.t 3)),
.op none none (.st 64 (.t 6) (.t 43))] [6])
.ret)))
def F31 : VFn := { nt := 44, res := [.cells 6 64], body := c31 }
theorem is31 : compFn Tryd.prog (kz c31) 31 = some F31 := by kernel_rfl
def c32 : VC := (.seq (.reg [(1:Nat) (.box 127 (.t 0)),
(2:Nat) (.alloc (.ints .i32 (List.replicate 8 0) 127))] [1, 2])
(.seq (.reg [(12:Nat) (.idxA 8 1 (.t 1) (0:Int)),
(13:Nat) (.ld (.t 12)),
(14:Nat) (.idxA 8 1 (.t 1) (7:Int)),
(15:Nat) (.ld (.t 14)),
.call (some 16) 52 [(.t 13), (.t 15)],
(11:Nat) (.mov (.t 16)),
(17:Nat) (.tupx (.t 11) 0),
(18:Nat) (.tupx (.t 11) 1),
(3:Nat) (.mov (.t 17)),
(4:Nat) (.mov (.t 18))] [1, 2, 3, 4])
(.seq (.reg [(20:Nat) (.idxA 8 1 (.t 1) (1:Int)),
(21:Nat) (.ld (.t 20)),
(22:Nat) (.idxA 8 1 (.t 1) (6:Int)),
(23:Nat) (.ld (.t 22)),
.call (some 24) 52 [(.t 21), (.t 23)],
(19:Nat) (.mov (.t 24)),
(25:Nat) (.tupx (.t 19) 0),
(26:Nat) (.tupx (.t 19) 1),
(5:Nat) (.mov (.t 25)),
(6:Nat) (.mov (.t 26))] [1, 2, 3, 4, 5, 6])
(.seq (.reg [(28:Nat) (.idxA 8 1 (.t 1) (2:Int)),
(29:Nat) (.ld (.t 28)),
(30:Nat) (.idxA 8 1 (.t 1) (5:Int)),
(31:Nat) (.ld (.t 30)),
.call (some 32) 52 [(.t 29), (.t 31)],
(27:Nat) (.mov (.t 32)),
(33:Nat) (.tupx (.t 27) 0),
(34:Nat) (.tupx (.t 27) 1),
(7:Nat) (.mov (.t 33)),
(8:Nat) (.mov (.t 34))] [1, 2, 3, 4, 5, 6, 7, 8])
(.seq (.reg [(36:Nat) (.idxA 8 1 (.t 1) (3:Int)),
(37:Nat) (.ld (.t 36)),
(38:Nat) (.idxA 8 1 (.t 1) (4:Int)),
(39:Nat) (.ld (.t 38)),
.call (some 40) 52 [(.t 37), (.t 39)],
(35:Nat) (.mov (.t 40)),
(41:Nat) (.tupx (.t 35) 0),
(42:Nat) (.tupx (.t 35) 1),
(9:Nat) (.mov (.t 41)),
(10:Nat) (.mov (.t 42))] [2, 3, 4, 5, 6, 7, 8, 9, 10])
(.seq (.reg [(44:Nat) (.mov (.t 10)),
(45:Nat) (.mov (.t 4)),
.call (some 46) 53 [(.t 44), (.t 45), (.c (.int .i32 217965)), (.c (.int .i32 145639))],
(43:Nat) (.mov (.t 46)),
(47:Nat) (.tupx (.t 43) 0),
(48:Nat) (.tupx (.t 43) 1),
(10:Nat) (.mov (.t 47)),
(4:Nat) (.mov (.t 48))] [2, 3, 4, 5, 6, 7, 8, 9, 10])
(.seq (.reg [(50:Nat) (.mov (.t 8)),
(51:Nat) (.mov (.t 6)),
.call (some 52) 53 [(.t 50), (.t 51), (.c (.int .i32 257107)), (.c (.int .i32 51142))],
(49:Nat) (.mov (.t 52)),
(53:Nat) (.tupx (.t 49) 0),
(54:Nat) (.tupx (.t 49) 1),
(8:Nat) (.mov (.t 53)),
(6:Nat) (.mov (.t 54))] [2, 3, 4, 5, 6, 7, 8, 9, 10])
(.seq (.reg [(56:Nat) (.mov (.t 3)),
(57:Nat) (.mov (.t 9)),
.call (some 58) 52 [(.t 56), (.t 57)],
(55:Nat) (.mov (.t 58)),
(59:Nat) (.tupx (.t 55) 0),
(60:Nat) (.tupx (.t 55) 1),
(3:Nat) (.mov (.t 59)),
(9:Nat) (.mov (.t 60))] [2, 3, 4, 5, 6, 7, 8, 9, 10])
(.seq (.reg [(62:Nat) (.mov (.t 5)),
(63:Nat) (.mov (.t 7)),
.call (some 64) 52 [(.t 62), (.t 63)],
(61:Nat) (.mov (.t 64)),
(65:Nat) (.tupx (.t 61) 0),
(66:Nat) (.tupx (.t 61) 1),
(5:Nat) (.mov (.t 65)),
(7:Nat) (.mov (.t 66))] [2, 3, 4, 5, 6, 7, 8, 9, 10])
(.seq (.reg [(68:Nat) (.mov (.t 7)),
(69:Nat) (.mov (.t 9)),
.call (some 70) 53 [(.t 68), (.t 69), (.c (.int .i32 141871)), (.c (.int .i32 342508))],
(67:Nat) (.mov (.t 70)),
(71:Nat) (.tupx (.t 67) 0),
(72:Nat) (.tupx (.t 67) 1),
(7:Nat) (.mov (.t 71)),
(9:Nat) (.mov (.t 72))] [2, 3, 4, 5, 6, 7, 8, 9, 10])
(.seq (.reg [(74:Nat) (.mov (.t 3)),
(75:Nat) (.mov (.t 5)),
.call (some 76) 52 [(.t 74), (.t 75)],
(73:Nat) (.mov (.t 76)),
(77:Nat) (.tupx (.t 73) 0),
(78:Nat) (.tupx (.t 73) 1),
(3:Nat) (.mov (.t 77)),
(5:Nat) (.mov (.t 78))] [2, 3, 4, 5, 6, 7, 8, 9, 10])
(.seq (.reg [(80:Nat) (.mov (.t 10)),
(81:Nat) (.mov (.t 6)),
.call (some 82) 52 [(.t 80), (.t 81)],
(79:Nat) (.mov (.t 82)),
(83:Nat) (.tupx (.t 79) 0),
(84:Nat) (.tupx (.t 79) 1),
(10:Nat) (.mov (.t 83)),
(6:Nat) (.mov (.t 84))] [2, 3, 4, 5, 6, 7, 8, 9, 10])
(.seq (.reg [(86:Nat) (.mov (.t 4)),
(87:Nat) (.mov (.t 8)),
.call (some 88) 52 [(.t 86), (.t 87)],
(85:Nat) (.mov (.t 88)),
(89:Nat) (.tupx (.t 85) 0),
(90:Nat) (.tupx (.t 85) 1),
(4:Nat) (.mov (.t 89)),
(8:Nat) (.mov (.t 90))] [2, 3, 4, 5, 6, 7, 8, 9, 10])
(.seq (.reg [(91:Nat) (.mov (.t 8)),
(92:Nat) (.bin .shr (.t 91) (.c (.int .u64 12))),
(93:Nat) (.bin .mul (.t 92) (.c (.int .i32 5793))),
(8:Nat) (.mov (.t 93))] [2, 3, 4, 5, 6, 7, 8, 9, 10])
(.seq (.reg [(94:Nat) (.mov (.t 6)),
(95:Nat) (.bin .shr (.t 94) (.c (.int .u64 12))),
(96:Nat) (.bin .mul (.t 95) (.c (.int .i32 5793))),
(6:Nat) (.mov (.t 96))] [2, 3, 4, 5, 6, 7, 8, 9, 10])
(.seq (.reg [(98:Nat) (.mov (.t 4)),
(99:Nat) (.mov (.t 10)),
.call (some 100) 52 [(.t 98), (.t 99)],
(97:Nat) (.mov (.t 100)),
(101:Nat) (.tupx (.t 97) 0),
(102:Nat) (.tupx (.t 97) 1),
(4:Nat) (.mov (.t 101)),
(10:Nat) (.mov (.t 102))] [2, 3, 4, 5, 6, 7, 8, 9, 10])
(.seq (.reg [(103:Nat) (.mov (.t 3)),
(104:Nat) (.bin .sub (.t 103) (.c (.int .i32 1024))),
(105:Nat) (.bin .shl (.t 104) (.c (.int .u64 18))),
(106:Nat) (.mov (.t 4)),
(107:Nat) (.mov (.t 7)),
(108:Nat) (.mov (.t 8)),
(109:Nat) (.mov (.t 5)),
(110:Nat) (.bin .shl (.t 109) (.c (.int .u64 18))),
(111:Nat) (.mov (.t 6)),
(112:Nat) (.mov (.t 9)),
(113:Nat) (.mov (.t 10)),
(114:Nat) (.build (.ints .i32 (List.replicate 8 0)) [(0, 1, (.t 105)), (1, 1, (.t 106)), (2, 1, (.t 107)), (3, 1, (.t 108)), (4, 1, (.t 110)), (5, 1, (.t 111)), (6, 1, (.t 112)), (7, 1, (.t 113))]),
.op none none (.st 8 (.t 2) (.t 114))] [2])
.ret)))))))))))))))))
def F32 : VFn := { nt := 115, res := [.cells 2 8], body := c32 }
theorem is32 : compFn Tryd.prog (kz c32) 32 = some F32 := by kernel_rfl
def c33l0 : VC := (.seq (.reg [(121:Nat) (.bin .lss (.t 120) (8:Int))] [2, 11, 120, 121])
(.seq (.cond (.t 121) .skip
(.exit 0))
(.seq (.block 1 (.seq (.reg [(122:Nat) (.mov (.t 120)),
(12:Nat) (.mov (.t 122))] [2, 11, 12, 120])
(.reg [(123:Nat) (.mov (.t 12)),
(124:Nat) (.mov (.t 12)),
(125:Nat) (.idxA 8 1 (.t 11) (.t 124)),
(126:Nat) (.ld (.t 125)),
(127:Nat) (.bin .add (.t 126) (.c (.int .i32 131072))),
(128:Nat) (.bin .shr (.t 127) (.c (.int .u64 18))),
(129:Nat) (.idxA 8 1 (.t 11) (.t 123)),
.op none none (.st 1 (.t 129) (.t 128))] [2, 11, 120])))
(.reg [(130:Nat) (.bin .add (.t 120) (1:Int)),
(120:Nat) (.mov (.t 130))] [2, 11, 120]))))
def c33 : VC := (.seq (.reg [(1:Nat) (.box 127 (.t 0)),
(2:Nat) (.alloc (.ints .i32 (List.replicate 8 0) 127))] [1, 2])
(.seq (.reg [(14:Nat) (.idxA 8 1 (.t 1) (0:Int)),
(15:Nat) (.ld (.t 14)),
(16:Nat) (.idxA 8 1 (.t 1) (7:Int)),
(17:Nat) (.ld (.t 16)),
.call (some 18) 52 [(.t 15), (.t 17)],
(13:Nat) (.mov (.t 18)),
(19:Nat) (.tupx (.t 13) 0),
(20:Nat) (.tupx (.t 13) 1),
(3:Nat) (.mov (.t 19)),
(4:Nat) (.mov (.t 20))] [1, 2, 3, 4])
(.seq (.reg [(22:Nat) (.idxA 8 1 (.t 1) (1:Int)),
(23:Nat) (.ld (.t 22)),
(24:Nat) (.idxA 8 1 (.t 1) (6:Int)),
(25:Nat) (.ld (.t 24)),
.call (some 26) 52 [(.t 23), (.t 25)],
(21:Nat) (.mov (.t 26)),
(27:Nat) (.tupx (.t 21) 0),
(28:Nat) (.tupx (.t 21) 1),
(5:Nat) (.mov (.t 27)),
(6:Nat) (.mov (.t 28))] [1, 2, 3, 4, 5, 6])
(.seq (.reg [(30:Nat) (.idxA 8 1 (.t 1) (2:Int)),
(31:Nat) (.ld (.t 30)),
(32:Nat) (.idxA 8 1 (.t 1) (5:Int)),
(33:Nat) (.ld (.t 32)),
.call (some 34) 52 [(.t 31), (.t 33)],
(29:Nat) (.mov (.t 34)),
(35:Nat) (.tupx (.t 29) 0),
(36:Nat) (.tupx (.t 29) 1),
(7:Nat) (.mov (.t 35)),
(8:Nat) (.mov (.t 36))] [1, 2, 3, 4, 5, 6, 7, 8])
(.seq (.reg [(38:Nat) (.idxA 8 1 (.t 1) (3:Int)),
(39:Nat) (.ld (.t 38)),
(40:Nat) (.idxA 8 1 (.t 1) (4:Int)),
(41:Nat) (.ld (.t 40)),
.call (some 42) 52 [(.t 39), (.t 41)],
(37:Nat) (.mov (.t 42)),
(43:Nat) (.tupx (.t 37) 0),
(44:Nat) (.tupx (.t 37) 1),
(9:Nat) (.mov (.t 43)),
(10:Nat) (.mov (.t 44))] [2, 3, 4, 5, 6, 7, 8, 9, 10])
(.seq (.reg [(46:Nat) (.mov (.t 10)),
(47:Nat) (.bin .shr (.t 46) (.c (.int .u64 14))),
(48:Nat) (.mov (.t 4)),
(49:Nat) (.bin .shr (.t 48) (.c (.int .u64 14))),
.call (some 50) 53 [(.t 47), (.t 49), (.c (.int .i32 13623)), (.c (.int .i32 9102))],
(45:Nat) (.mov (.t 50)),
(51:Nat) (.tupx (.t 45) 0),
(52:Nat) (.tupx (.t 45) 1),
(10:Nat) (.mov (.t 51)),
(4:Nat) (.mov (.t 52))] [2, 3, 4, 5, 6, 7, 8, 9, 10])
(.seq (.reg [(54:Nat) (.mov (.t 8)),
(55:Nat) (.bin .shr (.t 54) (.c (.int .u64 14))),
(56:Nat) (.mov (.t 6)),
(57:Nat) (.bin .shr (.t 56) (.c (.int .u64 14))),
.call (some 58) 53 [(.t 55), (.t 57), (.c (.int .i32 16069)), (.c (.int .i32 3196))],
(53:Nat) (.mov (.t 58)),
(59:Nat) (.tupx (.t 53) 0),
(60:Nat) (.tupx (.t 53) 1),
(8:Nat) (.mov (.t 59)),
(6:Nat) (.mov (.t 60))] [2, 3, 4, 5, 6, 7, 8, 9, 10])
(.seq (.reg [(62:Nat) (.mov (.t 3)),
(63:Nat) (.mov (.t 9)),
.call (some 64) 52 [(.t 62), (.t 63)],
(61:Nat) (.mov (.t 64)),
(65:Nat) (.tupx (.t 61) 0),
(66:Nat) (.tupx (.t 61) 1),
(3:Nat) (.mov (.t 65)),
(9:Nat) (.mov (.t 66))] [2, 3, 4, 5, 6, 7, 8, 9, 10])
(.seq (.reg [(68:Nat) (.mov (.t 5)),
(69:Nat) (.mov (.t 7)),
.call (some 70) 52 [(.t 68), (.t 69)],
(67:Nat) (.mov (.t 70)),
(71:Nat) (.tupx (.t 67) 0),
(72:Nat) (.tupx (.t 67) 1),
(5:Nat) (.mov (.t 71)),
(7:Nat) (.mov (.t 72))] [2, 3, 4, 5, 6, 7, 8, 9, 10])
(.seq (.reg [(74:Nat) (.mov (.t 7)),
(75:Nat) (.bin .shr (.t 74) (.c (.int .u64 14))),
(76:Nat) (.mov (.t 9)),
(77:Nat) (.bin .shr (.t 76) (.c (.int .u64 14))),
.call (some 78) 53 [(.t 75), (.t 77), (.c (.int .i32 8867)), (.c (.int .i32 21407))],
(73:Nat) (.mov (.t 78)),
(79:Nat) (.tupx (.t 73) 0),
(80:Nat) (.tupx (.t 73) 1),
(7:Nat) (.mov (.t 79)),
(9:Nat) (.mov (.t 80))] [2, 3, 4, 5, 6, 7, 8, 9, 10])
(.seq (.reg [(82:Nat) (.mov (.t 3)),
(83:Nat) (.mov (.t 5)),
.call (some 84) 52 [(.t 82), (.t 83)],
(81:Nat) (.mov (.t 84)),
(85:Nat) (.tupx (.t 81) 0),
(86:Nat) (.tupx (.t 81) 1),
(3:Nat) (.mov (.t 85)),
(5:Nat) (.mov (.t 86))] [2, 3, 4, 5, 6, 7, 8, 9, 10])
(.seq (.reg [(88:Nat) (.mov (.t 10)),
(89:Nat) (.mov (.t 6)),
.call (some 90) 52 [(.t 88), (.t 89)],
(87:Nat) (.mov (.t 90)),
(91:Nat) (.tupx (.t 87) 0),
(92:Nat) (.tupx (.t 87) 1),
(10:Nat) (.mov (.t 91)),
(6:Nat) (.mov (.t 92))] [2, 3, 4, 5, 6, 7, 8, 9, 10])
(.seq (.reg [(94:Nat) (.mov (.t 4)),
(95:Nat) (.mov (.t 8)),
.call (some 96) 52 [(.t 94), (.t 95)],
(93:Nat) (.mov (.t 96)),
(97:Nat) (.tupx (.t 93) 0),
(98:Nat) (.tupx (.t 93) 1),
(4:Nat) (.mov (.t 97)),
(8:Nat) (.mov (.t 98))] [2, 3, 4, 5, 6, 7, 8, 9, 10])
(.seq (.reg [(99:Nat) (.mov (.t 8)),
(100:Nat) (.bin .shr (.t 99) (.c (.int .u64 14))),
(101:Nat) (.bin .mul (.t 100) (.c (.int .i32 23170))),
(8:Nat) (.mov (.t 101))] [2, 3, 4, 5, 6, 7, 8, 9, 10])
(.seq (.reg [(102:Nat) (.mov (.t 6)),
(103:Nat) (.bin .shr (.t 102) (.c (.int .u64 14))),
(104:Nat) (.bin .mul (.t 103) (.c (.int .i32 23170))),
(6:Nat) (.mov (.t 104))] [2, 3, 4, 5, 6, 7, 8, 9, 10])
(.seq (.reg [(106:Nat) (.mov (.t 4)),
(107:Nat) (.mov (.t 10)),
.call (some 108) 52 [(.t 106), (.t 107)],
(105:Nat) (.mov (.t 108)),
(109:Nat) (.tupx (.t 105) 0),
(110:Nat) (.tupx (.t 105) 1),
(4:Nat) (.mov (.t 109)),
(10:Nat) (.mov (.t 110))] [2, 3, 4, 5, 6, 7, 8, 9, 10])
(.seq (.reg [(111:Nat) (.mov (.t 3)),
(112:Nat) (.mov (.t 4)),
(113:Nat) (.mov (.t 7)),
(114:Nat) (.mov (.t 8)),
(115:Nat) (.mov (.t 5)),
(116:Nat) (.mov (.t 6)),
(117:Nat) (.mov (.t 9)),
(118:Nat) (.mov (.t 10)),
(119:Nat) (.build (.ints .i32 (List.replicate 8 0)) [(0, 1, (.t 111)), (1, 1, (.t 112)), (2, 1, (.t 113)), (3, 1, (.t 114)), (4, 1, (.t 115)), (5, 1, (.t 116)), (6, 1, (.t 117)), (7, 1, (.t 118))]),
(11:Nat) (.alloc (.ints .i32 (List.replicate 8 0) 127)),
.op none none (.st 8 (.t 11) (.t 119))] [2, 11])
(.seq (.seq (.reg [(120:Nat) (.mov (0:Int))] [2, 11, 120])
(.block 0 (.loop c33l0)))
(.seq (.reg [(131:Nat) (.ldA 8 (.t 11)),
.op none none (.st 8 (.t 2) (.t 131))] [2])
.ret)))))))))))))))))))
def F33 : VFn := { nt := 132, res := [.cells 2 8], body := c33 }
theorem is33 : compFn Tryd.prog (kz c33) 33 = some F33 := by kernel_rfl
def c41l0 : VC := (.seq (.reg [(6:Nat) (.bin .lss (.t 5) (4:Int))] [0, 1, 4, 5, 6])
(.seq (.cond (.t 6) .skip
(.exit 0))
(.seq (.block 1 (.seq (.reg [(7:Nat) (.mov (.t 5)),
(8:Nat) (.idxV true 4 17 (.t 4) (.t 5)),
(3:Nat) (.alloc (.own (z16 ++ [.nils]) 135)),
(2:Nat) (.mov (.t 7)),
.op none none (.st 17 (.t 3) (.t 8))] [0, 1, 2, 3, 4, 5])
(.drt [(9:Nat) (.mov (.t 2)),
(10:Nat) (.idxA 4 1 (.t 1) (.t 9)),
(11:Nat) (.ldA 17 (.t 3))] [.call (some 12) 55 [(.t 10), (.t 11)]] [0, 1, 4, 5])))
(.reg [(13:Nat) (.bin .add (.t 5) (1:Int)),
(5:Nat) (.mov (.t 13))] [0, 1, 4, 5]))))
def c41 : VC := (.seq (.reg [(0:Nat) (.alloc (.own [.nils, .nils, .nils, .nils] 114))] [0])
(.seq (.reg [(1:Nat) (.alloc (.own [.nils, .nils, .nils, .nils] 114))] [0, 1])
(.seq (.seq (.reg [.call (some 4) 54 [],
(5:Nat) (.mov (0:Int))] [0, 1, 4, 5])
(.block 0 (.loop c41l0)))
(.seq (.reg [(14:Nat) (.ldA 4 (.t 1)),
.op none none (.st 4 (.t 0) (.t 14))] [0])
.ret))))
def F41 : VFn := { nt := 15, res := [.cells 0 4], body := c41 }
theorem is41 : compFn Tryd.prog (kz c41) 41 = some F41 := by kernel_rfl
def c49l0 : VC := (.seq (.reg [(10:Nat) (.bin .lss (.t 9) (64:Int))] [2, 3, 9, 10])
(.seq (.cond (.t 10) .skip
(.exit 0))
(.seq (.block 1 (.seq (.reg [(11:Nat) (.mov (.t 9)),
(4:Nat) (.mov (.t 11))] [2, 3, 4, 9])
(.reg [(12:Nat) (.mov (.t 4)),
(13:Nat) (.idxA 64 1 (.t 3) (.t 12)),
.op none none (.st 1 (.t 13) (99:Int))] [2, 3, 9])))
(.reg [(14:Nat) (.bin .add (.t 9) (1:Int)),
(9:Nat) (.mov (.t 14))] [2, 3, 9]))))
def c49l1 : VC := (.seq (.reg [(18:Nat) (.bin .lss (.t 17) (.t 16))] [2, 3, 15, 16, 17, 18])
(.seq (.cond (.t 18) .skip
(.exit 2))
(.seq (.block 3 (.seq (.reg [(19:Nat) (.mov (.t 17)),
(20:Nat) (.idxS 1 (.t 15) (.t 17)),
(21:Nat) (.ld (.t 20)),
(5:Nat) (.mov (.t 19)),
(6:Nat) (.mov (.t 21))] [2, 3, 5, 6, 15, 16, 17])
(.reg [(22:Nat) (.mov (.t 5)),
(23:Nat) (.bin .quo (.t 22) (4:Int)),
(24:Nat) (.bin .mul (8:Int) (.t 23)),
(25:Nat) (.mov (.t 5)),
(26:Nat) (.bin .rem (.t 25) (4:Int)),
(27:Nat) (.bin .add (.t 24) (.t 26)),
(28:Nat) (.mov (.t 6)),
(29:Nat) (.idxA 64 1 (.t 3) (.t 27)),
.op none none (.st 1 (.t 29) (.t 28))] [2, 3, 15, 16, 17])))
(.reg [(30:Nat) (.bin .add (.t 17) (1:Int)),
(17:Nat) (.mov (.t 30))] [2, 3, 15, 16, 17]))))
def c49 : VC := (.seq (.reg [(2:Nat) (.alloc (.ints .i64 (List.replicate 64 0) 60))] [0, 2])
(.seq (.seq (.reg [(7:Nat) (.mov (.t 0))] [2, 7])
(.cond (.t 7) (.seq (.reg [(8:Nat) (.build (.ints .i64 (List.replicate 64 0)) []),
(3:Nat) (.alloc (.ints .i64 (List.replicate 64 0) 60)),
.op none none (.st 64 (.t 3) (.t 8))] [2, 3])
(.seq (.seq (.reg [(9:Nat) (.mov (0:Int))] [2, 3, 9])
(.block 0 (.loop c49l0)))
(.seq (.seq (.reg [(15:Nat) (.bsl 3 16 (.ints .i64 (List.replicate 16 0)) (ic .i64 0 [17, 18, 24, 47, 18, 21, 26, 66, 24, 26, 56, 99, 47, 66, 99, 99])),
(16:Nat) (.len (.t 15)),
(17:Nat) (.mov (0:Int))] [2, 3, 15, 16, 17])
(.block 2 (.loop c49l1)))
(.seq (.reg [(31:Nat) (.ldA 64 (.t 3)),
.op none none (.st 64 (.t 2) (.t 31))] [2])
.ret))))
.skip))
(.seq (.reg [(32:Nat) (.build (.ints .i64 (List.replicate 64 0)) (ic .i64 0 [16, 11, 10, 16, 24, 40, 51, 61, 12, 12, 14, 19, 26, 58, 60, 55, 14, 13, 16, 24, 40, 57, 69, 56, 14, 17, 22, 29, 51, 87, 80, 62, 18, 22, 37, 56, 68, 109, 103, 77, 24, 35, 55, 64, 81, 104, 113, 92, 49, 64, 78, 87, 103, 121, 120, 101, 72, 92, 95, 98, 112, 100, 103, 99])),
.op none none (.st 64 (.t 2) (.t 32))] [2])
.ret)))
def F49 : VFn := { nt := 33, res := [.cells 2 64], body := c49 }
theorem is49 : compFn Tryd.prog (kz c49) 49 = some F49 := by kernel_rfl
def c50l0 : VC := (.seq (.reg [(31:Nat) (.bin .lss (.t 30) (.t 29))] [0, 3, 4, 5, 9, 16, 17, 20, 21, 24, 25, 26, 28, 29, 30, 31, 36, 37, 38])
(.seq (.cond (.t 31) .skip
(.exit 2))
(.seq (.block 3 (.seq (.reg [(32:Nat) (.idxS 1 (.t 28) (.t 30)),
(33:Nat) (.ld (.t 32)),
(7:Nat) (.mov (.t 33))] [0, 3, 4, 5, 7, 9, 16, 17, 20, 21, 24, 25, 26, 28, 29, 30, 36, 37, 38])
(.reg [(34:Nat) (.mov (.t 5)),
(35:Nat) (.mov (.t 34)),
.op (some (35, false)) (some 36) (.mov (.t 7)),
.op (some (35, false)) (some 37) (.mov (.t 4)),
.op (some (35, false)) (some 38) (.bin .eql (.t 36) (.t 37)),
(39:Nat) (.pick (.t 35) (.c (.bool true)) (.t 38)),
(5:Nat) (.mov (.t 39))] [0, 3, 4, 5, 9, 16, 17, 20, 21, 24, 25, 26, 28, 29, 30, 36, 37, 38])))
(.reg [(40:Nat) (.bin .add (.t 30) (1:Int)),
(30:Nat) (.mov (.t 40))] [0, 3, 4, 5, 9, 16, 17, 20, 21, 24, 25, 26, 28, 29, 30, 36, 37, 38]))))
def c50t : VC := (.seq (.reg [(5:Nat) (.mov (.c (.bool false)))] [0, 3, 4, 5, 9, 16, 17, 20, 21, 24, 25, 26, 36, 37, 38])
(.seq (.seq (.reg [(28:Nat) (.mov (.t 0)),
(29:Nat) (.len (.t 28)),
(30:Nat) (.mov (0:Int))] [0, 3, 4, 5, 9, 16, 17, 20, 21, 24, 25, 26, 28, 29, 30, 36, 37, 38])
(.block 2 (.loop c50l0)))
(.seq (.reg [(41:Nat) (.mov (.t 5)),
(42:Nat) (.un .not (.t 41))] [0, 3, 4, 9, 16, 17, 20, 21, 24, 25, 26, 36, 37, 38, 42])
(.cond (.t 42) (.reg [(43:Nat) (.mov (.t 3)),
(44:Nat) (.mov (.t 4)),
(45:Nat) (.bsl 3 1 (.ints .i64 [0]) [(0, 1, (.t 44))]),
.app (some 46) .i64 3 (.t 43) (.t 45),
(3:Nat) (.mov (.t 46))] [0, 3, 9, 16, 17, 20, 21, 24, 25, 26, 36, 37, 38])
.skip))))
def c50l1 : VC := (.seq (.reg [(10:Nat) (.bin .lss (.t 9) (256:Int))] [0, 3, 9, 10, 16, 17, 20, 21, 24, 25, 26, 36, 37, 38])
(.seq (.cond (.t 10) .skip
(.exit 0))
(.seq (.block 1 (.seq (.reg [(11:Nat) (.mov (.t 9)),
(4:Nat) (.mov (.t 11))] [0, 3, 4, 9, 16, 17, 20, 21, 24, 25, 26, 36, 37, 38])
(.seq (.seq (.reg [(12:Nat) (.mov (.t 4)),
(13:Nat) (.bin .and (.t 12) (15:Int)),
(14:Nat) (.bin .eql (.t 13) (0:Int)),
(15:Nat) (.mov (.t 14)),
.op (some (15, true)) (some 16) (.mov (.t 4)),
.op (some (15, true)) (some 17) (.bin .neq (.t 16) (0:Int)),
(18:Nat) (.pick (.t 15) (.t 17) (.c (.bool false))),
(19:Nat) (.mov (.t 18)),
.op (some (19, true)) (some 20) (.mov (.t 4)),
.op (some (19, true)) (some 21) (.bin .neq (.t 20) (240:Int)),
(22:Nat) (.pick (.t 19) (.t 21) (.c (.bool false))),
(23:Nat) (.mov (.t 22)),
.op (some (23, false)) (some 24) (.mov (.t 4)),
.op (some (23, false)) (some 25) (.bin .and (.t 24) (15:Int)),
.op (some (23, false)) (some 26) (.bin .gtr (.t 25) (10:Int)),
(27:Nat) (.pick (.t 23) (.c (.bool true)) (.t 26))] [0, 3, 4, 9, 16, 17, 20, 21, 24, 25, 26, 27, 36, 37, 38])
(.cond (.t 27) (.exit 1)
.skip))
  c50t)))
(.reg [(47:Nat) (.bin .add (.t 9) (1:Int)),
(9:Nat) (.mov (.t 47))] [0, 3, 9, 16, 17, 20, 21, 24, 25, 26, 36, 37, 38]))))
def c50 : VC := (.seq (.reg [(2:Nat) (.mov (.c .nils))] [0, 16, 17, 20, 21, 24, 25, 26, 36, 37, 38])
(.seq (.reg [(8:Nat) (.bsl 3 0 (.ints .i64 []) []),
(3:Nat) (.mov (.t 8))] [0, 3, 16, 17, 20, 21, 24, 25, 26, 36, 37, 38])
(.seq (.seq (.reg [(9:Nat) (.mov (0:Int))] [0, 3, 9, 16, 17, 20, 21, 24, 25, 26, 36, 37, 38])
(.block 0 (.loop c50l1)))
(.seq (.reg [(48:Nat) (.mov (.t 3)),
(2:Nat) (.mov (.t 48))] [2])
.ret))))
def F50 : VFn := { nt := 49, res := [.tmp 2], body := c50 }
theorem is50 : compFn Tryd.prog (kz c50) 50 = some F50 := by kernel_rfl
def c51 : VC := (.seq (.reg [(4:Nat) (.mov (0:Int))] [0, 1, 2])
(.seq (.seq (.reg [(5:Nat) (.ld (.t 1))] [0, 2, 5])
(.cond (.t 5) (.seq (.reg [(6:Nat) (.mov (.t 0)),
(7:Nat) (.bin .mul (8:Int) (.t 6)),
(8:Nat) (.ld (.t 2)),
(9:Nat) (.bin .add (.t 7) (.t 8)),
(4:Nat) (.mov (.t 9))] [4])
.ret)
.skip))
(.seq (.reg [(10:Nat) (.ld (.t 2)),
(11:Nat) (.bin .mul (8:Int) (.t 10)),
(12:Nat) (.mov (.t 0)),
(13:Nat) (.bin .add (.t 11) (.t 12)),
(4:Nat) (.mov (.t 13))] [4])
.ret)))
def F51 : VFn := { nt := 14, res := [.tmp 4], body := c51 }
theorem is51 : compFn Tryd.prog (kz c51) 51 = some F51 := by kernel_rfl
def c52 : VC := (.seq (.reg [(4:Nat) (.mov (.c (.int .i32 0))),
(5:Nat) (.mov (.c (.int .i32 0)))] [0, 1])
(.seq (.reg [(6:Nat) (.mov (.t 0)),
(7:Nat) (.mov (.t 1)),
(8:Nat) (.bin .add (.t 6) (.t 7)),
(9:Nat) (.mov (.t 0)),
(10:Nat) (.mov (.t 1)),
(11:Nat) (.bin .sub (.t 9) (.t 10)),
(4:Nat) (.mov (.t 8)),
(5:Nat) (.mov (.t 11))] [4, 5])
.ret))
def F52 : VFn := { nt := 12, res := [.tmp 4, .tmp 5], body := c52 }
theorem is52 : compFn Tryd.prog (kz c52) 52 = some F52 := by kernel_rfl
def c53 : VC := (.seq (.reg [(8:Nat) (.mov (.c (.int .i32 0))),
(9:Nat) (.mov (.c (.int .i32 0)))] [0, 1, 2, 3])
(.seq (.reg [(11:Nat) (.mov (.t 2)),
(12:Nat) (.mov (.t 0)),
(13:Nat) (.mov (.t 1)),
(14:Nat) (.bin .add (.t 12) (.t 13)),
(15:Nat) (.bin .mul (.t 11) (.t 14)),
(10:Nat) (.mov (.t 15))] [0, 1, 2, 3, 10])
(.seq (.reg [(16:Nat) (.mov (.t 10)),
(17:Nat) (.mov (.t 3)),
(18:Nat) (.mov (.t 2)),
(19:Nat) (.bin .sub (.t 17) (.t 18)),
(20:Nat) (.mov (.t 1)),
(21:Nat) (.bin .mul (.t 19) (.t 20)),
(22:Nat) (.bin .add (.t 16) (.t 21)),
(23:Nat) (.mov (.t 10)),
(24:Nat) (.mov (.t 2)),
(25:Nat) (.mov (.t 3)),
(26:Nat) (.bin .add (.t 24) (.t 25)),
(27:Nat) (.mov (.t 0)),
(28:Nat) (.bin .mul (.t 26) (.t 27)),
(29:Nat) (.bin .sub (.t 23) (.t 28)),
(8:Nat) (.mov (.t 22)),
(9:Nat) (.mov (.t 29))] [8, 9])
.ret)))
def F53 : VFn := { nt := 30, res := [.tmp 8, .tmp 9], body := c53 }
theorem is53 : compFn Tryd.prog (kz c53) 53 = some F53 := by kernel_rfl
def c54 : VC := (.seq (.reg [(0:Nat) (.alloc (.own (z16 ++ [.nils] ++ z16 ++ [.nils] ++ z16 ++ [.nils] ++ z16 ++ [.nils]) 136))] [0])
(.seq (.reg [(1:Nat) (.build (.ints .u8 (List.replicate 16 0)) (ic .u8 0 [0, 1, 5, 1, 1, 1, 1, 1, 1, 0, 0, 0, 0, 0, 0, 0])),
(2:Nat) (.bsl 5 12 (.ints .u8 (List.replicate 12 0)) (ic .u8 0 [0, 1, 2, 3, 4, 5, 6, 7, 8, 9, 10, 11])),
(3:Nat) (.build (.agg (z16 ++ [.nils])) [(0, 16, (.t 1)), (16, 1, (.t 2))]),
(4:Nat) (.build (.ints .u8 (List.replicate 16 0)) (ic .u8 0 [0, 2, 1, 3, 3, 2, 4, 3, 5, 5, 4, 4, 0, 0, 1, 125])),
(5:Nat) (.bsl 5 162 (.ints .u8 (List.replicate 162 0)) (ic .u8 0 [1, 2, 3, 0, 4, 17, 5, 18, 33, 49, 65, 6, 19, 81, 97, 7, 34, 113, 20, 50, 129, 145, 161, 8, 35, 66, 177, 193, 21, 82, 209, 240, 36, 51, 98, 114, 130, 9, 10, 22, 23, 24, 25, 26, 37, 38, 39, 40, 41, 42, 52, 53, 54, 55, 56, 57, 58, 67, 68, 69, 70, 71, 72, 73, 74, 83, 84, 85, 86, 87, 88, 89, 90, 99, 100, 101, 102, 103, 104, 105, 106, 115, 116, 117, 118, 119, 120, 121, 122, 131, 132, 133, 134, 135, 136, 137, 138, 146, 147, 148, 149, 150, 151, 152, 153, 154, 162, 163, 164, 165, 166, 167, 168, 169, 170, 178, 179, 180, 181, 182, 183, 184, 185, 186, 194, 195, 196, 197, 198, 199, 200, 201, 202, 210, 211, 212, 213, 214, 215, 216, 217, 218, 225, 226, 227, 228, 229, 230, 231, 232, 233, 234, 241, 242, 243, 244, 245, 246, 247, 248, 249, 250])),
(6:Nat) (.build (.agg (z16 ++ [.nils])) [(0, 16, (.t 4)), (16, 1, (.t 5))]),
(7:Nat) (.build (.ints .u8 (List.replicate 16 0)) (ic .u8 0 [0, 3, 1, 1, 1, 1, 1, 1, 1, 1, 1, 0, 0, 0, 0, 0])),
(8:Nat) (.bsl 5 12 (.ints .u8 (List.replicate 12 0)) (ic .u8 0 [0, 1, 2, 3, 4, 5, 6, 7, 8, 9, 10, 11])),
(9:Nat) (.build (.agg (z16 ++ [.nils])) [(0, 16, (.t 7)), (16, 1, (.t 8))]),
(10:Nat) (.build (.ints .u8 (List.replicate 16 0)) (ic .u8 0 [0, 2, 1, 2, 4, 4, 3, 4, 7, 5, 4, 4, 0, 1, 2, 119])),
(11:Nat) (.bsl 5 162 (.ints .u8 (List.replicate 162 0)) (ic .u8 0 [0, 1, 2, 3, 17, 4, 5, 33, 49, 6, 18, 65, 81, 7, 97, 113, 19, 34, 50, 129, 8, 20, 66, 145, 161, 177, 193, 9, 35, 51, 82, 240, 21, 98, 114, 209, 10, 22, 36, 52, 225, 37, 241, 23, 24, 25, 26, 38, 39, 40, 41, 42, 53, 54, 55, 56, 57, 58, 67, 68, 69, 70, 71, 72, 73, 74, 83, 84, 85, 86, 87, 88, 89, 90, 99, 100, 101, 102, 103, 104, 105, 106, 115, 116, 117, 118, 119, 120, 121, 122, 130, 131, 132, 133, 134, 135, 136, 137, 138, 146, 147, 148, 149, 150, 151, 152, 153, 154, 162, 163, 164, 165, 166, 167, 168, 169, 170, 178, 179, 180, 181, 182, 183, 184, 185, 186, 194, 195, 196, 197, 198, 199, 200, 201, 202, 210, 211, 212, 213, 214, 215, 216, 217, 218, 226, 227, 228, 229, 230, 231, 232, 233, 234, 242, 243, 244, 245, 246, 247, 248, 249, 250])),
(12:Nat) (.build (.agg (z16 ++ [.nils])) [(0, 16, (.t 10)), (16, 1, (.t 11))]),
(13:Nat) (.build (.agg (z16 ++ [.nils] ++ z16 ++ [.nils] ++ z16 ++ [.nils] ++ z16 ++ [.nils])) [(0, 17, (.t 3)), (17, 17, (.t 6)), (34, 17, (.t 9)), (51, 17, (.t 12))]),
.op none none (.st 68 (.t 0) (.t 13))] [0])
.ret))
def F54 : VFn := { nt := 14, res := [.cells 0 68], body := c54 }
theorem is54 : compFn Tryd.prog (kz c54) 54 = some F54 := by kernel_rfl
def h55 : List (Nat × List Nat) := [(0, [0, 3]), (1, [0, 3, 4]), (2, [0, 3, 4, 13, 14, 15]), (3, [0, 3, 4, 13, 14, 15, 16]), (4, [0, 3, 4, 6, 13, 14, 15]), (5, [0, 3, 4, 6, 13, 14, 15, 22]), (6, [0, 3, 4, 13, 14, 15]), (7, [0, 3, 4, 13, 14, 15]), (8, [0, 3]), (9, [0, 3, 7, 8]), (10, [0, 3, 7, 8, 9]), (11, [0, 3, 7, 8, 9, 32]), (12, [0, 3, 7, 8, 9]), (13, [0, 3, 7, 8, 9, 10]), (14, [0, 3, 7, 8, 9, 10, 11]), (15, [0, 3, 7, 8, 9, 10, 11, 44]), (16, [0, 3, 7, 8, 9, 10, 11]), (17, [0, 3, 7, 8, 9, 10, 11]), (18, [0, 3, 7, 8, 9, 10, 11]), (19, [0, 3, 7, 8, 9, 10, 11]), (20, [0, 3, 7, 8, 9])]
def c55l0 : VC := (.seq (.reg [(16:Nat) (.bin .lss (.t 15) (.t 14))] [0, 3, 4, 13, 14, 15, 16])
(.seq (.cond (.t 16) .skip
(.exit 0))
(.seq (.block 1 (.seq (.reg [(17:Nat) (.idxS 1 (.t 13) (.t 15)),
(18:Nat) (.ld (.t 17)),
(6:Nat) (.mov (.t 18))] [0, 3, 4, 6, 13, 14, 15])
(.seq (.reg [(19:Nat) (.mov (.t 6)),
(20:Nat) (.conv .i64 (.t 19)),
(21:Nat) (.mov (.t 4)),
(22:Nat) (.bin .gtr (.t 20) (.t 21))] [0, 3, 4, 6, 13, 14, 15, 22])
(.cond (.t 22) (.reg [(23:Nat) (.mov (.t 6)),
(24:Nat) (.conv .i64 (.t 23)),
(4:Nat) (.mov (.t 24))] [0, 3, 4, 13, 14, 15])
.skip))))
(.reg [(25:Nat) (.bin .add (.t 15) (1:Int)),
(15:Nat) (.mov (.t 25))] [0, 3, 4, 13, 14, 15]))))
def c55l1 : VC := (.seq (.seq (.reg [(39:Nat) (.mov (.t 11)),
(40:Nat) (.mov (.t 9)),
(41:Nat) (.fld 0 (.t 3)),
(42:Nat) (.idxA 16 1 (.t 41) (.t 40)),
(43:Nat) (.ld (.t 42)),
(44:Nat) (.bin .lss (.t 39) (.t 43))] [0, 3, 7, 8, 9, 10, 11, 44])
(.cond (.t 44) .skip
(.exit 4)))
(.seq (.block 5 (.seq (.drt [(47:Nat) (.mov (.t 0)),
(48:Nat) (.nilck (.t 47)),
(49:Nat) (.ld (.t 48)),
(50:Nat) (.fld 16 (.t 3)),
(51:Nat) (.ld (.t 50)),
(52:Nat) (.mov (.t 8)),
(53:Nat) (.idxS 1 (.t 51) (.t 52)),
(54:Nat) (.ld (.t 53)),
(55:Nat) (.mov (.t 10)),
(56:Nat) (.mov (.t 7)),
(57:Nat) (.bin .or (.t 55) (.t 56)),
(58:Nat) (.idxS 1 (.t 49) (.t 54))] [.op none none (.st 1 (.t 58) (.t 57))] [0, 3, 7, 8, 9, 10, 11])
(.seq (.reg [(59:Nat) (.mov (.t 7)),
(60:Nat) (.bin .add (.t 59) (.c (.int .u32 1))),
(7:Nat) (.mov (.t 60))] [0, 3, 7, 8, 9, 10, 11])
(.reg [(61:Nat) (.mov (.t 8)),
(62:Nat) (.bin .add (.t 61) (1:Int)),
(8:Nat) (.mov (.t 62))] [0, 3, 7, 8, 9, 10, 11]))))
(.reg [(45:Nat) (.mov (.t 11)),
(46:Nat) (.bin .add (.t 45) (.c (.int .u8 1))),
(11:Nat) (.mov (.t 46))] [0, 3, 7, 8, 9, 10, 11])))
def c55l2 : VC := (.seq (.seq (.reg [(31:Nat) (.mov (.t 9)),
(32:Nat) (.bin .lss (.t 31) (16:Int))] [0, 3, 7, 8, 9, 32])
(.cond (.t 32) .skip
(.exit 2)))
(.seq (.block 3 (.seq (.reg [(35:Nat) (.mov (.t 9)),
(36:Nat) (.bin .add (.t 35) (1:Int)),
(37:Nat) (.conv .u32 (.t 36)),
(38:Nat) (.bin .shl (.t 37) (.c (.int .u64 24))),
(10:Nat) (.mov (.t 38))] [0, 3, 7, 8, 9, 10])
(.seq (.seq (.reg [(11:Nat) (.mov (.c (.int .u8 0)))] [0, 3, 7, 8, 9, 10, 11])
(.block 4 (.loop c55l1)))
(.reg [(63:Nat) (.mov (.t 7)),
(64:Nat) (.bin .shl (.t 63) (.c (.int .u64 1))),
(7:Nat) (.mov (.t 64))] [0, 3, 7, 8, 9]))))
(.reg [(33:Nat) (.mov (.t 9)),
(34:Nat) (.bin .add (.t 33) (1:Int)),
(9:Nat) (.mov (.t 34))] [0, 3, 7, 8, 9])))
def c55 : VC := (.seq (.reg [(3:Nat) (.box 135 (.t 1))] [0, 3])
(.seq (.reg [(4:Nat) (.mov (0:Int))] [0, 3, 4])
(.seq (.seq (.reg [(12:Nat) (.fld 16 (.t 3)),
(13:Nat) (.ld (.t 12)),
(14:Nat) (.len (.t 13)),
(15:Nat) (.mov (0:Int))] [0, 3, 4, 13, 14, 15])
(.block 0 (.loop c55l0)))
(.seq (.reg [(26:Nat) (.mov (.t 0)),
(27:Nat) (.mov (.t 4)),
(28:Nat) (.bin .add (.t 27) (1:Int)),
(29:Nat) (.mks .u32 43 (.t 28)),
(30:Nat) (.nilck (.t 26)),
.op none none (.st 1 (.t 30) (.t 29))] [0, 3])
(.seq (.reg [(7:Nat) (.mov (.c (.int .u32 0))),
(8:Nat) (.mov (0:Int))] [0, 3, 7, 8])
(.seq (.reg [(9:Nat) (.mov (0:Int))] [0, 3, 7, 8, 9])
(.block 2 (.loop c55l2))))))))
def F55 : VFn := { nt := 65, res := [], body := c55 }
theorem is55 : compFn Tryd.prog h55 55 = some F55 := by kernel_rfl
def c58 : VC := (.seq (.reg [(0:Nat) (.mov (.c .nils))] [])
(.seq (.reg [(1:Nat) (.bsl 5 10 (.ints .u8 (List.replicate 10 0)) (ic .u8 0 [255, 218, 0, 8, 1, 1, 0, 0, 63, 0])),
(0:Nat) (.mov (.t 1))] [0])
.ret))
def F58 : VFn := { nt := 2, res := [.tmp 0], body := c58 }
theorem is58 : compFn Tryd.prog (kz c58) 58 = some F58 := by kernel_rfl
def c59 : VC := (.seq (.reg [(0:Nat) (.mov (.c .nils))] [])
(.seq (.reg [(1:Nat) (.bsl 5 14 (.ints .u8 (List.replicate 14 0)) (ic .u8 0 [255, 218, 0, 12, 3, 1, 0, 2, 17, 3, 17, 0, 63, 0])),
(0:Nat) (.mov (.t 1))] [0])
.ret))
def F59 : VFn := { nt := 2, res := [.tmp 0], body := c59 }
theorem is59 : compFn Tryd.prog (kz c59) 59 = some F59 := by kernel_rfl
def c60 : VC := (.seq (.reg [(4:Nat) (.alloc (.own [(.int .i64 0), (.int .i64 0)] 87))] [0, 1, 4])
(.seq (.reg [(5:Nat) (.mov (.t 0)),
(6:Nat) (.mov (.t 1)),
(7:Nat) (.build (.agg [(.int .i64 0), (.int .i64 0)]) [(0, 1, (.t 5)), (1, 1, (.t 6))]),
.op none none (.st 2 (.t 4) (.t 7))] [4])
.ret))
def F60 : VFn := { nt := 8, res := [.cells 4 2], body := c60 }
theorem is60 : compFn Tryd.prog (kz c60) 60 = some F60 := by kernel_rfl
def c69 : VC := (.seq (.reg [(2:Nat) (.mov (.t 0)),
.call (some 3) 78 [(.t 2)]] [0])
(.reg [(4:Nat) (.mov (.t 0)),
.call (some 5) 79 [(.t 4)]] []))
def F69 : VFn := { nt := 6, res := [], body := c69 }
theorem is69 : compFn Tryd.prog (kz c69) 69 = some F69 := by kernel_rfl
def c70 : VC := (.seq (.reg [(4:Nat) (.mov (.c (.int .i32 0)))] [0, 1])
(.seq (.seq (.reg [(5:Nat) (.mov (.t 0)),
(6:Nat) (.bin .geq (.t 5) (.c (.int .i32 0)))] [0, 1, 6])
(.cond (.t 6) (.seq (.reg [(7:Nat) (.mov (.t 0)),
(8:Nat) (.mov (.t 1)),
(9:Nat) (.bin .shr (.t 8) (.c (.int .u64 1))),
(10:Nat) (.bin .add (.t 7) (.t 9)),
(11:Nat) (.mov (.t 1)),
(12:Nat) (.bin .quo (.t 10) (.t 11)),
(4:Nat) (.mov (.t 12))] [4])
.ret)
.skip))
(.seq (.reg [(13:Nat) (.mov (.t 0)),
(14:Nat) (.un .neg (.t 13)),
(15:Nat) (.mov (.t 1)),
(16:Nat) (.bin .shr (.t 15) (.c (.int .u64 1))),
(17:Nat) (.bin .add (.t 14) (.t 16)),
(18:Nat) (.mov (.t 1)),
(19:Nat) (.bin .quo (.t 17) (.t 18)),
(20:Nat) (.un .neg (.t 19)),
(4:Nat) (.mov (.t 20))] [4])
.ret)))
def F70 : VFn := { nt := 21, res := [.tmp 4], body := c70 }
theorem is70 : compFn Tryd.prog (kz c70) 70 = some F70 := by kernel_rfl
def c74 : VC := (.seq (.reg [(6:Nat) (.mov (.c (.int .u8 0))),
(7:Nat) (.mov (.c (.int .u8 0))),
(8:Nat) (.mov (.c (.int .u8 0)))] [0, 1, 2])
(.seq (.reg [(15:Nat) (.mov (.t 0)),
(16:Nat) (.conv .i32 (.t 15)),
(9:Nat) (.mov (.t 16))] [1, 2, 9])
(.seq (.reg [(17:Nat) (.mov (.t 1)),
(18:Nat) (.conv .i32 (.t 17)),
(10:Nat) (.mov (.t 18))] [2, 9, 10])
(.seq (.reg [(19:Nat) (.mov (.t 2)),
(20:Nat) (.conv .i32 (.t 19)),
(11:Nat) (.mov (.t 20))] [9, 10, 11])
(.seq (.reg [(21:Nat) (.mov (.t 9)),
(22:Nat) (.bin .mul (.c (.int .i32 19595)) (.t 21)),
(23:Nat) (.mov (.t 10)),
(24:Nat) (.bin .mul (.c (.int .i32 38470)) (.t 23)),
(25:Nat) (.bin .add (.t 22) (.t 24)),
(26:Nat) (.mov (.t 11)),
(27:Nat) (.bin .mul (.c (.int .i32 7471)) (.t 26)),
(28:Nat) (.bin .add (.t 25) (.t 27)),
(29:Nat) (.bin .add (.t 28) (.c (.int .i32 32768))),
(30:Nat) (.bin .shr (.t 29) (.c (.int .u64 16))),
(12:Nat) (.mov (.t 30))] [9, 10, 11, 12])
(.seq (.reg [(31:Nat) (.mov (.t 9)),
(32:Nat) (.bin .mul (.c (.int .i32 (-11056))) (.t 31)),
(33:Nat) (.mov (.t 10)),
(34:Nat) (.bin .mul (.c (.int .i32 21712)) (.t 33)),
(35:Nat) (.bin .sub (.t 32) (.t 34)),
(36:Nat) (.mov (.t 11)),
(37:Nat) (.bin .mul (.c (.int .i32 32768)) (.t 36)),
(38:Nat) (.bin .add (.t 35) (.t 37)),
(39:Nat) (.bin .add (.t 38) (.c (.int .i32 8421376))),
(13:Nat) (.mov (.t 39))] [9, 10, 11, 12, 13])
(.seq (.seq (.reg [(40:Nat) (.mov (.t 13)),
(41:Nat) (.conv .u32 (.t 40)),
(42:Nat) (.bin .and (.t 41) (.c (.int .u32 4278190080))),
(43:Nat) (.bin .eql (.t 42) (.c (.int .u32 0)))] [9, 10, 11, 12, 13, 43])
(.cond (.t 43) (.reg [(44:Nat) (.mov (.t 13)),
(45:Nat) (.bin .shr (.t 44) (.c (.int .u64 16))),
(13:Nat) (.mov (.t 45))] [9, 10, 11, 12, 13])
(.reg [(46:Nat) (.mov (.t 13)),
(47:Nat) (.bin .shr (.t 46) (.c (.int .u64 31))),
(48:Nat) (.un .xor (.t 47)),
(13:Nat) (.mov (.t 48))] [9, 10, 11, 12, 13])))
(.seq (.reg [(49:Nat) (.mov (.t 9)),
(50:Nat) (.bin .mul (.c (.int .i32 32768)) (.t 49)),
(51:Nat) (.mov (.t 10)),
(52:Nat) (.bin .mul (.c (.int .i32 27440)) (.t 51)),
(53:Nat) (.bin .sub (.t 50) (.t 52)),
(54:Nat) (.mov (.t 11)),
(55:Nat) (.bin .mul (.c (.int .i32 5328)) (.t 54)),
(56:Nat) (.bin .sub (.t 53) (.t 55)),
(57:Nat) (.bin .add (.t 56) (.c (.int .i32 8421376))),
(14:Nat) (.mov (.t 57))] [12, 13, 14])
(.seq (.seq (.reg [(58:Nat) (.mov (.t 14)),
(59:Nat) (.conv .u32 (.t 58)),
(60:Nat) (.bin .and (.t 59) (.c (.int .u32 4278190080))),
(61:Nat) (.bin .eql (.t 60) (.c (.int .u32 0)))] [12, 13, 14, 61])
(.cond (.t 61) (.reg [(62:Nat) (.mov (.t 14)),
(63:Nat) (.bin .shr (.t 62) (.c (.int .u64 16))),
(14:Nat) (.mov (.t 63))] [12, 13, 14])
(.reg [(64:Nat) (.mov (.t 14)),
(65:Nat) (.bin .shr (.t 64) (.c (.int .u64 31))),
(66:Nat) (.un .xor (.t 65)),
(14:Nat) (.mov (.t 66))] [12, 13, 14])))
(.seq (.reg [(67:Nat) (.mov (.t 12)),
(68:Nat) (.conv .u8 (.t 67)),
(69:Nat) (.mov (.t 13)),
(70:Nat) (.conv .u8 (.t 69)),
(71:Nat) (.mov (.t 14)),
(72:Nat) (.conv .u8 (.t 71)),
(6:Nat) (.mov (.t 68)),
(7:Nat) (.mov (.t 70)),
(8:Nat) (.mov (.t 72))] [6, 7, 8])
.ret))))))))))
def F74 : VFn := { nt := 73, res := [.tmp 6, .tmp 7, .tmp 8], body := c74 }
theorem is74 : compFn Tryd.prog (kz c74) 74 = some F74 := by kernel_rfl
def c78l0 : VC := (.seq (.reg [(12:Nat) (.bin .lss (.t 11) (8:Int))] [0, 11, 12])
(.seq (.cond (.t 12) .skip
(.exit 0))
(.seq (.block 1 (.seq (.reg [(13:Nat) (.mov (.t 11)),
(2:Nat) (.mov (.t 13))] [0, 2, 11])
(.seq (.reg [(14:Nat) (.mov (.t 0)),
(15:Nat) (.mov (.t 2)),
(16:Nat) (.bin .add (0:Int) (.t 15)),
(17:Nat) (.nilck (.t 14)),
(18:Nat) (.idxA 64 1 (.t 17) (.t 16)),
(19:Nat) (.ld (.t 18)),
(3:Nat) (.mov (.t 19))] [0, 2, 3, 11])
(.seq (.reg [(20:Nat) (.mov (.t 0)),
(21:Nat) (.mov (.t 2)),
(22:Nat) (.bin .add (8:Int) (.t 21)),
(23:Nat) (.nilck (.t 20)),
(24:Nat) (.idxA 64 1 (.t 23) (.t 22)),
(25:Nat) (.ld (.t 24)),
(4:Nat) (.mov (.t 25))] [0, 2, 3, 4, 11])
(.seq (.reg [(26:Nat) (.mov (.t 0)),
(27:Nat) (.mov (.t 2)),
(28:Nat) (.bin .add (16:Int) (.t 27)),
(29:Nat) (.nilck (.t 26)),
(30:Nat) (.idxA 64 1 (.t 29) (.t 28)),
(31:Nat) (.ld (.t 30)),
(5:Nat) (.mov (.t 31))] [0, 2, 3, 4, 5, 11])
(.seq (.reg [(32:Nat) (.mov (.t 0)),
(33:Nat) (.mov (.t 2)),
(34:Nat) (.bin .add (24:Int) (.t 33)),
(35:Nat) (.nilck (.t 32)),
(36:Nat) (.idxA 64 1 (.t 35) (.t 34)),
(37:Nat) (.ld (.t 36)),
(6:Nat) (.mov (.t 37))] [0, 2, 3, 4, 5, 6, 11])
(.seq (.reg [(38:Nat) (.mov (.t 0)),
(39:Nat) (.mov (.t 2)),
(40:Nat) (.bin .add (32:Int) (.t 39)),
(41:Nat) (.nilck (.t 38)),
(42:Nat) (.idxA 64 1 (.t 41) (.t 40)),
(43:Nat) (.ld (.t 42)),
(7:Nat) (.mov (.t 43))] [0, 2, 3, 4, 5, 6, 7, 11])
(.seq (.reg [(44:Nat) (.mov (.t 0)),
(45:Nat) (.mov (.t 2)),
(46:Nat) (.bin .add (40:Int) (.t 45)),
(47:Nat) (.nilck (.t 44)),
(48:Nat) (.idxA 64 1 (.t 47) (.t 46)),
(49:Nat) (.ld (.t 48)),
(8:Nat) (.mov (.t 49))] [0, 2, 3, 4, 5, 6, 7, 8, 11])
(.seq (.reg [(50:Nat) (.mov (.t 0)),
(51:Nat) (.mov (.t 2)),
(52:Nat) (.bin .add (48:Int) (.t 51)),
(53:Nat) (.nilck (.t 50)),
(54:Nat) (.idxA 64 1 (.t 53) (.t 52)),
(55:Nat) (.ld (.t 54)),
(9:Nat) (.mov (.t 55))] [0, 2, 3, 4, 5, 6, 7, 8, 9, 11])
(.seq (.reg [(56:Nat) (.mov (.t 0)),
(57:Nat) (.mov (.t 2)),
(58:Nat) (.bin .add (56:Int) (.t 57)),
(59:Nat) (.nilck (.t 56)),
(60:Nat) (.idxA 64 1 (.t 59) (.t 58)),
(61:Nat) (.ld (.t 60)),
(10:Nat) (.mov (.t 61))] [0, 2, 3, 4, 5, 6, 7, 8, 9, 10, 11])
(.seq (.reg [(62:Nat) (.mov (.t 3)),
(63:Nat) (.mov (.t 10)),
(64:Nat) (.bin .add (.t 62) (.t 63)),
(65:Nat) (.mov (.t 3)),
(66:Nat) (.mov (.t 10)),
(67:Nat) (.bin .sub (.t 65) (.t 66)),
(3:Nat) (.mov (.t 64)),
(10:Nat) (.mov (.t 67))] [0, 2, 3, 4, 5, 6, 7, 8, 9, 10, 11])
(.seq (.reg [(68:Nat) (.mov (.t 4)),
(69:Nat) (.mov (.t 9)),
(70:Nat) (.bin .add (.t 68) (.t 69)),
(71:Nat) (.mov (.t 4)),
(72:Nat) (.mov (.t 9)),
(73:Nat) (.bin .sub (.t 71) (.t 72)),
(4:Nat) (.mov (.t 70)),
(9:Nat) (.mov (.t 73))] [0, 2, 3, 4, 5, 6, 7, 8, 9, 10, 11])
(.seq (.reg [(74:Nat) (.mov (.t 5)),
(75:Nat) (.mov (.t 8)),
(76:Nat) (.bin .add (.t 74) (.t 75)),
(77:Nat) (.mov (.t 5)),
(78:Nat) (.mov (.t 8)),
(79:Nat) (.bin .sub (.t 77) (.t 78)),
(5:Nat) (.mov (.t 76)),
(8:Nat) (.mov (.t 79))] [0, 2, 3, 4, 5, 6, 7, 8, 9, 10, 11])
(.seq (.reg [(80:Nat) (.mov (.t 6)),
(81:Nat) (.mov (.t 7)),
(82:Nat) (.bin .add (.t 80) (.t 81)),
(83:Nat) (.mov (.t 6)),
(84:Nat) (.mov (.t 7)),
(85:Nat) (.bin .sub (.t 83) (.t 84)),
(6:Nat) (.mov (.t 82)),
(7:Nat) (.mov (.t 85))] [0, 2, 3, 4, 5, 6, 7, 8, 9, 10, 11])
(.seq (.reg [(87:Nat) (.mov (.t 7)),
(88:Nat) (.mov (.t 10)),
.call (some 89) 81 [(.c (.int .u64 958619196450722178)), (18:Int)],
.call (some 90) 81 [(.c (.int .u64 640528868967736374)), (18:Int)],
.call (some 91) 80 [(.t 87), (.t 88), (.t 89), (.t 90)],
(86:Nat) (.mov (.t 91)),
(92:Nat) (.tupx (.t 86) 0),
(93:Nat) (.tupx (.t 86) 1),
(7:Nat) (.mov (.t 92)),
(10:Nat) (.mov (.t 93))] [0, 2, 3, 4, 5, 6, 7, 8, 9, 10, 11])
(.seq (.reg [(95:Nat) (.mov (.t 8)),
(96:Nat) (.mov (.t 9)),
.call (some 97) 81 [(.c (.int .u64 1130768441178740757)), (18:Int)],
.call (some 98) 81 [(.c (.int .u64 224923827593068887)), (18:Int)],
.call (some 99) 80 [(.t 95), (.t 96), (.t 97), (.t 98)],
(94:Nat) (.mov (.t 99)),
(100:Nat) (.tupx (.t 94) 0),
(101:Nat) (.tupx (.t 94) 1),
(8:Nat) (.mov (.t 100)),
(9:Nat) (.mov (.t 101))] [0, 2, 3, 4, 5, 6, 7, 8, 9, 10, 11])
(.seq (.reg [(102:Nat) (.mov (.t 3)),
(103:Nat) (.mov (.t 6)),
(104:Nat) (.bin .add (.t 102) (.t 103)),
(105:Nat) (.mov (.t 3)),
(106:Nat) (.mov (.t 6)),
(107:Nat) (.bin .sub (.t 105) (.t 106)),
(3:Nat) (.mov (.t 104)),
(6:Nat) (.mov (.t 107))] [0, 2, 3, 4, 5, 6, 7, 8, 9, 10, 11])
(.seq (.reg [(108:Nat) (.mov (.t 4)),
(109:Nat) (.mov (.t 5)),
(110:Nat) (.bin .add (.t 108) (.t 109)),
(111:Nat) (.mov (.t 4)),
(112:Nat) (.mov (.t 5)),
(113:Nat) (.bin .sub (.t 111) (.t 112)),
(4:Nat) (.mov (.t 110)),
(5:Nat) (.mov (.t 113))] [0, 2, 3, 4, 5, 6, 7, 8, 9, 10, 11])
(.seq (.reg [(115:Nat) (.mov (.t 5)),
(116:Nat) (.mov (.t 6)),
.call (some 117) 81 [(.c (.int .u64 623956622067911264)), (18:Int)],
.call (some 118) 81 [(.c (.int .u64 1506364539328854985)), (18:Int)],
.call (some 119) 80 [(.t 115), (.t 116), (.t 117), (.t 118)],
(114:Nat) (.mov (.t 119)),
(120:Nat) (.tupx (.t 114) 0),
(121:Nat) (.tupx (.t 114) 1),
(5:Nat) (.mov (.t 120)),
(6:Nat) (.mov (.t 121))] [0, 2, 3, 4, 5, 6, 7, 8, 9, 10, 11])
(.seq (.reg [(122:Nat) (.mov (.t 3)),
(123:Nat) (.mov (.t 4)),
(124:Nat) (.bin .add (.t 122) (.t 123)),
(125:Nat) (.mov (.t 3)),
(126:Nat) (.mov (.t 4)),
(127:Nat) (.bin .sub (.t 125) (.t 126)),
(3:Nat) (.mov (.t 124)),
(4:Nat) (.mov (.t 127))] [0, 2, 3, 4, 5, 6, 7, 8, 9, 10, 11])
(.seq (.reg [(128:Nat) (.mov (.t 0)),
(129:Nat) (.mov (.t 2)),
(130:Nat) (.bin .add (0:Int) (.t 129)),
(131:Nat) (.mov (.t 3)),
(132:Nat) (.bin .sub (.t 131) (.c (.int .i32 1024))),
(133:Nat) (.bin .shl (.t 132) (.c (.int .u64 18))),
(134:Nat) (.nilck (.t 128)),
(135:Nat) (.idxA 64 1 (.t 134) (.t 130)),
.op none none (.st 1 (.t 135) (.t 133))] [0, 2, 4, 5, 6, 7, 8, 9, 10, 11])
(.seq (.reg [(136:Nat) (.mov (.t 0)),
(137:Nat) (.mov (.t 2)),
(138:Nat) (.bin .add (32:Int) (.t 137)),
(139:Nat) (.mov (.t 4)),
(140:Nat) (.bin .shl (.t 139) (.c (.int .u64 18))),
(141:Nat) (.nilck (.t 136)),
(142:Nat) (.idxA 64 1 (.t 141) (.t 138)),
.op none none (.st 1 (.t 142) (.t 140))] [0, 2, 5, 6, 7, 8, 9, 10, 11])
(.seq (.reg [(143:Nat) (.mov (.t 0)),
(144:Nat) (.mov (.t 2)),
(145:Nat) (.bin .add (16:Int) (.t 144)),
(146:Nat) (.mov (.t 5)),
(147:Nat) (.nilck (.t 143)),
(148:Nat) (.idxA 64 1 (.t 147) (.t 145)),
.op none none (.st 1 (.t 148) (.t 146))] [0, 2, 6, 7, 8, 9, 10, 11])
(.seq (.reg [(149:Nat) (.mov (.t 0)),
(150:Nat) (.mov (.t 2)),
(151:Nat) (.bin .add (48:Int) (.t 150)),
(152:Nat) (.mov (.t 6)),
(153:Nat) (.nilck (.t 149)),
(154:Nat) (.idxA 64 1 (.t 153) (.t 151)),
.op none none (.st 1 (.t 154) (.t 152))] [0, 2, 7, 8, 9, 10, 11])
(.seq (.reg [(155:Nat) (.mov (.t 7)),
(156:Nat) (.mov (.t 9)),
(157:Nat) (.bin .add (.t 155) (.t 156)),
(158:Nat) (.mov (.t 7)),
(159:Nat) (.mov (.t 9)),
(160:Nat) (.bin .sub (.t 158) (.t 159)),
(7:Nat) (.mov (.t 157)),
(9:Nat) (.mov (.t 160))] [0, 2, 7, 8, 9, 10, 11])
(.seq (.reg [(161:Nat) (.mov (.t 10)),
(162:Nat) (.mov (.t 8)),
(163:Nat) (.bin .add (.t 161) (.t 162)),
(164:Nat) (.mov (.t 10)),
(165:Nat) (.mov (.t 8)),
(166:Nat) (.bin .sub (.t 164) (.t 165)),
(10:Nat) (.mov (.t 163)),
(8:Nat) (.mov (.t 166))] [0, 2, 7, 8, 9, 10, 11])
(.seq (.reg [(167:Nat) (.mov (.t 8)),
(168:Nat) (.bin .shr (.t 167) (.c (.int .u64 12))),
.call (some 169) 81 [(.c (.int .u64 1630477228166597777)), (12:Int)],
(170:Nat) (.bin .mul (.t 168) (.t 169)),
(8:Nat) (.mov (.t 170))] [0, 2, 7, 8, 9, 10, 11])
(.seq (.reg [(171:Nat) (.mov (.t 9)),
(172:Nat) (.bin .shr (.t 171) (.c (.int .u64 12))),
.call (some 173) 81 [(.c (.int .u64 1630477228166597777)), (12:Int)],
(174:Nat) (.bin .mul (.t 172) (.t 173)),
(9:Nat) (.mov (.t 174))] [0, 2, 7, 8, 9, 10, 11])
(.seq (.reg [(175:Nat) (.mov (.t 10)),
(176:Nat) (.mov (.t 7)),
(177:Nat) (.bin .add (.t 175) (.t 176)),
(178:Nat) (.mov (.t 10)),
(179:Nat) (.mov (.t 7)),
(180:Nat) (.bin .sub (.t 178) (.t 179)),
(10:Nat) (.mov (.t 177)),
(7:Nat) (.mov (.t 180))] [0, 2, 7, 8, 9, 10, 11])
(.seq (.reg [(181:Nat) (.mov (.t 0)),
(182:Nat) (.mov (.t 2)),
(183:Nat) (.bin .add (8:Int) (.t 182)),
(184:Nat) (.mov (.t 10)),
(185:Nat) (.nilck (.t 181)),
(186:Nat) (.idxA 64 1 (.t 185) (.t 183)),
.op none none (.st 1 (.t 186) (.t 184))] [0, 2, 7, 8, 9, 11])
(.seq (.reg [(187:Nat) (.mov (.t 0)),
(188:Nat) (.mov (.t 2)),
(189:Nat) (.bin .add (24:Int) (.t 188)),
(190:Nat) (.mov (.t 8)),
(191:Nat) (.nilck (.t 187)),
(192:Nat) (.idxA 64 1 (.t 191) (.t 189)),
.op none none (.st 1 (.t 192) (.t 190))] [0, 2, 7, 9, 11])
(.seq (.reg [(193:Nat) (.mov (.t 0)),
(194:Nat) (.mov (.t 2)),
(195:Nat) (.bin .add (40:Int) (.t 194)),
(196:Nat) (.mov (.t 9)),
(197:Nat) (.nilck (.t 193)),
(198:Nat) (.idxA 64 1 (.t 197) (.t 195)),
.op none none (.st 1 (.t 198) (.t 196))] [0, 2, 7, 11])
(.reg [(199:Nat) (.mov (.t 0)),
(200:Nat) (.mov (.t 2)),
(201:Nat) (.bin .add (56:Int) (.t 200)),
(202:Nat) (.mov (.t 7)),
(203:Nat) (.nilck (.t 199)),
(204:Nat) (.idxA 64 1 (.t 203) (.t 201)),
.op none none (.st 1 (.t 204) (.t 202))] [0, 11])))))))))))))))))))))))))))))))))
(.reg [(205:Nat) (.bin .add (.t 11) (1:Int)),
(11:Nat) (.mov (.t 205))] [0, 11]))))
def c78 : VC := (.seq (.reg [(11:Nat) (.mov (0:Int))] [0, 11])
(.block 0 (.loop c78l0)))
def F78 : VFn := { nt := 206, res := [], body := c78 }
theorem is78 : compFn Tryd.prog (kz c78) 78 = some F78 := by kernel_rfl
def c79l0 : VC := (.seq (.reg [(13:Nat) (.bin .lss (.t 12) (8:Int))] [0, 12, 13])
(.seq (.cond (.t 13) .skip
(.exit 0))
(.seq (.block 1 (.seq (.reg [(14:Nat) (.mov (.t 12)),
(2:Nat) (.mov (.t 14))] [0, 2, 12])
(.seq (.reg [(15:Nat) (.mov (.t 0)),
(16:Nat) (.nilck (.t 15)),
(17:Nat) (.mov (.t 2)),
(18:Nat) (.bin .mul (8:Int) (.t 17)),
(19:Nat) (.mov (.t 2)),
(20:Nat) (.bin .mul (8:Int) (.t 19)),
(21:Nat) (.bin .add (.t 20) (8:Int)),
(22:Nat) (.mov (.t 2)),
(23:Nat) (.bin .mul (8:Int) (.t 22)),
(24:Nat) (.bin .add (.t 23) (8:Int)),
(25:Nat) (.slc 64 1 (.t 16) (some (.t 18)) (some (.t 21)) (some (.t 24))),
(3:Nat) (.mov (.t 25))] [0, 3, 12])
(.seq (.reg [(26:Nat) (.mov (.t 3)),
(27:Nat) (.idxS 1 (.t 26) (0:Int)),
(28:Nat) (.ld (.t 27)),
(4:Nat) (.mov (.t 28))] [0, 3, 4, 12])
(.seq (.reg [(29:Nat) (.mov (.t 3)),
(30:Nat) (.idxS 1 (.t 29) (1:Int)),
(31:Nat) (.ld (.t 30)),
(5:Nat) (.mov (.t 31))] [0, 3, 4, 5, 12])
(.seq (.reg [(32:Nat) (.mov (.t 3)),
(33:Nat) (.idxS 1 (.t 32) (2:Int)),
(34:Nat) (.ld (.t 33)),
(6:Nat) (.mov (.t 34))] [0, 3, 4, 5, 6, 12])
(.seq (.reg [(35:Nat) (.mov (.t 3)),
(36:Nat) (.idxS 1 (.t 35) (3:Int)),
(37:Nat) (.ld (.t 36)),
(7:Nat) (.mov (.t 37))] [0, 3, 4, 5, 6, 7, 12])
(.seq (.reg [(38:Nat) (.mov (.t 3)),
(39:Nat) (.idxS 1 (.t 38) (4:Int)),
(40:Nat) (.ld (.t 39)),
(8:Nat) (.mov (.t 40))] [0, 3, 4, 5, 6, 7, 8, 12])
(.seq (.reg [(41:Nat) (.mov (.t 3)),
(42:Nat) (.idxS 1 (.t 41) (5:Int)),
(43:Nat) (.ld (.t 42)),
(9:Nat) (.mov (.t 43))] [0, 3, 4, 5, 6, 7, 8, 9, 12])
(.seq (.reg [(44:Nat) (.mov (.t 3)),
(45:Nat) (.idxS 1 (.t 44) (6:Int)),
(46:Nat) (.ld (.t 45)),
(10:Nat) (.mov (.t 46))] [0, 3, 4, 5, 6, 7, 8, 9, 10, 12])
(.seq (.reg [(47:Nat) (.mov (.t 3)),
(48:Nat) (.idxS 1 (.t 47) (7:Int)),
(49:Nat) (.ld (.t 48)),
(11:Nat) (.mov (.t 49))] [0, 3, 4, 5, 6, 7, 8, 9, 10, 11, 12])
(.seq (.reg [(50:Nat) (.mov (.t 4)),
(51:Nat) (.mov (.t 11)),
(52:Nat) (.bin .add (.t 50) (.t 51)),
(53:Nat) (.mov (.t 4)),
(54:Nat) (.mov (.t 11)),
(55:Nat) (.bin .sub (.t 53) (.t 54)),
(4:Nat) (.mov (.t 52)),
(11:Nat) (.mov (.t 55))] [0, 3, 4, 5, 6, 7, 8, 9, 10, 11, 12])
(.seq (.reg [(56:Nat) (.mov (.t 5)),
(57:Nat) (.mov (.t 10)),
(58:Nat) (.bin .add (.t 56) (.t 57)),
(59:Nat) (.mov (.t 5)),
(60:Nat) (.mov (.t 10)),
(61:Nat) (.bin .sub (.t 59) (.t 60)),
(5:Nat) (.mov (.t 58)),
(10:Nat) (.mov (.t 61))] [0, 3, 4, 5, 6, 7, 8, 9, 10, 11, 12])
(.seq (.reg [(62:Nat) (.mov (.t 6)),
(63:Nat) (.mov (.t 9)),
(64:Nat) (.bin .add (.t 62) (.t 63)),
(65:Nat) (.mov (.t 6)),
(66:Nat) (.mov (.t 9)),
(67:Nat) (.bin .sub (.t 65) (.t 66)),
(6:Nat) (.mov (.t 64)),
(9:Nat) (.mov (.t 67))] [0, 3, 4, 5, 6, 7, 8, 9, 10, 11, 12])
(.seq (.reg [(68:Nat) (.mov (.t 7)),
(69:Nat) (.mov (.t 8)),
(70:Nat) (.bin .add (.t 68) (.t 69)),
(71:Nat) (.mov (.t 7)),
(72:Nat) (.mov (.t 8)),
(73:Nat) (.bin .sub (.t 71) (.t 72)),
(7:Nat) (.mov (.t 70)),
(8:Nat) (.mov (.t 73))] [0, 3, 4, 5, 6, 7, 8, 9, 10, 11, 12])
(.seq (.reg [(75:Nat) (.mov (.t 8)),
(76:Nat) (.bin .shr (.t 75) (.c (.int .u64 14))),
(77:Nat) (.mov (.t 11)),
(78:Nat) (.bin .shr (.t 77) (.c (.int .u64 14))),
.call (some 79) 81 [(.c (.int .u64 958619196450722178)), (14:Int)],
.call (some 80) 81 [(.c (.int .u64 640528868967736374)), (14:Int)],
.call (some 81) 80 [(.t 76), (.t 78), (.t 79), (.t 80)],
(74:Nat) (.mov (.t 81)),
(82:Nat) (.tupx (.t 74) 0),
(83:Nat) (.tupx (.t 74) 1),
(8:Nat) (.mov (.t 82)),
(11:Nat) (.mov (.t 83))] [0, 3, 4, 5, 6, 7, 8, 9, 10, 11, 12])
(.seq (.reg [(85:Nat) (.mov (.t 9)),
(86:Nat) (.bin .shr (.t 85) (.c (.int .u64 14))),
(87:Nat) (.mov (.t 10)),
(88:Nat) (.bin .shr (.t 87) (.c (.int .u64 14))),
.call (some 89) 81 [(.c (.int .u64 1130768441178740757)), (14:Int)],
.call (some 90) 81 [(.c (.int .u64 224923827593068887)), (14:Int)],
.call (some 91) 80 [(.t 86), (.t 88), (.t 89), (.t 90)],
(84:Nat) (.mov (.t 91)),
(92:Nat) (.tupx (.t 84) 0),
(93:Nat) (.tupx (.t 84) 1),
(9:Nat) (.mov (.t 92)),
(10:Nat) (.mov (.t 93))] [0, 3, 4, 5, 6, 7, 8, 9, 10, 11, 12])
(.seq (.reg [(94:Nat) (.mov (.t 4)),
(95:Nat) (.mov (.t 7)),
(96:Nat) (.bin .add (.t 94) (.t 95)),
(97:Nat) (.mov (.t 4)),
(98:Nat) (.mov (.t 7)),
(99:Nat) (.bin .sub (.t 97) (.t 98)),
(4:Nat) (.mov (.t 96)),
(7:Nat) (.mov (.t 99))] [0, 3, 4, 5, 6, 7, 8, 9, 10, 11, 12])
(.seq (.reg [(100:Nat) (.mov (.t 5)),
(101:Nat) (.mov (.t 6)),
(102:Nat) (.bin .add (.t 100) (.t 101)),
(103:Nat) (.mov (.t 5)),
(104:Nat) (.mov (.t 6)),
(105:Nat) (.bin .sub (.t 103) (.t 104)),
(5:Nat) (.mov (.t 102)),
(6:Nat) (.mov (.t 105))] [0, 3, 4, 5, 6, 7, 8, 9, 10, 11, 12])
(.seq (.reg [(107:Nat) (.mov (.t 6)),
(108:Nat) (.bin .shr (.t 107) (.c (.int .u64 14))),
(109:Nat) (.mov (.t 7)),
(110:Nat) (.bin .shr (.t 109) (.c (.int .u64 14))),
.call (some 111) 81 [(.c (.int .u64 623956622067911264)), (14:Int)],
.call (some 112) 81 [(.c (.int .u64 1506364539328854985)), (14:Int)],
.call (some 113) 80 [(.t 108), (.t 110), (.t 111), (.t 112)],
(106:Nat) (.mov (.t 113)),
(114:Nat) (.tupx (.t 106) 0),
(115:Nat) (.tupx (.t 106) 1),
(6:Nat) (.mov (.t 114)),
(7:Nat) (.mov (.t 115))] [0, 3, 4, 5, 6, 7, 8, 9, 10, 11, 12])
(.seq (.reg [(116:Nat) (.mov (.t 4)),
(117:Nat) (.mov (.t 5)),
(118:Nat) (.bin .add (.t 116) (.t 117)),
(119:Nat) (.mov (.t 4)),
(120:Nat) (.mov (.t 5)),
(121:Nat) (.bin .sub (.t 119) (.t 120)),
(4:Nat) (.mov (.t 118)),
(5:Nat) (.mov (.t 121))] [0, 3, 4, 5, 6, 7, 8, 9, 10, 11, 12])
(.seq (.reg [(122:Nat) (.mov (.t 8)),
(123:Nat) (.mov (.t 10)),
(124:Nat) (.bin .add (.t 122) (.t 123)),
(125:Nat) (.mov (.t 8)),
(126:Nat) (.mov (.t 10)),
(127:Nat) (.bin .sub (.t 125) (.t 126)),
(8:Nat) (.mov (.t 124)),
(10:Nat) (.mov (.t 127))] [0, 3, 4, 5, 6, 7, 8, 9, 10, 11, 12])
(.seq (.reg [(128:Nat) (.mov (.t 11)),
(129:Nat) (.mov (.t 9)),
(130:Nat) (.bin .add (.t 128) (.t 129)),
(131:Nat) (.mov (.t 11)),
(132:Nat) (.mov (.t 9)),
(133:Nat) (.bin .sub (.t 131) (.t 132)),
(11:Nat) (.mov (.t 130)),
(9:Nat) (.mov (.t 133))] [0, 3, 4, 5, 6, 7, 8, 9, 10, 11, 12])
(.seq (.reg [(134:Nat) (.mov (.t 9)),
(135:Nat) (.bin .shr (.t 134) (.c (.int .u64 14))),
.call (some 136) 81 [(.c (.int .u64 1630477228166597777)), (14:Int)],
(137:Nat) (.bin .mul (.t 135) (.t 136)),
(9:Nat) (.mov (.t 137))] [0, 3, 4, 5, 6, 7, 8, 9, 10, 11, 12])
(.seq (.reg [(138:Nat) (.mov (.t 10)),
(139:Nat) (.bin .shr (.t 138) (.c (.int .u64 14))),
.call (some 140) 81 [(.c (.int .u64 1630477228166597777)), (14:Int)],
(141:Nat) (.bin .mul (.t 139) (.t 140)),
(10:Nat) (.mov (.t 141))] [0, 3, 4, 5, 6, 7, 8, 9, 10, 11, 12])
(.seq (.reg [(142:Nat) (.mov (.t 11)),
(143:Nat) (.mov (.t 8)),
(144:Nat) (.bin .add (.t 142) (.t 143)),
(145:Nat) (.mov (.t 11)),
(146:Nat) (.mov (.t 8)),
(147:Nat) (.bin .sub (.t 145) (.t 146)),
(11:Nat) (.mov (.t 144)),
(8:Nat) (.mov (.t 147))] [0, 3, 4, 5, 6, 7, 8, 9, 10, 11, 12])
(.seq (.reg [(148:Nat) (.mov (.t 4)),
(149:Nat) (.bin .add (.t 148) (.c (.int .i32 131072))),
(150:Nat) (.bin .shr (.t 149) (.c (.int .u64 18))),
(4:Nat) (.mov (.t 150))] [0, 3, 4, 5, 6, 7, 8, 9, 10, 11, 12])
(.seq (.reg [(151:Nat) (.mov (.t 5)),
(152:Nat) (.bin .add (.t 151) (.c (.int .i32 131072))),
(153:Nat) (.bin .shr (.t 152) (.c (.int .u64 18))),
(5:Nat) (.mov (.t 153))] [0, 3, 4, 5, 6, 7, 8, 9, 10, 11, 12])
(.seq (.reg [(154:Nat) (.mov (.t 6)),
(155:Nat) (.bin .add (.t 154) (.c (.int .i32 131072))),
(156:Nat) (.bin .shr (.t 155) (.c (.int .u64 18))),
(6:Nat) (.mov (.t 156))] [0, 3, 4, 5, 6, 7, 8, 9, 10, 11, 12])
(.seq (.reg [(157:Nat) (.mov (.t 7)),
(158:Nat) (.bin .add (.t 157) (.c (.int .i32 131072))),
(159:Nat) (.bin .shr (.t 158) (.c (.int .u64 18))),
(7:Nat) (.mov (.t 159))] [0, 3, 4, 5, 6, 7, 8, 9, 10, 11, 12])
(.seq (.reg [(160:Nat) (.mov (.t 8)),
(161:Nat) (.bin .add (.t 160) (.c (.int .i32 131072))),
(162:Nat) (.bin .shr (.t 161) (.c (.int .u64 18))),
(8:Nat) (.mov (.t 162))] [0, 3, 4, 5, 6, 7, 8, 9, 10, 11, 12])
(.seq (.reg [(163:Nat) (.mov (.t 9)),
(164:Nat) (.bin .add (.t 163) (.c (.int .i32 131072))),
(165:Nat) (.bin .shr (.t 164) (.c (.int .u64 18))),
(9:Nat) (.mov (.t 165))] [0, 3, 4, 5, 6, 7, 8, 9, 10, 11, 12])
(.seq (.reg [(166:Nat) (.mov (.t 10)),
(167:Nat) (.bin .add (.t 166) (.c (.int .i32 131072))),
(168:Nat) (.bin .shr (.t 167) (.c (.int .u64 18))),
(10:Nat) (.mov (.t 168))] [0, 3, 4, 5, 6, 7, 8, 9, 10, 11, 12])
(.seq (.reg [(169:Nat) (.mov (.t 11)),
(170:Nat) (.bin .add (.t 169) (.c (.int .i32 131072))),
(171:Nat) (.bin .shr (.t 170) (.c (.int .u64 18))),
(11:Nat) (.mov (.t 171))] [0, 3, 4, 5, 6, 7, 8, 9, 10, 11, 12])
(.seq (.reg [(172:Nat) (.mov (.t 3)),
(173:Nat) (.mov (.t 4)),
(174:Nat) (.idxS 1 (.t 172) (0:Int)),
.op none none (.st 1 (.t 174) (.t 173))] [0, 3, 5, 6, 7, 8, 9, 10, 11, 12])
(.seq (.reg [(175:Nat) (.mov (.t 3)),
(176:Nat) (.mov (.t 11)),
(177:Nat) (.idxS 1 (.t 175) (1:Int)),
.op none none (.st 1 (.t 177) (.t 176))] [0, 3, 5, 6, 7, 8, 9, 10, 12])
(.seq (.reg [(178:Nat) (.mov (.t 3)),
(179:Nat) (.mov (.t 6)),
(180:Nat) (.idxS 1 (.t 178) (2:Int)),
.op none none (.st 1 (.t 180) (.t 179))] [0, 3, 5, 7, 8, 9, 10, 12])
(.seq (.reg [(181:Nat) (.mov (.t 3)),
(182:Nat) (.mov (.t 9)),
(183:Nat) (.idxS 1 (.t 181) (3:Int)),
.op none none (.st 1 (.t 183) (.t 182))] [0, 3, 5, 7, 8, 10, 12])
(.seq (.reg [(184:Nat) (.mov (.t 3)),
(185:Nat) (.mov (.t 5)),
(186:Nat) (.idxS 1 (.t 184) (4:Int)),
.op none none (.st 1 (.t 186) (.t 185))] [0, 3, 7, 8, 10, 12])
(.seq (.reg [(187:Nat) (.mov (.t 3)),
(188:Nat) (.mov (.t 10)),
(189:Nat) (.idxS 1 (.t 187) (5:Int)),
.op none none (.st 1 (.t 189) (.t 188))] [0, 3, 7, 8, 12])
(.seq (.reg [(190:Nat) (.mov (.t 3)),
(191:Nat) (.mov (.t 7)),
(192:Nat) (.idxS 1 (.t 190) (6:Int)),
.op none none (.st 1 (.t 192) (.t 191))] [0, 3, 8, 12])
(.reg [(193:Nat) (.mov (.t 3)),
(194:Nat) (.mov (.t 8)),
(195:Nat) (.idxS 1 (.t 193) (7:Int)),
.op none none (.st 1 (.t 195) (.t 194))] [0, 12]))))))))))))))))))))))))))))))))))))))))))
(.reg [(196:Nat) (.bin .add (.t 12) (1:Int)),
(12:Nat) (.mov (.t 196))] [0, 12]))))
def c79 : VC := (.seq (.reg [(12:Nat) (.mov (0:Int))] [0, 12])
(.block 0 (.loop c79l0)))
def F79 : VFn := { nt := 197, res := [], body := c79 }
theorem is79 : compFn Tryd.prog (kz c79) 79 = some F79 := by kernel_rfl
def c80 : VC := (.seq (.reg [(8:Nat) (.mov (.c (.int .i32 0))),
(9:Nat) (.mov (.c (.int .i32 0)))] [0, 1, 2, 3])
(.seq (.reg [(11:Nat) (.mov (.t 2)),
(12:Nat) (.mov (.t 0)),
(13:Nat) (.mov (.t 1)),
(14:Nat) (.bin .add (.t 12) (.t 13)),
(15:Nat) (.bin .mul (.t 11) (.t 14)),
(10:Nat) (.mov (.t 15))] [0, 1, 2, 3, 10])
(.seq (.reg [(16:Nat) (.mov (.t 10)),
(17:Nat) (.mov (.t 3)),
(18:Nat) (.mov (.t 2)),
(19:Nat) (.bin .sub (.t 17) (.t 18)),
(20:Nat) (.mov (.t 1)),
(21:Nat) (.bin .mul (.t 19) (.t 20)),
(22:Nat) (.bin .add (.t 16) (.t 21)),
(8:Nat) (.mov (.t 22))] [0, 2, 3, 8, 10])
(.seq (.reg [(23:Nat) (.mov (.t 10)),
(24:Nat) (.mov (.t 2)),
(25:Nat) (.mov (.t 3)),
(26:Nat) (.bin .add (.t 24) (.t 25)),
(27:Nat) (.mov (.t 0)),
(28:Nat) (.bin .mul (.t 26) (.t 27)),
(29:Nat) (.bin .sub (.t 23) (.t 28)),
(9:Nat) (.mov (.t 29))] [8, 9])
(.seq (.reg [(30:Nat) (.mov (.t 8)),
(31:Nat) (.mov (.t 9)),
(8:Nat) (.mov (.t 30)),
(9:Nat) (.mov (.t 31))] [8, 9])
.ret)))))
def F80 : VFn := { nt := 32, res := [.tmp 8, .tmp 9], body := c80 }
theorem is80 : compFn Tryd.prog (kz c80) 80 = some F80 := by kernel_rfl
def c81 : VC := (.seq (.reg [(4:Nat) (.mov (.c (.int .i32 0)))] [0, 1])
(.seq (.reg [(5:Nat) (.mov (.t 0)),
(6:Nat) (.mov (.t 1)),
(7:Nat) (.bin .sub (59:Int) (.t 6)),
(8:Nat) (.bin .shl (.c (.int .u64 1)) (.t 7)),
(9:Nat) (.bin .add (.t 5) (.t 8)),
(10:Nat) (.mov (.t 1)),
(11:Nat) (.bin .sub (60:Int) (.t 10)),
(12:Nat) (.bin .shr (.t 9) (.t 11)),
(13:Nat) (.conv .i32 (.t 12)),
(4:Nat) (.mov (.t 13))] [4])
.ret))
def F81 : VFn := { nt := 14, res := [.tmp 4], body := c81 }
theorem is81 : compFn Tryd.prog (kz c81) 81 = some F81 := by kernel_rfl
end Go.VM
