/-
  Compiled functions (the encoder): each is what the compiler makes of the given code, by the kernel. No condition but what each theorem names.
-/
import Derived.Test.YtahmhofnilgfgaaDoorVNtoVO
import Derived.Test.YtahmhofnilgfgaaDoorChecked
set_option linter.unusedVariables false
set_option linter.unusedSimpArgs false
namespace Go.VM
open Go Go.Proofs
local instance iopED : CoeFun Nat (fun _ => VI → Item) := ⟨fun d => .op none (some d)⟩
local instance icoED : Coe Int X := ⟨fun n => .c (.int .i64 n)⟩
def c17l0 : VC := (.seq (.reg [(51:Nat) (.bin .lss (.t 50) (64:Int))] [1, 7, 8, 10, 11, 47, 50, 51])
(.seq (.cond (.t 51) .skip
(.exit 2))
(.seq (.block 3 (.seq (.reg [(52:Nat) (.mov (.t 50)),
(12:Nat) (.mov (.t 52))] [1, 7, 8, 10, 11, 12, 47, 50])
(.seq (.reg [(53:Nat) (.mov (.t 11)),
(54:Nat) (.mov (.t 12)),
(55:Nat) (.idxA 2 64 (.c (.raw (.pointer (some ⟨0, 0, none⟩)))) (.t 53)),
(56:Nat) (.idxA 64 1 (.t 55) (.t 54)),
(57:Nat) (.ld (.t 56)),
(58:Nat) (.conv .i64 (.t 57)),
(13:Nat) (.mov (.t 58))] [1, 7, 8, 10, 11, 12, 13, 47, 50])
(.seq (.reg [(59:Nat) (.mov (.t 13)),
(60:Nat) (.mov (.t 10)),
(61:Nat) (.bin .mul (.t 59) (.t 60)),
(62:Nat) (.bin .add (.t 61) (50:Int)),
(63:Nat) (.bin .quo (.t 62) (100:Int)),
(13:Nat) (.mov (.t 63))] [1, 7, 8, 10, 11, 12, 13, 47, 50])
(.seq (.seq (.reg [(64:Nat) (.mov (.t 13)),
(65:Nat) (.bin .lss (.t 64) (1:Int))] [1, 7, 8, 10, 11, 12, 13, 47, 50, 65])
(.cond (.t 65) (.reg [(13:Nat) (.mov (1:Int))] [1, 7, 8, 10, 11, 12, 13, 47, 50])
(.seq (.reg [(66:Nat) (.mov (.t 13)),
(67:Nat) (.bin .gtr (.t 66) (255:Int))] [1, 7, 8, 10, 11, 12, 13, 47, 50, 67])
(.cond (.t 67) (.reg [(13:Nat) (.mov (255:Int))] [1, 7, 8, 10, 11, 12, 13, 47, 50])
.skip))))
(.reg [(68:Nat) (.mov (.t 11)),
(69:Nat) (.mov (.t 12)),
(70:Nat) (.mov (.t 13)),
(71:Nat) (.conv .u8 (.t 70)),
(72:Nat) (.fld 20 (.t 8)),
(73:Nat) (.idxA 2 64 (.t 72) (.t 68)),
(74:Nat) (.idxA 64 1 (.t 73) (.t 69)),
.op none none (.st 1 (.t 74) (.t 71))] [1, 7, 8, 10, 11, 47, 50]))))))
(.reg [(75:Nat) (.bin .add (.t 50) (1:Int)),
(50:Nat) (.mov (.t 75))] [1, 7, 8, 10, 11, 47, 50]))))
def c17l1 : VC := (.seq (.reg [(48:Nat) (.bin .lss (.t 47) (2:Int))] [1, 7, 8, 10, 47, 48])
(.seq (.cond (.t 48) .skip
(.exit 0))
(.seq (.block 1 (.seq (.reg [(49:Nat) (.mov (.t 47)),
(11:Nat) (.mov (.t 49))] [1, 7, 8, 10, 11, 47])
(.seq (.reg [(50:Nat) (.mov (0:Int))] [1, 7, 8, 10, 11, 47, 50])
(.block 2 (.loop c17l0)))))
(.reg [(76:Nat) (.bin .add (.t 47) (1:Int)),
(47:Nat) (.mov (.t 76))] [1, 7, 8, 10, 47]))))
def c17 : VC := (.seq (.reg [(6:Nat) (.mov (.c .nili))] [0, 1, 2, 21, 22, 23])
(.seq (.reg [(15:Nat) (.mov (.t 1)),
.inv (some 16) (.t 15) "Bounds" [],
(7:Nat) (.alloc (.own [(.int .i64 0), (.int .i64 0), (.int .i64 0), (.int .i64 0)] 89)),
.op none none (.st 4 (.t 7) (.t 16))] [0, 1, 2, 7, 21, 22, 23])
(.seq (.seq (.reg [(17:Nat) (.ldA 4 (.t 7)),
.call (some 18) 38 [(.t 17)],
(19:Nat) (.bin .geq (.t 18) (65536:Int)),
(20:Nat) (.mov (.t 19)),
.op (some (20, false)) (some 21) (.ldA 4 (.t 7)),
.callg 20 false (some 22) 39 [(.t 21)],
.op (some (20, false)) (some 23) (.bin .geq (.t 22) (65536:Int)),
(24:Nat) (.pick (.t 20) (.c (.bool true)) (.t 23))] [0, 1, 2, 7, 24])
(.cond (.t 24) (.seq (.reg [.call (some 25) 40 [(.c (.str ⟨#[106, 112, 101, 103, 58, 32, 105, 109, 97, 103, 101, 32, 105, 115, 32, 116, 111, 111, 32, 108, 97, 114, 103, 101, 32, 116, 111, 32, 101, 110, 99, 111, 100, 101]⟩))],
(6:Nat) (.mov (.t 25))] [6])
.ret)
.skip))
(.seq (.reg [(8:Nat) (.alloc (.own [.nili, .nili, (.int .u8 0), (.int .u8 0), (.int .u8 0), (.int .u8 0), (.int .u8 0), (.int .u8 0), (.int .u8 0), (.int .u8 0), (.int .u8 0), (.int .u8 0), (.int .u8 0), (.int .u8 0), (.int .u8 0), (.int .u8 0), (.int .u8 0), (.int .u8 0), (.int .u32 0), (.int .u32 0), (.int .u8 0), (.int .u8 0), (.int .u8 0), (.int .u8 0), (.int .u8 0), (.int .u8 0), (.int .u8 0), (.int .u8 0), (.int .u8 0), (.int .u8 0), (.int .u8 0), (.int .u8 0), (.int .u8 0), (.int .u8 0), (.int .u8 0), (.int .u8 0), (.int .u8 0), (.int .u8 0), (.int .u8 0), (.int .u8 0), (.int .u8 0), (.int .u8 0), (.int .u8 0), (.int .u8 0), (.int .u8 0), (.int .u8 0), (.int .u8 0), (.int .u8 0), (.int .u8 0), (.int .u8 0), (.int .u8 0), (.int .u8 0), (.int .u8 0), (.int .u8 0), (.int .u8 0), (.int .u8 0), (.int .u8 0), (.int .u8 0), (.int .u8 0), (.int .u8 0), (.int .u8 0), (.int .u8 0), (.int .u8 0), (.int .u8 0), (.int .u8 0), (.int .u8 0), (.int .u8 0), (.int .u8 0), (.int .u8 0), (.int .u8 0), (.int .u8 0), (.int .u8 0), (.int .u8 0), (.int .u8 0), (.int .u8 0), (.int .u8 0), (.int .u8 0), (.int .u8 0), (.int .u8 0), (.int .u8 0), (.int .u8 0), (.int .u8 0), (.int .u8 0), (.int .u8 0), (.int .u8 0), (.int .u8 0), (.int .u8 0), (.int .u8 0), (.int .u8 0), (.int .u8 0), (.int .u8 0), (.int .u8 0), (.int .u8 0), (.int .u8 0), (.int .u8 0), (.int .u8 0), (.int .u8 0), (.int .u8 0), (.int .u8 0), (.int .u8 0), (.int .u8 0), (.int .u8 0), (.int .u8 0), (.int .u8 0), (.int .u8 0), (.int .u8 0), (.int .u8 0), (.int .u8 0), (.int .u8 0), (.int .u8 0), (.int .u8 0), (.int .u8 0), (.int .u8 0), (.int .u8 0), (.int .u8 0), (.int .u8 0), (.int .u8 0), (.int .u8 0), (.int .u8 0), (.int .u8 0), (.int .u8 0), (.int .u8 0), (.int .u8 0), (.int .u8 0), (.int .u8 0), (.int .u8 0), (.int .u8 0), (.int .u8 0), (.int .u8 0), (.int .u8 0), (.int .u8 0), (.int .u8 0), (.int .u8 0), (.int .u8 0), (.int .u8 0), (.int .u8 0), (.int .u8 0), (.int .u8 0), (.int .u8 0), (.int .u8 0), (.int .u8 0), (.int .u8 0), (.int .u8 0), (.int .u8 0), (.int .u8 0), (.int .u8 0), (.int .u8 0), (.int .u8 0), .nils, .nils, .nils, .nils] 116))] [0, 1, 2, 7, 8])
(.seq (.reg [.call (some 26) 41 [],
(27:Nat) (.fld 148 (.t 8)),
.op none none (.st 4 (.t 27) (.t 26))] [0, 1, 2, 7, 8])
(.seq (.reg [(28:Nat) (.mov (.t 0)),
(29:Nat) (.fld 0 (.t 8)),
.op none none (.st 1 (.t 29) (.t 28))] [1, 2, 7, 8])
(.seq (.reg [(9:Nat) (.mov (75:Int))] [1, 2, 7, 8, 9])
(.seq (.seq (.reg [(30:Nat) (.mov (.t 2)),
(31:Nat) (.isnil true true (.t 30))] [1, 2, 7, 8, 9, 31])
(.cond (.t 31) (.seq (.reg [(32:Nat) (.mov (.t 2)),
(33:Nat) (.nilck (.t 32)),
(34:Nat) (.fld 0 (.t 33)),
(35:Nat) (.ld (.t 34)),
(9:Nat) (.mov (.t 35))] [1, 7, 8, 9])
(.seq (.reg [(36:Nat) (.mov (.t 9)),
(37:Nat) (.bin .lss (.t 36) (1:Int))] [1, 7, 8, 9, 37])
(.cond (.t 37) (.reg [(9:Nat) (.mov (1:Int))] [1, 7, 8, 9])
(.seq (.reg [(38:Nat) (.mov (.t 9)),
(39:Nat) (.bin .gtr (.t 38) (100:Int))] [1, 7, 8, 9, 39])
(.cond (.t 39) (.reg [(9:Nat) (.mov (100:Int))] [1, 7, 8, 9])
.skip)))))
.skip))
(.seq (.reg [(10:Nat) (.mov (0:Int))] [1, 7, 8, 9])
(.seq (.seq (.reg [(40:Nat) (.mov (.t 9)),
(41:Nat) (.bin .lss (.t 40) (50:Int))] [1, 7, 8, 9, 41])
(.cond (.t 41) (.reg [(42:Nat) (.mov (.t 9)),
(43:Nat) (.bin .quo (5000:Int) (.t 42)),
(10:Nat) (.mov (.t 43))] [1, 7, 8, 10])
(.reg [(44:Nat) (.mov (.t 9)),
(45:Nat) (.bin .mul (.t 44) (2:Int)),
(46:Nat) (.bin .sub (200:Int) (.t 45)),
(10:Nat) (.mov (.t 46))] [1, 7, 8, 10])))
(.seq (.seq (.reg [(47:Nat) (.mov (0:Int))] [1, 7, 8, 10, 47])
(.block 0 (.loop c17l1)))
(.seq (.reg [(14:Nat) (.mov (3:Int))] [1, 7, 8, 14])
(.seq (.seq (.reg [(77:Nat) (.mov (.t 1))] [1, 7, 8, 14, 77])
(.block 4 (.seq (.reg [(78:Nat) (.tas 91 .nilp (.t 77)),
(79:Nat) (.tupx (.t 78) 1),
(80:Nat) (.tupx (.t 78) 0)] [1, 7, 8, 14, 79])
(.cond (.t 79) (.reg [(14:Nat) (.mov (1:Int))] [1, 7, 8, 14])
.skip))))
(.seq (.reg [(81:Nat) (.fld 2 (.t 8)),
(82:Nat) (.idxA 16 1 (.t 81) (0:Int)),
.op none none (.st 1 (.t 82) (.c (.int .u8 255)))] [1, 7, 8, 14])
(.seq (.reg [(83:Nat) (.fld 2 (.t 8)),
(84:Nat) (.idxA 16 1 (.t 83) (1:Int)),
.op none none (.st 1 (.t 84) (.c (.int .u8 216)))] [1, 7, 8, 14])
(.seq (.reg [(85:Nat) (.fld 2 (.t 8)),
(86:Nat) (.slc 16 1 (.t 85) none (some (2:Int)) none),
.call (some 87) 42 [(.t 8), (.t 86)]] [1, 7, 8, 14])
(.seq (.reg [.call (some 88) 43 [(.t 8)]] [1, 7, 8, 14])
(.seq (.reg [(89:Nat) (.ldA 4 (.t 7)),
.call (some 90) 45 [(.t 89)],
(91:Nat) (.mov (.t 14)),
.call (some 92) 44 [(.t 8), (.t 90), (.t 91)]] [1, 8, 14])
(.seq (.reg [(93:Nat) (.mov (.t 14)),
.call (some 94) 46 [(.t 8), (.t 93)]] [1, 8])
(.seq (.reg [(95:Nat) (.mov (.t 1)),
.call (some 96) 47 [(.t 8), (.t 95)]] [8])
(.seq (.reg [(97:Nat) (.fld 2 (.t 8)),
(98:Nat) (.idxA 16 1 (.t 97) (0:Int)),
.op none none (.st 1 (.t 98) (.c (.int .u8 255)))] [8])
(.seq (.reg [(99:Nat) (.fld 2 (.t 8)),
(100:Nat) (.idxA 16 1 (.t 99) (1:Int)),
.op none none (.st 1 (.t 100) (.c (.int .u8 217)))] [8])
(.seq (.reg [(101:Nat) (.fld 2 (.t 8)),
(102:Nat) (.slc 16 1 (.t 101) none (some (2:Int)) none),
.call (some 103) 42 [(.t 8), (.t 102)]] [8])
(.seq (.reg [.call (some 104) 48 [(.t 8)]] [8])
(.seq (.reg [(105:Nat) (.fld 1 (.t 8)),
(106:Nat) (.ld (.t 105)),
(6:Nat) (.mov (.t 106))] [6])
.ret)))))))))))))))))))))))))
def F17 : VFn := { nt := 107, res := [.tmp 6], body := c17 }
theorem is17 : compFn Tryd.prog (kz c17) 17 = some F17 := by kernel_rfl
def c42 : VC := (.seq (.seq (.reg [(4:Nat) (.mov (.t 0)),
(5:Nat) (.nilck (.t 4)),
(6:Nat) (.fld 1 (.t 5)),
(7:Nat) (.ld (.t 6)),
(8:Nat) (.isnil false true (.t 7))] [0, 1, 8])
(.cond (.t 8) .ret
.skip))
(.reg [(10:Nat) (.mov (.t 0)),
(11:Nat) (.mov (.t 0)),
(12:Nat) (.nilck (.t 11)),
(13:Nat) (.fld 0 (.t 12)),
(14:Nat) (.ld (.t 13)),
(15:Nat) (.mov (.t 1)),
.inv (some 16) (.t 14) "Write" [(.t 15)],
(9:Nat) (.mov (.t 16)),
(17:Nat) (.tupx (.t 9) 0),
(18:Nat) (.tupx (.t 9) 1),
(19:Nat) (.nilck (.t 10)),
(20:Nat) (.fld 1 (.t 19)),
.op none none (.st 1 (.t 20) (.t 18))] []))
def F42 : VFn := { nt := 21, res := [], body := c42 }
theorem is42 : compFn Tryd.prog (kz c42) 42 = some F42 := by kernel_rfl
def c43l0 : VC := (.seq (.reg [(6:Nat) (.bin .lss (.t 5) (2:Int))] [0, 5, 6])
(.seq (.cond (.t 6) .skip
(.exit 0))
(.seq (.block 1 (.seq (.reg [(7:Nat) (.mov (.t 5)),
(2:Nat) (.mov (.t 7))] [0, 2, 5])
(.seq (.reg [(8:Nat) (.mov (.t 0)),
(9:Nat) (.mov (.t 2)),
(10:Nat) (.conv .u8 (.t 9)),
.call (some 11) 57 [(.t 8), (.t 10)]] [0, 2, 5])
(.reg [(12:Nat) (.mov (.t 0)),
(13:Nat) (.mov (.t 0)),
(14:Nat) (.mov (.t 2)),
(15:Nat) (.nilck (.t 13)),
(16:Nat) (.fld 20 (.t 15)),
(17:Nat) (.idxA 2 64 (.t 16) (.t 14)),
(18:Nat) (.slc 64 1 (.t 17) none none none),
.call (some 19) 42 [(.t 12), (.t 18)]] [0, 5]))))
(.reg [(20:Nat) (.bin .add (.t 5) (1:Int)),
(5:Nat) (.mov (.t 20))] [0, 5]))))
def c43 : VC := (.seq (.reg [(3:Nat) (.mov (.t 0)),
.call (some 4) 56 [(.t 3), (.c (.int .u8 219)), (132:Int)]] [0])
(.seq (.reg [(5:Nat) (.mov (0:Int))] [0, 5])
(.block 0 (.loop c43l0))))
def F43 : VFn := { nt := 21, res := [], body := c43 }
theorem is43 : compFn Tryd.prog (kz c43) 43 = some F43 := by kernel_rfl
def c44l0 : VC := (.seq (.seq (.reg [(70:Nat) (.mov (.t 7)),
(71:Nat) (.mov (.t 2)),
(72:Nat) (.bin .lss (.t 70) (.t 71))] [0, 2, 7, 72])
(.cond (.t 72) .skip
(.exit 0)))
(.seq (.block 1 (.seq (.reg [(75:Nat) (.mov (.t 0)),
(76:Nat) (.mov (.t 7)),
(77:Nat) (.bin .mul (3:Int) (.t 76)),
(78:Nat) (.bin .add (.t 77) (6:Int)),
(79:Nat) (.mov (.t 7)),
(80:Nat) (.bin .add (.t 79) (1:Int)),
(81:Nat) (.conv .u8 (.t 80)),
(82:Nat) (.nilck (.t 75)),
(83:Nat) (.fld 2 (.t 82)),
(84:Nat) (.idxA 16 1 (.t 83) (.t 78)),
.op none none (.st 1 (.t 84) (.t 81))] [0, 2, 7])
(.seq (.drt [(85:Nat) (.mov (.t 0)),
(86:Nat) (.mov (.t 7)),
(87:Nat) (.bin .mul (3:Int) (.t 86)),
(88:Nat) (.bin .add (.t 87) (7:Int)),
(89:Nat) (.mov (.t 7)),
(90:Nat) (.idxStr (.c (.str ⟨#[34, 17, 17]⟩)) (.t 89)),
(91:Nat) (.nilck (.t 85)),
(92:Nat) (.fld 2 (.t 91)),
(93:Nat) (.idxA 16 1 (.t 92) (.t 88))] [.op none none (.st 1 (.t 93) (.t 90))] [0, 2, 7])
(.drt [(94:Nat) (.mov (.t 0)),
(95:Nat) (.mov (.t 7)),
(96:Nat) (.bin .mul (3:Int) (.t 95)),
(97:Nat) (.bin .add (.t 96) (8:Int)),
(98:Nat) (.mov (.t 7)),
(99:Nat) (.idxStr (.c (.str ⟨#[0, 1, 1]⟩)) (.t 98)),
(100:Nat) (.nilck (.t 94)),
(101:Nat) (.fld 2 (.t 100)),
(102:Nat) (.idxA 16 1 (.t 101) (.t 97))] [.op none none (.st 1 (.t 102) (.t 99))] [0, 2, 7]))))
(.reg [(73:Nat) (.mov (.t 7)),
(74:Nat) (.bin .add (.t 73) (1:Int)),
(7:Nat) (.mov (.t 74))] [0, 2, 7])))
def c44 : VC := (.seq (.reg [(4:Nat) (.box 87 (.t 1))] [0, 2, 4])
(.seq (.reg [(8:Nat) (.mov (.t 2)),
(9:Nat) (.bin .mul (3:Int) (.t 8)),
(10:Nat) (.bin .add (8:Int) (.t 9)),
(6:Nat) (.mov (.t 10))] [0, 2, 4, 6])
(.seq (.reg [(11:Nat) (.mov (.t 0)),
(12:Nat) (.mov (.t 6)),
.call (some 13) 56 [(.t 11), (.c (.int .u8 192)), (.t 12)]] [0, 2, 4])
(.seq (.reg [(14:Nat) (.mov (.t 0)),
(15:Nat) (.nilck (.t 14)),
(16:Nat) (.fld 2 (.t 15)),
(17:Nat) (.idxA 16 1 (.t 16) (0:Int)),
.op none none (.st 1 (.t 17) (.c (.int .u8 8)))] [0, 2, 4])
(.seq (.drt [(18:Nat) (.mov (.t 0)),
(19:Nat) (.fld 1 (.t 4)),
(20:Nat) (.ld (.t 19)),
(21:Nat) (.bin .shr (.t 20) (.c (.int .u64 8))),
(22:Nat) (.conv .u8 (.t 21)),
(23:Nat) (.nilck (.t 18)),
(24:Nat) (.fld 2 (.t 23)),
(25:Nat) (.idxA 16 1 (.t 24) (1:Int))] [.op none none (.st 1 (.t 25) (.t 22))] [0, 2, 4])
(.seq (.drt [(26:Nat) (.mov (.t 0)),
(27:Nat) (.fld 1 (.t 4)),
(28:Nat) (.ld (.t 27)),
(29:Nat) (.bin .and (.t 28) (255:Int)),
(30:Nat) (.conv .u8 (.t 29)),
(31:Nat) (.nilck (.t 26)),
(32:Nat) (.fld 2 (.t 31)),
(33:Nat) (.idxA 16 1 (.t 32) (2:Int))] [.op none none (.st 1 (.t 33) (.t 30))] [0, 2, 4])
(.seq (.drt [(34:Nat) (.mov (.t 0)),
(35:Nat) (.fld 0 (.t 4)),
(36:Nat) (.ld (.t 35)),
(37:Nat) (.bin .shr (.t 36) (.c (.int .u64 8))),
(38:Nat) (.conv .u8 (.t 37)),
(39:Nat) (.nilck (.t 34)),
(40:Nat) (.fld 2 (.t 39)),
(41:Nat) (.idxA 16 1 (.t 40) (3:Int))] [.op none none (.st 1 (.t 41) (.t 38))] [0, 2, 4])
(.seq (.drt [(42:Nat) (.mov (.t 0)),
(43:Nat) (.fld 0 (.t 4)),
(44:Nat) (.ld (.t 43)),
(45:Nat) (.bin .and (.t 44) (255:Int)),
(46:Nat) (.conv .u8 (.t 45)),
(47:Nat) (.nilck (.t 42)),
(48:Nat) (.fld 2 (.t 47)),
(49:Nat) (.idxA 16 1 (.t 48) (4:Int))] [.op none none (.st 1 (.t 49) (.t 46))] [0, 2])
(.seq (.reg [(50:Nat) (.mov (.t 0)),
(51:Nat) (.mov (.t 2)),
(52:Nat) (.conv .u8 (.t 51)),
(53:Nat) (.nilck (.t 50)),
(54:Nat) (.fld 2 (.t 53)),
(55:Nat) (.idxA 16 1 (.t 54) (5:Int)),
.op none none (.st 1 (.t 55) (.t 52))] [0, 2])
(.seq (.seq (.reg [(56:Nat) (.mov (.t 2)),
(57:Nat) (.bin .eql (.t 56) (1:Int))] [0, 2, 57])
(.cond (.t 57) (.seq (.reg [(58:Nat) (.mov (.t 0)),
(59:Nat) (.nilck (.t 58)),
(60:Nat) (.fld 2 (.t 59)),
(61:Nat) (.idxA 16 1 (.t 60) (6:Int)),
.op none none (.st 1 (.t 61) (.c (.int .u8 1)))] [0, 2])
(.seq (.reg [(62:Nat) (.mov (.t 0)),
(63:Nat) (.nilck (.t 62)),
(64:Nat) (.fld 2 (.t 63)),
(65:Nat) (.idxA 16 1 (.t 64) (7:Int)),
.op none none (.st 1 (.t 65) (.c (.int .u8 17)))] [0, 2])
(.reg [(66:Nat) (.mov (.t 0)),
(67:Nat) (.nilck (.t 66)),
(68:Nat) (.fld 2 (.t 67)),
(69:Nat) (.idxA 16 1 (.t 68) (8:Int)),
.op none none (.st 1 (.t 69) (.c (.int .u8 0)))] [0, 2])))
(.seq (.reg [(7:Nat) (.mov (0:Int))] [0, 2, 7])
(.block 0 (.loop c44l0)))))
(.reg [(103:Nat) (.mov (.t 0)),
(104:Nat) (.mov (.t 0)),
(105:Nat) (.nilck (.t 104)),
(106:Nat) (.fld 2 (.t 105)),
(107:Nat) (.mov (.t 2)),
(108:Nat) (.bin .sub (.t 107) (1:Int)),
(109:Nat) (.bin .mul (3:Int) (.t 108)),
(110:Nat) (.bin .add (.t 109) (9:Int)),
(111:Nat) (.slc 16 1 (.t 106) none (some (.t 110)) none),
.call (some 112) 42 [(.t 103), (.t 111)]] [])))))))))))
def F44 : VFn := { nt := 113, res := [], body := c44 }
theorem is44 : compFn Tryd.prog (kz c44) 44 = some F44 := by kernel_rfl
def c45 : VC := (.seq (.reg [(1:Nat) (.box 89 (.t 0)),
(2:Nat) (.alloc (.own [(.int .i64 0), (.int .i64 0)] 87))] [1, 2])
(.seq (.reg [(3:Nat) (.fld 2 (.t 1)),
(4:Nat) (.fld 0 (.t 3)),
(5:Nat) (.ld (.t 4)),
(6:Nat) (.fld 0 (.t 1)),
(7:Nat) (.fld 0 (.t 6)),
(8:Nat) (.ld (.t 7)),
(9:Nat) (.bin .sub (.t 5) (.t 8)),
(10:Nat) (.fld 2 (.t 1)),
(11:Nat) (.fld 1 (.t 10)),
(12:Nat) (.ld (.t 11)),
(13:Nat) (.fld 0 (.t 1)),
(14:Nat) (.fld 1 (.t 13)),
(15:Nat) (.ld (.t 14)),
(16:Nat) (.bin .sub (.t 12) (.t 15)),
(17:Nat) (.build (.agg [(.int .i64 0), (.int .i64 0)]) [(0, 1, (.t 9)), (1, 1, (.t 16))]),
.op none none (.st 2 (.t 2) (.t 17))] [2])
.ret))
def F45 : VFn := { nt := 18, res := [.cells 2 2], body := c45 }
theorem is45 : compFn Tryd.prog (kz c45) 45 = some F45 := by kernel_rfl
def c46l0 : VC := (.seq (.reg [(20:Nat) (.bin .lss (.t 19) (.t 18))] [0, 4, 6, 17, 18, 19, 20])
(.seq (.cond (.t 20) .skip
(.exit 0))
(.seq (.block 1 (.seq (.reg [(21:Nat) (.idxS 17 (.t 17) (.t 19)),
(22:Nat) (.ldA 17 (.t 21)),
(8:Nat) (.alloc (.own [(.int .u8 0), (.int .u8 0), (.int .u8 0), (.int .u8 0), (.int .u8 0), (.int .u8 0), (.int .u8 0), (.int .u8 0), (.int .u8 0), (.int .u8 0), (.int .u8 0), (.int .u8 0), (.int .u8 0), (.int .u8 0), (.int .u8 0), (.int .u8 0), .nils] 135)),
.op none none (.st 17 (.t 8) (.t 22))] [0, 4, 6, 8, 17, 18, 19])
(.reg [(23:Nat) (.mov (.t 4)),
(24:Nat) (.fld 16 (.t 8)),
(25:Nat) (.ld (.t 24)),
(26:Nat) (.len (.t 25)),
(27:Nat) (.bin .add (17:Int) (.t 26)),
(28:Nat) (.bin .add (.t 23) (.t 27)),
(4:Nat) (.mov (.t 28))] [0, 4, 6, 17, 18, 19])))
(.reg [(29:Nat) (.bin .add (.t 19) (1:Int)),
(19:Nat) (.mov (.t 29))] [0, 4, 6, 17, 18, 19]))))
def c46l1 : VC := (.seq (.reg [(36:Nat) (.bin .lss (.t 35) (.t 34))] [0, 33, 34, 35, 36])
(.seq (.cond (.t 36) .skip
(.exit 2))
(.seq (.block 3 (.seq (.reg [(37:Nat) (.mov (.t 35)),
(38:Nat) (.idxS 17 (.t 33) (.t 35)),
(39:Nat) (.ldA 17 (.t 38)),
(10:Nat) (.alloc (.own [(.int .u8 0), (.int .u8 0), (.int .u8 0), (.int .u8 0), (.int .u8 0), (.int .u8 0), (.int .u8 0), (.int .u8 0), (.int .u8 0), (.int .u8 0), (.int .u8 0), (.int .u8 0), (.int .u8 0), (.int .u8 0), (.int .u8 0), (.int .u8 0), .nils] 135)),
(9:Nat) (.mov (.t 37)),
.op none none (.st 17 (.t 10) (.t 39))] [0, 9, 10, 33, 34, 35])
(.seq (.reg [(40:Nat) (.mov (.t 0)),
(41:Nat) (.mov (.t 9)),
(42:Nat) (.idxStr (.c (.str ⟨#[0, 16, 1, 17]⟩)) (.t 41)),
.call (some 43) 57 [(.t 40), (.t 42)]] [0, 10, 33, 34, 35])
(.seq (.reg [(44:Nat) (.mov (.t 0)),
(45:Nat) (.fld 0 (.t 10)),
(46:Nat) (.slc 16 1 (.t 45) none none none),
.call (some 47) 42 [(.t 44), (.t 46)]] [0, 10, 33, 34, 35])
(.reg [(48:Nat) (.mov (.t 0)),
(49:Nat) (.fld 16 (.t 10)),
(50:Nat) (.ld (.t 49)),
.call (some 51) 42 [(.t 48), (.t 50)]] [0, 33, 34, 35])))))
(.reg [(52:Nat) (.bin .add (.t 35) (1:Int)),
(35:Nat) (.mov (.t 52))] [0, 33, 34, 35]))))
def c46 : VC := (.seq (.reg [(4:Nat) (.mov (2:Int))] [0, 1, 4])
(.seq (.reg [.call (some 11) 54 [],
(5:Nat) (.alloc (.own [(.int .u8 0), (.int .u8 0), (.int .u8 0), (.int .u8 0), (.int .u8 0), (.int .u8 0), (.int .u8 0), (.int .u8 0), (.int .u8 0), (.int .u8 0), (.int .u8 0), (.int .u8 0), (.int .u8 0), (.int .u8 0), (.int .u8 0), (.int .u8 0), .nils, (.int .u8 0), (.int .u8 0), (.int .u8 0), (.int .u8 0), (.int .u8 0), (.int .u8 0), (.int .u8 0), (.int .u8 0), (.int .u8 0), (.int .u8 0), (.int .u8 0), (.int .u8 0), (.int .u8 0), (.int .u8 0), (.int .u8 0), (.int .u8 0), .nils, (.int .u8 0), (.int .u8 0), (.int .u8 0), (.int .u8 0), (.int .u8 0), (.int .u8 0), (.int .u8 0), (.int .u8 0), (.int .u8 0), (.int .u8 0), (.int .u8 0), (.int .u8 0), (.int .u8 0), (.int .u8 0), (.int .u8 0), (.int .u8 0), .nils, (.int .u8 0), (.int .u8 0), (.int .u8 0), (.int .u8 0), (.int .u8 0), (.int .u8 0), (.int .u8 0), (.int .u8 0), (.int .u8 0), (.int .u8 0), (.int .u8 0), (.int .u8 0), (.int .u8 0), (.int .u8 0), (.int .u8 0), (.int .u8 0), .nils] 136)),
.op none none (.st 68 (.t 5) (.t 11))] [0, 1, 4, 5])
(.seq (.reg [(12:Nat) (.slc 4 17 (.t 5) none none none),
(6:Nat) (.mov (.t 12))] [0, 1, 4, 6])
(.seq (.seq (.reg [(13:Nat) (.mov (.t 1)),
(14:Nat) (.bin .eql (.t 13) (1:Int))] [0, 4, 6, 14])
(.cond (.t 14) (.reg [(15:Nat) (.mov (.t 6)),
(16:Nat) (.slcS 17 (.t 15) none (some (2:Int)) none),
(6:Nat) (.mov (.t 16))] [0, 4, 6])
.skip))
(.seq (.seq (.reg [(17:Nat) (.mov (.t 6)),
(18:Nat) (.len (.t 17)),
(19:Nat) (.mov (0:Int))] [0, 4, 6, 17, 18, 19])
(.block 0 (.loop c46l0)))
(.seq (.reg [(30:Nat) (.mov (.t 0)),
(31:Nat) (.mov (.t 4)),
.call (some 32) 56 [(.t 30), (.c (.int .u8 196)), (.t 31)]] [0, 6])
(.seq (.reg [(33:Nat) (.mov (.t 6)),
(34:Nat) (.len (.t 33)),
(35:Nat) (.mov (0:Int))] [0, 33, 34, 35])
(.block 2 (.loop c46l1)))))))))
def F46 : VFn := { nt := 53, res := [], body := c46 }
theorem is46 : compFn Tryd.prog (kz c46) 46 = some F46 := by kernel_rfl
def h47 : List (Nat × List Nat) := [(0, [0, 1, 26]), (1, [0, 1]), (2, [0, 1, 31]), (3, [0, 1]), (4, [0, 1, 4]), (5, [0, 1, 4, 5, 6]), (6, [0, 1, 4, 5, 6, 7, 8, 9]), (7, [0, 1, 4, 5, 6, 7, 8, 9, 10]), (8, [0, 4, 5, 6, 7, 8, 9, 10, 38]), (9, [0, 4, 5, 6, 7, 8, 9, 10, 15]), (10, [0, 4, 5, 6, 7, 8, 9, 10, 15, 16]), (11, [0, 4, 5, 6, 7, 8, 9, 10, 16, 18]), (12, [0, 4, 5, 6, 7, 8, 9, 10, 16, 18, 20]), (13, [0, 4, 5, 6, 7, 8, 9, 10, 16, 18, 20, 56]), (14, [0, 4, 5, 6, 7, 8, 9, 10, 16, 18, 20]), (15, [0, 4, 5, 6, 7, 8, 9, 10, 16, 18, 20, 21]), (16, [0, 4, 5, 6, 7, 8, 9, 10, 16, 18, 20, 21, 66]), (17, [0, 4, 5, 6, 7, 8, 9, 10, 16, 18, 20, 21]), (18, [0, 4, 5, 6, 7, 8, 9, 10, 16, 18, 20, 21, 22]), (19, [0, 4, 5, 6, 7, 8, 9, 10, 16, 18, 20, 21, 22, 70]), (20, [0, 4, 5, 6, 7, 8, 9, 10, 16, 18, 20, 21, 22]), (21, [0, 4, 5, 6, 7, 8, 9, 10, 16, 18, 20, 21, 22, 23]), (22, [0, 4, 5, 6, 7, 8, 9, 10, 16, 18, 20, 21, 22, 23, 24]), (23, [0, 4, 5, 6, 7, 8, 9, 10, 16, 18, 20, 21, 22, 25]), (24, [0, 4, 5, 6, 7, 8, 9, 10, 16, 18, 20, 21, 22, 25, 87]), (25, [0, 4, 5, 6, 7, 8, 9, 10, 16, 18, 20, 21, 22]), (26, [0, 4, 5, 6, 7, 8, 9, 10, 16, 18, 20, 21, 22, 25, 96]), (27, [0, 4, 5, 6, 7, 8, 9, 10, 16, 18, 20, 21, 22]), (28, [0, 4, 5, 6, 7, 8, 9, 10, 16, 18, 20, 21, 22]), (29, [0, 4, 5, 6, 7, 8, 9, 10, 16, 18, 20, 21]), (30, [0, 4, 5, 6, 7, 8, 9, 10, 16, 18, 20, 21]), (31, [0, 4, 5, 6, 7, 8, 9, 10, 16, 18, 20, 21]), (32, [0, 4, 5, 6, 7, 8, 9, 10, 16, 18, 20, 21]), (33, [0, 4, 5, 6, 7, 8, 9, 10, 38, 116, 117]), (34, [0, 4, 7, 10, 11]), (35, [0, 4, 7, 10, 11, 12]), (36, [0, 4, 7, 10, 11, 12, 125]), (37, [0, 4, 7, 10, 11, 12]), (38, [0, 4, 7, 10, 11, 12, 13]), (39, [0, 4, 7, 10, 11, 12, 13, 135]), (40, [0, 4, 7, 10, 11, 12, 13]), (41, [0, 4, 7, 10, 11, 12, 13, 14]), (42, [0, 4, 7, 10, 11, 12, 13]), (43, [0, 4, 7, 10, 11, 12, 13]), (44, [])]
def c47l0 : VC := (.seq (.seq (.reg [(131:Nat) (.mov (.t 13)),
(132:Nat) (.fld 2 (.t 10)),
(133:Nat) (.fld 0 (.t 132)),
(134:Nat) (.ld (.t 133)),
(135:Nat) (.bin .lss (.t 131) (.t 134))] [0, 4, 7, 10, 11, 12, 13, 135])
(.cond (.t 135) .skip
(.exit 10)))
(.seq (.block 11 (.seq (.reg [(138:Nat) (.mov (.t 13)),
(139:Nat) (.mov (.t 12)),
.call (some 140) 60 [(.t 138), (.t 139)],
(14:Nat) (.alloc (.own [(.int .i64 0), (.int .i64 0)] 87)),
.op none none (.st 2 (.t 14) (.t 140))] [0, 4, 7, 10, 11, 12, 13, 14])
(.seq (.reg [(141:Nat) (.mov (.t 11)),
(142:Nat) (.ldA 2 (.t 14)),
.call (some 143) 61 [(.t 141), (.t 142), (.t 4)]] [0, 4, 7, 10, 11, 12, 13])
(.reg [(144:Nat) (.mov (.t 0)),
(145:Nat) (.mov (.t 7)),
.call (some 146) 62 [(.t 144), (.t 4), (0:Int), (.t 145)],
(7:Nat) (.mov (.t 146))] [0, 4, 7, 10, 11, 12, 13]))))
(.reg [(136:Nat) (.mov (.t 13)),
(137:Nat) (.bin .add (.t 136) (8:Int)),
(13:Nat) (.mov (.t 137))] [0, 4, 7, 10, 11, 12, 13])))
def c47l1 : VC := (.seq (.seq (.reg [(121:Nat) (.mov (.t 12)),
(122:Nat) (.fld 2 (.t 10)),
(123:Nat) (.fld 1 (.t 122)),
(124:Nat) (.ld (.t 123)),
(125:Nat) (.bin .lss (.t 121) (.t 124))] [0, 4, 7, 10, 11, 12, 125])
(.cond (.t 125) .skip
(.exit 8)))
(.seq (.block 9 (.seq (.reg [(128:Nat) (.fld 0 (.t 10)),
(129:Nat) (.fld 0 (.t 128)),
(130:Nat) (.ld (.t 129)),
(13:Nat) (.mov (.t 130))] [0, 4, 7, 10, 11, 12, 13])
(.block 10 (.loop c47l0))))
(.reg [(126:Nat) (.mov (.t 12)),
(127:Nat) (.bin .add (.t 126) (8:Int)),
(12:Nat) (.mov (.t 127))] [0, 4, 7, 10, 11, 12])))
def c47l2 : VC := (.seq (.seq (.reg [(69:Nat) (.mov (.t 22)),
(70:Nat) (.bin .lss (.t 69) (4:Int))] [0, 4, 5, 6, 7, 8, 9, 10, 16, 18, 20, 21, 22, 70])
(.cond (.t 70) .skip
(.exit 6)))
(.seq (.block 7 (.seq (.reg [(73:Nat) (.mov (.t 22)),
(74:Nat) (.bin .and (.t 73) (1:Int)),
(75:Nat) (.bin .mul (.t 74) (8:Int)),
(23:Nat) (.mov (.t 75))] [0, 4, 5, 6, 7, 8, 9, 10, 16, 18, 20, 21, 22, 23])
(.seq (.reg [(76:Nat) (.mov (.t 22)),
(77:Nat) (.bin .and (.t 76) (2:Int)),
(78:Nat) (.bin .mul (.t 77) (4:Int)),
(24:Nat) (.mov (.t 78))] [0, 4, 5, 6, 7, 8, 9, 10, 16, 18, 20, 21, 22, 23, 24])
(.seq (.reg [(79:Nat) (.mov (.t 21)),
(80:Nat) (.mov (.t 23)),
(81:Nat) (.bin .add (.t 79) (.t 80)),
(82:Nat) (.mov (.t 20)),
(83:Nat) (.mov (.t 24)),
(84:Nat) (.bin .add (.t 82) (.t 83)),
.call (some 85) 60 [(.t 81), (.t 84)],
(25:Nat) (.alloc (.own [(.int .i64 0), (.int .i64 0)] 87)),
.op none none (.st 2 (.t 25) (.t 85))] [0, 4, 5, 6, 7, 8, 9, 10, 16, 18, 20, 21, 22, 25])
(.seq (.seq (.reg [(86:Nat) (.mov (.t 16)),
(87:Nat) (.isnil true true (.t 86))] [0, 4, 5, 6, 7, 8, 9, 10, 16, 18, 20, 21, 22, 25, 87])
(.cond (.t 87) (.drt [(88:Nat) (.mov (.t 16)),
(89:Nat) (.ldA 2 (.t 25)),
(90:Nat) (.mov (.t 22)),
(91:Nat) (.idxA 4 64 (.t 5) (.t 90)),
(92:Nat) (.mov (.t 22)),
(93:Nat) (.idxA 4 64 (.t 6) (.t 92))] [.call (some 94) 63 [(.t 88), (.t 89), (.t 4), (.t 91), (.t 93)]] [0, 4, 5, 6, 7, 8, 9, 10, 16, 18, 20, 21, 22])
(.seq (.reg [(95:Nat) (.mov (.t 18)),
(96:Nat) (.isnil true true (.t 95))] [0, 4, 5, 6, 7, 8, 9, 10, 16, 18, 20, 21, 22, 25, 96])
(.cond (.t 96) (.drt [(97:Nat) (.mov (.t 18)),
(98:Nat) (.ldA 2 (.t 25)),
(99:Nat) (.mov (.t 22)),
(100:Nat) (.idxA 4 64 (.t 5) (.t 99)),
(101:Nat) (.mov (.t 22)),
(102:Nat) (.idxA 4 64 (.t 6) (.t 101))] [.call (some 103) 64 [(.t 97), (.t 98), (.t 4), (.t 100), (.t 102)]] [0, 4, 5, 6, 7, 8, 9, 10, 16, 18, 20, 21, 22])
.skip))))
(.reg [(104:Nat) (.mov (.t 0)),
(105:Nat) (.mov (.t 7)),
.call (some 106) 62 [(.t 104), (.t 4), (0:Int), (.t 105)],
(7:Nat) (.mov (.t 106))] [0, 4, 5, 6, 7, 8, 9, 10, 16, 18, 20, 21, 22]))))))
(.reg [(71:Nat) (.mov (.t 22)),
(72:Nat) (.bin .add (.t 71) (1:Int)),
(22:Nat) (.mov (.t 72))] [0, 4, 5, 6, 7, 8, 9, 10, 16, 18, 20, 21, 22])))
def c47l3 : VC := (.seq (.seq (.reg [(62:Nat) (.mov (.t 21)),
(63:Nat) (.fld 2 (.t 10)),
(64:Nat) (.fld 0 (.t 63)),
(65:Nat) (.ld (.t 64)),
(66:Nat) (.bin .lss (.t 62) (.t 65))] [0, 4, 5, 6, 7, 8, 9, 10, 16, 18, 20, 21, 66])
(.cond (.t 66) .skip
(.exit 4)))
(.seq (.block 5 (.seq (.seq (.reg [(22:Nat) (.mov (0:Int))] [0, 4, 5, 6, 7, 8, 9, 10, 16, 18, 20, 21, 22])
(.block 6 (.loop c47l2)))
(.seq (.reg [.call (some 107) 65 [(.t 4), (.t 5)]] [0, 4, 5, 6, 7, 8, 9, 10, 16, 18, 20, 21])
(.seq (.reg [(108:Nat) (.mov (.t 0)),
(109:Nat) (.mov (.t 8)),
.call (some 110) 62 [(.t 108), (.t 4), (1:Int), (.t 109)],
(8:Nat) (.mov (.t 110))] [0, 4, 5, 6, 7, 8, 9, 10, 16, 18, 20, 21])
(.seq (.reg [.call (some 111) 65 [(.t 4), (.t 6)]] [0, 4, 5, 6, 7, 8, 9, 10, 16, 18, 20, 21])
(.reg [(112:Nat) (.mov (.t 0)),
(113:Nat) (.mov (.t 9)),
.call (some 114) 62 [(.t 112), (.t 4), (1:Int), (.t 113)],
(9:Nat) (.mov (.t 114))] [0, 4, 5, 6, 7, 8, 9, 10, 16, 18, 20, 21]))))))
(.reg [(67:Nat) (.mov (.t 21)),
(68:Nat) (.bin .add (.t 67) (16:Int)),
(21:Nat) (.mov (.t 68))] [0, 4, 5, 6, 7, 8, 9, 10, 16, 18, 20, 21])))
def c47l4 : VC := (.seq (.seq (.reg [(52:Nat) (.mov (.t 20)),
(53:Nat) (.fld 2 (.t 10)),
(54:Nat) (.fld 1 (.t 53)),
(55:Nat) (.ld (.t 54)),
(56:Nat) (.bin .lss (.t 52) (.t 55))] [0, 4, 5, 6, 7, 8, 9, 10, 16, 18, 20, 56])
(.cond (.t 56) .skip
(.exit 2)))
(.seq (.block 3 (.seq (.reg [(59:Nat) (.fld 0 (.t 10)),
(60:Nat) (.fld 0 (.t 59)),
(61:Nat) (.ld (.t 60)),
(21:Nat) (.mov (.t 61))] [0, 4, 5, 6, 7, 8, 9, 10, 16, 18, 20, 21])
(.block 4 (.loop c47l3))))
(.reg [(57:Nat) (.mov (.t 20)),
(58:Nat) (.bin .add (.t 57) (16:Int)),
(20:Nat) (.mov (.t 58))] [0, 4, 5, 6, 7, 8, 9, 10, 16, 18, 20])))
def c47 : VC := (.seq (.seq (.reg [(26:Nat) (.mov (.t 1))] [0, 1, 26])
(.block 0 (.seq (.reg [(30:Nat) (.tas 91 .nilp (.t 26)),
(31:Nat) (.tupx (.t 30) 1),
(32:Nat) (.tupx (.t 30) 0)] [0, 1, 31])
(.cond (.t 31) (.reg [(33:Nat) (.mov (.t 0)),
.call (some 34) 58 [],
.call (some 35) 42 [(.t 33), (.t 34)]] [0, 1])
(.reg [(27:Nat) (.mov (.t 0)),
.call (some 28) 59 [],
.call (some 29) 42 [(.t 27), (.t 28)]] [0, 1])))))
(.seq (.reg [(4:Nat) (.alloc (.ints .i32 (List.replicate 64 0) 146))] [0, 1, 4])
(.seq (.reg [(5:Nat) (.alloc (.ints .i32 (List.replicate 256 0) 147)),
(6:Nat) (.alloc (.ints .i32 (List.replicate 256 0) 147))] [0, 1, 4, 5, 6])
(.seq (.reg [(7:Nat) (.mov (.c (.int .i32 0))),
(8:Nat) (.mov (.c (.int .i32 0))),
(9:Nat) (.mov (.c (.int .i32 0)))] [0, 1, 4, 5, 6, 7, 8, 9])
(.seq (.reg [(36:Nat) (.mov (.t 1)),
.inv (some 37) (.t 36) "Bounds" [],
(10:Nat) (.alloc (.own [(.int .i64 0), (.int .i64 0), (.int .i64 0), (.int .i64 0)] 89)),
.op none none (.st 4 (.t 10) (.t 37))] [0, 1, 4, 5, 6, 7, 8, 9, 10])
(.seq (.seq (.reg [(38:Nat) (.mov (.t 1))] [0, 4, 5, 6, 7, 8, 9, 10, 38])
(.block 1 (.seq (.reg [(115:Nat) (.tas 91 .nilp (.t 38)),
(116:Nat) (.tupx (.t 115) 1),
(117:Nat) (.tupx (.t 115) 0)] [0, 4, 5, 6, 7, 8, 9, 10, 38, 116, 117])
(.cond (.t 116) (.seq (.reg [(11:Nat) (.mov (.t 117))] [0, 4, 7, 10, 11])
(.seq (.reg [(118:Nat) (.fld 0 (.t 10)),
(119:Nat) (.fld 1 (.t 118)),
(120:Nat) (.ld (.t 119)),
(12:Nat) (.mov (.t 120))] [0, 4, 7, 10, 11, 12])
(.block 8 (.loop c47l1))))
(.seq (.reg [(15:Nat) (.mov (.t 38))] [0, 4, 5, 6, 7, 8, 9, 10, 15])
(.seq (.reg [(40:Nat) (.mov (.t 15)),
(41:Nat) (.tas 95 .nilp (.t 40)),
(39:Nat) (.mov (.t 41)),
(42:Nat) (.tupx (.t 39) 0),
(43:Nat) (.tupx (.t 39) 1),
(16:Nat) (.mov (.t 42)),
(17:Nat) (.mov (.t 43))] [0, 4, 5, 6, 7, 8, 9, 10, 15, 16])
(.seq (.reg [(45:Nat) (.mov (.t 15)),
(46:Nat) (.tas 99 .nilp (.t 45)),
(44:Nat) (.mov (.t 46)),
(47:Nat) (.tupx (.t 44) 0),
(48:Nat) (.tupx (.t 44) 1),
(18:Nat) (.mov (.t 47)),
(19:Nat) (.mov (.t 48))] [0, 4, 5, 6, 7, 8, 9, 10, 16, 18])
(.seq (.reg [(49:Nat) (.fld 0 (.t 10)),
(50:Nat) (.fld 1 (.t 49)),
(51:Nat) (.ld (.t 50)),
(20:Nat) (.mov (.t 51))] [0, 4, 5, 6, 7, 8, 9, 10, 16, 18, 20])
(.block 2 (.loop c47l4))))))))))
(.reg [(147:Nat) (.mov (.t 0)),
.call (some 148) 66 [(.t 147), (.c (.int .u32 127)), (.c (.int .u32 7))]] [])))))))
def F47 : VFn := { nt := 149, res := [], body := c47 }
theorem is47 : compFn Tryd.prog h47 47 = some F47 := by kernel_rfl
def c48 : VC := (.seq (.seq (.reg [(2:Nat) (.mov (.t 0)),
(3:Nat) (.nilck (.t 2)),
(4:Nat) (.fld 1 (.t 3)),
(5:Nat) (.ld (.t 4)),
(6:Nat) (.isnil false true (.t 5))] [0, 6])
(.cond (.t 6) .ret
.skip))
(.reg [(7:Nat) (.mov (.t 0)),
(8:Nat) (.mov (.t 0)),
(9:Nat) (.nilck (.t 8)),
(10:Nat) (.fld 0 (.t 9)),
(11:Nat) (.ld (.t 10)),
.inv (some 12) (.t 11) "Flush" [],
(13:Nat) (.nilck (.t 7)),
(14:Nat) (.fld 1 (.t 13)),
.op none none (.st 1 (.t 14) (.t 12))] []))
def F48 : VFn := { nt := 15, res := [], body := c48 }
theorem is48 : compFn Tryd.prog (kz c48) 48 = some F48 := by kernel_rfl
def c56 : VC := (.seq (.reg [(6:Nat) (.mov (.t 0)),
(7:Nat) (.nilck (.t 6)),
(8:Nat) (.fld 2 (.t 7)),
(9:Nat) (.idxA 16 1 (.t 8) (0:Int)),
.op none none (.st 1 (.t 9) (.c (.int .u8 255)))] [0, 1, 2])
(.seq (.reg [(10:Nat) (.mov (.t 0)),
(11:Nat) (.mov (.t 1)),
(12:Nat) (.nilck (.t 10)),
(13:Nat) (.fld 2 (.t 12)),
(14:Nat) (.idxA 16 1 (.t 13) (1:Int)),
.op none none (.st 1 (.t 14) (.t 11))] [0, 2])
(.seq (.reg [(15:Nat) (.mov (.t 0)),
(16:Nat) (.mov (.t 2)),
(17:Nat) (.bin .shr (.t 16) (.c (.int .u64 8))),
(18:Nat) (.conv .u8 (.t 17)),
(19:Nat) (.nilck (.t 15)),
(20:Nat) (.fld 2 (.t 19)),
(21:Nat) (.idxA 16 1 (.t 20) (2:Int)),
.op none none (.st 1 (.t 21) (.t 18))] [0, 2])
(.seq (.reg [(22:Nat) (.mov (.t 0)),
(23:Nat) (.mov (.t 2)),
(24:Nat) (.bin .and (.t 23) (255:Int)),
(25:Nat) (.conv .u8 (.t 24)),
(26:Nat) (.nilck (.t 22)),
(27:Nat) (.fld 2 (.t 26)),
(28:Nat) (.idxA 16 1 (.t 27) (3:Int)),
.op none none (.st 1 (.t 28) (.t 25))] [0])
(.reg [(29:Nat) (.mov (.t 0)),
(30:Nat) (.mov (.t 0)),
(31:Nat) (.nilck (.t 30)),
(32:Nat) (.fld 2 (.t 31)),
(33:Nat) (.slc 16 1 (.t 32) none (some (4:Int)) none),
.call (some 34) 42 [(.t 29), (.t 33)]] [])))))
def F56 : VFn := { nt := 35, res := [], body := c56 }
theorem is56 : compFn Tryd.prog (kz c56) 56 = some F56 := by kernel_rfl
def c57 : VC := (.seq (.seq (.reg [(4:Nat) (.mov (.t 0)),
(5:Nat) (.nilck (.t 4)),
(6:Nat) (.fld 1 (.t 5)),
(7:Nat) (.ld (.t 6)),
(8:Nat) (.isnil false true (.t 7))] [0, 1, 8])
(.cond (.t 8) .ret
.skip))
(.reg [(9:Nat) (.mov (.t 0)),
(10:Nat) (.mov (.t 0)),
(11:Nat) (.nilck (.t 10)),
(12:Nat) (.fld 0 (.t 11)),
(13:Nat) (.ld (.t 12)),
(14:Nat) (.mov (.t 1)),
.inv (some 15) (.t 13) "WriteByte" [(.t 14)],
(16:Nat) (.nilck (.t 9)),
(17:Nat) (.fld 1 (.t 16)),
.op none none (.st 1 (.t 17) (.t 15))] []))
def F57 : VFn := { nt := 18, res := [], body := c57 }
theorem is57 : compFn Tryd.prog (kz c57) 57 = some F57 := by kernel_rfl
def h61 : List (Nat × List Nat) := [(0, [0, 2, 4]), (1, [0, 2, 4, 6]), (2, [0, 2, 4, 6, 7]), (3, [0, 2, 4, 7, 8]), (4, [0, 2, 4, 7, 8, 9]), (5, [0, 2, 4, 7, 8, 9, 10]), (6, [0, 2, 4, 7, 8, 9, 10, 28]), (7, [0, 2, 4, 7, 8, 9, 10]), (8, [0, 2, 4, 7, 8, 9, 10, 11]), (9, [0, 2, 4, 7, 8, 9, 10, 11, 32]), (10, [0, 2, 4, 7, 8, 9, 10, 11]), (11, [0, 2, 4, 7, 8, 9, 10, 11, 12]), (12, [0, 2, 4, 7, 8, 9, 10, 11])]
def c61l0 : VC := (.seq (.seq (.reg [(31:Nat) (.mov (.t 11)),
(32:Nat) (.bin .lss (.t 31) (8:Int))] [0, 2, 4, 7, 8, 9, 10, 11, 32])
(.cond (.t 32) .skip
(.exit 2)))
(.seq (.block 3 (.seq (.reg [(35:Nat) (.mov (.t 0)),
(36:Nat) (.fld 0 (.t 4)),
(37:Nat) (.ld (.t 36)),
(38:Nat) (.mov (.t 11)),
(39:Nat) (.bin .add (.t 37) (.t 38)),
(40:Nat) (.mov (.t 7)),
(41:Nat) (.mm true (.t 39) (.t 40)),
(42:Nat) (.fld 1 (.t 4)),
(43:Nat) (.ld (.t 42)),
(44:Nat) (.mov (.t 10)),
(45:Nat) (.bin .add (.t 43) (.t 44)),
(46:Nat) (.mov (.t 8)),
(47:Nat) (.mm true (.t 45) (.t 46)),
.call (some 48) 68 [(.t 35), (.t 41), (.t 47)],
(12:Nat) (.mov (.t 48))] [0, 2, 4, 7, 8, 9, 10, 11, 12])
(.drt [(49:Nat) (.mov (.t 2)),
(50:Nat) (.mov (.t 10)),
(51:Nat) (.bin .mul (8:Int) (.t 50)),
(52:Nat) (.mov (.t 11)),
(53:Nat) (.bin .add (.t 51) (.t 52)),
(54:Nat) (.mov (.t 9)),
(55:Nat) (.mov (.t 12)),
(56:Nat) (.idxS 1 (.t 54) (.t 55)),
(57:Nat) (.ld (.t 56)),
(58:Nat) (.conv .i32 (.t 57)),
(59:Nat) (.nilck (.t 49)),
(60:Nat) (.idxA 64 1 (.t 59) (.t 53))] [.op none none (.st 1 (.t 60) (.t 58))] [0, 2, 4, 7, 8, 9, 10, 11])))
(.reg [(33:Nat) (.mov (.t 11)),
(34:Nat) (.bin .add (.t 33) (1:Int)),
(11:Nat) (.mov (.t 34))] [0, 2, 4, 7, 8, 9, 10, 11])))
def c61l1 : VC := (.seq (.seq (.reg [(27:Nat) (.mov (.t 10)),
(28:Nat) (.bin .lss (.t 27) (8:Int))] [0, 2, 4, 7, 8, 9, 10, 28])
(.cond (.t 28) .skip
(.exit 0)))
(.seq (.block 1 (.seq (.reg [(11:Nat) (.mov (0:Int))] [0, 2, 4, 7, 8, 9, 10, 11])
(.block 2 (.loop c61l0))))
(.reg [(29:Nat) (.mov (.t 10)),
(30:Nat) (.bin .add (.t 29) (1:Int)),
(10:Nat) (.mov (.t 30))] [0, 2, 4, 7, 8, 9, 10])))
def c61 : VC := (.seq (.reg [(4:Nat) (.box 87 (.t 1))] [0, 2, 4])
(.seq (.reg [(13:Nat) (.mov (.t 0)),
.call (some 14) 67 [(.t 13)],
(6:Nat) (.alloc (.own [(.int .i64 0), (.int .i64 0), (.int .i64 0), (.int .i64 0)] 89)),
.op none none (.st 4 (.t 6) (.t 14))] [0, 2, 4, 6])
(.seq (.reg [(15:Nat) (.fld 2 (.t 6)),
(16:Nat) (.fld 0 (.t 15)),
(17:Nat) (.ld (.t 16)),
(18:Nat) (.bin .sub (.t 17) (1:Int)),
(7:Nat) (.mov (.t 18))] [0, 2, 4, 6, 7])
(.seq (.reg [(19:Nat) (.fld 2 (.t 6)),
(20:Nat) (.fld 1 (.t 19)),
(21:Nat) (.ld (.t 20)),
(22:Nat) (.bin .sub (.t 21) (1:Int)),
(8:Nat) (.mov (.t 22))] [0, 2, 4, 7, 8])
(.seq (.reg [(23:Nat) (.mov (.t 0)),
(24:Nat) (.nilck (.t 23)),
(25:Nat) (.fld 0 (.t 24)),
(26:Nat) (.ld (.t 25)),
(9:Nat) (.mov (.t 26))] [0, 2, 4, 7, 8, 9])
(.seq (.reg [(10:Nat) (.mov (0:Int))] [0, 2, 4, 7, 8, 9, 10])
(.block 0 (.loop c61l1))))))))
def F61 : VFn := { nt := 61, res := [], body := c61 }
theorem is61 : compFn Tryd.prog h61 61 = some F61 := by kernel_rfl
def h62 : List (Nat × List Nat) := [(0, [0, 1, 2, 3]), (1, [0, 1, 2, 3]), (2, [0, 1, 2, 3, 9]), (3, [0, 1, 2, 9]), (4, [0, 1, 2, 9, 10, 11]), (5, [0, 1, 2, 9, 10, 11, 12]), (6, [0, 1, 2, 9, 10, 11, 12, 42]), (7, [0, 1, 2, 9, 10, 11, 12]), (8, [0, 1, 2, 9, 10, 11, 12, 13]), (9, [0, 1, 2, 9, 10, 11, 12, 13, 64]), (10, [0, 1, 2, 9, 10, 11, 12]), (11, [0, 1, 2, 9, 10, 11, 12, 13, 68]), (12, [0, 1, 2, 9, 10, 11, 12, 13]), (13, [0, 1, 2, 9, 10, 11, 12, 13]), (14, [0, 1, 2, 9, 10, 12]), (15, [0, 1, 2, 9, 10, 11, 12]), (16, [0, 9, 10, 80]), (17, [9]), (18, [8])]
def c62l0 : VC := (.seq (.seq (.reg [(67:Nat) (.mov (.t 11)),
(68:Nat) (.bin .gtr (.t 67) (.c (.int .i32 15)))] [0, 1, 2, 9, 10, 11, 12, 13, 68])
(.cond (.t 68) .skip
(.exit 2)))
(.block 3 (.seq (.reg [(69:Nat) (.mov (.t 0)),
(70:Nat) (.mov (.t 10)),
.call (some 71) 72 [(.t 69), (.t 70), (.c (.int .i32 240))]] [0, 1, 2, 9, 10, 11, 12, 13])
(.reg [(72:Nat) (.mov (.t 11)),
(73:Nat) (.bin .sub (.t 72) (.c (.int .i32 16))),
(11:Nat) (.mov (.t 73))] [0, 1, 2, 9, 10, 11, 12, 13]))))
def c62l1 : VC := (.seq (.seq (.reg [(41:Nat) (.mov (.t 12)),
(42:Nat) (.bin .lss (.t 41) (64:Int))] [0, 1, 2, 9, 10, 11, 12, 42])
(.cond (.t 42) .skip
(.exit 0)))
(.seq (.block 1 (.seq (.drt [(45:Nat) (.mov (.t 1)),
(46:Nat) (.mov (.t 12)),
(47:Nat) (.idxA 64 1 (.c (.raw (.pointer (some ⟨1, 0, none⟩)))) (.t 46)),
(48:Nat) (.ld (.t 47)),
(49:Nat) (.nilck (.t 45)),
(50:Nat) (.idxA 64 1 (.t 49) (.t 48)),
(51:Nat) (.ld (.t 50)),
(52:Nat) (.mov (.t 0)),
(53:Nat) (.mov (.t 2)),
(54:Nat) (.mov (.t 12)),
(55:Nat) (.nilck (.t 52)),
(56:Nat) (.fld 20 (.t 55)),
(57:Nat) (.idxA 2 64 (.t 56) (.t 53)),
(58:Nat) (.idxA 64 1 (.t 57) (.t 54)),
(59:Nat) (.ld (.t 58)),
(60:Nat) (.conv .i32 (.t 59)),
(61:Nat) (.bin .mul (.c (.int .i32 8)) (.t 60))] [.call (some 62) 70 [(.t 51), (.t 61)],
(13:Nat) (.mov (.t 62))] [0, 1, 2, 9, 10, 11, 12, 13])
(.seq (.reg [(63:Nat) (.mov (.t 13)),
(64:Nat) (.bin .eql (.t 63) (.c (.int .i32 0)))] [0, 1, 2, 9, 10, 11, 12, 13, 64])
(.cond (.t 64) (.reg [(65:Nat) (.mov (.t 11)),
(66:Nat) (.bin .add (.t 65) (.c (.int .i32 1))),
(11:Nat) (.mov (.t 66))] [0, 1, 2, 9, 10, 11, 12])
(.seq (.block 2 (.loop c62l0))
(.seq (.reg [(74:Nat) (.mov (.t 0)),
(75:Nat) (.mov (.t 10)),
(76:Nat) (.mov (.t 11)),
(77:Nat) (.mov (.t 13)),
.call (some 78) 71 [(.t 74), (.t 75), (.t 76), (.t 77)]] [0, 1, 2, 9, 10, 12])
(.reg [(11:Nat) (.mov (.c (.int .i32 0)))] [0, 1, 2, 9, 10, 11, 12])))))))
(.reg [(43:Nat) (.mov (.t 12)),
(44:Nat) (.bin .add (.t 43) (1:Int)),
(12:Nat) (.mov (.t 44))] [0, 1, 2, 9, 10, 11, 12])))
def c62 : VC := (.seq (.reg [(8:Nat) (.mov (.c (.int .i32 0)))] [0, 1, 2, 3])
(.seq (.reg [(14:Nat) (.mov (.t 1)),
.call (some 15) 69 [(.t 14)]] [0, 1, 2, 3])
(.seq (.drt [(16:Nat) (.mov (.t 1)),
(17:Nat) (.nilck (.t 16)),
(18:Nat) (.idxA 64 1 (.t 17) (0:Int)),
(19:Nat) (.ld (.t 18)),
(20:Nat) (.mov (.t 0)),
(21:Nat) (.mov (.t 2)),
(22:Nat) (.nilck (.t 20)),
(23:Nat) (.fld 20 (.t 22)),
(24:Nat) (.idxA 2 64 (.t 23) (.t 21)),
(25:Nat) (.idxA 64 1 (.t 24) (0:Int)),
(26:Nat) (.ld (.t 25)),
(27:Nat) (.conv .i32 (.t 26)),
(28:Nat) (.bin .mul (.c (.int .i32 8)) (.t 27))] [.call (some 29) 70 [(.t 19), (.t 28)],
(9:Nat) (.mov (.t 29))] [0, 1, 2, 3, 9])
(.seq (.reg [(30:Nat) (.mov (.t 0)),
(31:Nat) (.mov (.t 2)),
(32:Nat) (.bin .mul (2:Int) (.t 31)),
(33:Nat) (.bin .add (.t 32) (0:Int)),
(34:Nat) (.mov (.t 9)),
(35:Nat) (.mov (.t 3)),
(36:Nat) (.bin .sub (.t 34) (.t 35)),
.call (some 37) 71 [(.t 30), (.t 33), (.c (.int .i32 0)), (.t 36)]] [0, 1, 2, 9])
(.seq (.reg [(38:Nat) (.mov (.t 2)),
(39:Nat) (.bin .mul (2:Int) (.t 38)),
(40:Nat) (.bin .add (.t 39) (1:Int)),
(10:Nat) (.mov (.t 40)),
(11:Nat) (.mov (.c (.int .i32 0)))] [0, 1, 2, 9, 10, 11])
(.seq (.seq (.reg [(12:Nat) (.mov (1:Int))] [0, 1, 2, 9, 10, 11, 12])
(.block 0 (.loop c62l1)))
(.seq (.seq (.reg [(79:Nat) (.mov (.t 11)),
(80:Nat) (.bin .gtr (.t 79) (.c (.int .i32 0)))] [0, 9, 10, 80])
(.cond (.t 80) (.reg [(81:Nat) (.mov (.t 0)),
(82:Nat) (.mov (.t 10)),
.call (some 83) 72 [(.t 81), (.t 82), (.c (.int .i32 0))]] [9])
.skip))
(.seq (.reg [(84:Nat) (.mov (.t 9)),
(8:Nat) (.mov (.t 84))] [8])
.ret))))))))
def F62 : VFn := { nt := 85, res := [.tmp 8], body := c62 }
theorem is62 : compFn Tryd.prog h62 62 = some F62 := by kernel_rfl
def h63 : List (Nat × List Nat) := [(0, [0, 2, 3, 4, 6]), (1, [0, 2, 3, 4, 6, 10]), (2, [0, 2, 3, 4, 6, 10, 11]), (3, [0, 2, 3, 4, 6, 10, 11, 12]), (4, [0, 2, 3, 4, 6, 10, 11, 12, 13]), (5, [0, 2, 3, 4, 6, 10, 11, 12, 13, 33]), (6, [0, 2, 3, 4, 6, 10, 11, 12, 13]), (7, [0, 2, 3, 4, 6, 10, 11, 12, 13, 14]), (8, [0, 2, 3, 4, 6, 10, 11, 12, 13, 14, 42]), (9, [0, 2, 3, 4, 6, 10, 11, 12, 13, 14]), (10, [0, 2, 3, 4, 6, 10, 11, 12, 13, 15]), (11, [0, 2, 3, 4, 6, 10, 11, 12, 13, 15, 16]), (12, [0, 2, 3, 4, 6, 10, 11, 12, 13, 15, 16, 60]), (13, [0, 2, 3, 4, 6, 10, 11, 12, 13, 15, 16]), (14, [0, 2, 3, 4, 6, 10, 11, 12, 13, 15, 16, 17]), (15, [0, 2, 3, 4, 6, 10, 11, 12, 13, 15, 16, 17, 69]), (16, [0, 2, 3, 4, 6, 10, 11, 12, 13, 15, 16, 17]), (17, [0, 2, 3, 4, 6, 10, 11, 12, 13, 15, 16, 18]), (18, [0, 2, 3, 4, 6, 10, 11, 12, 13, 15, 16, 19, 20, 21]), (19, [0, 2, 3, 4, 6, 10, 11, 12, 13, 15, 16, 20, 21]), (20, [0, 2, 3, 4, 6, 10, 11, 12, 13, 15, 16, 21]), (21, [0, 2, 3, 4, 6, 10, 11, 12, 13, 15, 16])]
def c63t : VC := (.seq (.reg [(71:Nat) (.mov (.t 0)),
(72:Nat) (.nilck (.t 71)),
(73:Nat) (.fld 0 (.t 72)),
(74:Nat) (.ld (.t 73)),
(75:Nat) (.mov (.t 15)),
(76:Nat) (.mov (.t 17)),
(77:Nat) (.bin .mul (.t 76) (4:Int)),
(78:Nat) (.bin .add (.t 75) (.t 77)),
(79:Nat) (.slcS 1 (.t 74) (some (.t 78)) none none),
(18:Nat) (.mov (.t 79))] [0, 2, 3, 4, 6, 10, 11, 12, 13, 15, 16, 18])
(.seq (.drw [(81:Nat) (.mov (.t 18)),
(82:Nat) (.idxS 1 (.t 81) (0:Int)),
(83:Nat) (.ld (.t 82)),
(84:Nat) (.mov (.t 18)),
(85:Nat) (.idxS 1 (.t 84) (1:Int)),
(86:Nat) (.ld (.t 85)),
(87:Nat) (.mov (.t 18)),
(88:Nat) (.idxS 1 (.t 87) (2:Int)),
(89:Nat) (.ld (.t 88))] [(.call (some 90) 74 [(.t 83), (.t 86), (.t 89)], [], [(80:Nat) (.mov (.t 90)),
(91:Nat) (.tupx (.t 80) 0),
(92:Nat) (.tupx (.t 80) 1),
(93:Nat) (.tupx (.t 80) 2),
(19:Nat) (.mov (.t 91)),
(20:Nat) (.mov (.t 92)),
(21:Nat) (.mov (.t 93))])] [0, 2, 3, 4, 6, 10, 11, 12, 13, 15, 16, 19, 20, 21])
(.seq (.reg [(94:Nat) (.mov (.t 2)),
(95:Nat) (.mov (.t 13)),
(96:Nat) (.bin .mul (8:Int) (.t 95)),
(97:Nat) (.mov (.t 16)),
(98:Nat) (.bin .add (.t 96) (.t 97)),
(99:Nat) (.mov (.t 19)),
(100:Nat) (.conv .i32 (.t 99)),
(101:Nat) (.nilck (.t 94)),
(102:Nat) (.idxA 64 1 (.t 101) (.t 98)),
.op none none (.st 1 (.t 102) (.t 100))] [0, 2, 3, 4, 6, 10, 11, 12, 13, 15, 16, 20, 21])
(.seq (.reg [(103:Nat) (.mov (.t 3)),
(104:Nat) (.mov (.t 13)),
(105:Nat) (.bin .mul (8:Int) (.t 104)),
(106:Nat) (.mov (.t 16)),
(107:Nat) (.bin .add (.t 105) (.t 106)),
(108:Nat) (.mov (.t 20)),
(109:Nat) (.conv .i32 (.t 108)),
(110:Nat) (.nilck (.t 103)),
(111:Nat) (.idxA 64 1 (.t 110) (.t 107)),
.op none none (.st 1 (.t 111) (.t 109))] [0, 2, 3, 4, 6, 10, 11, 12, 13, 15, 16, 21])
(.reg [(112:Nat) (.mov (.t 4)),
(113:Nat) (.mov (.t 13)),
(114:Nat) (.bin .mul (8:Int) (.t 113)),
(115:Nat) (.mov (.t 16)),
(116:Nat) (.bin .add (.t 114) (.t 115)),
(117:Nat) (.mov (.t 21)),
(118:Nat) (.conv .i32 (.t 117)),
(119:Nat) (.nilck (.t 112)),
(120:Nat) (.idxA 64 1 (.t 119) (.t 116)),
.op none none (.st 1 (.t 120) (.t 118))] [0, 2, 3, 4, 6, 10, 11, 12, 13, 15, 16])))))
def c63l0 : VC := (.seq (.seq (.reg [(59:Nat) (.mov (.t 16)),
(60:Nat) (.bin .lss (.t 59) (8:Int))] [0, 2, 3, 4, 6, 10, 11, 12, 13, 15, 16, 60])
(.cond (.t 60) .skip
(.exit 2)))
(.seq (.block 3 (.seq (.reg [(63:Nat) (.fld 0 (.t 6)),
(64:Nat) (.ld (.t 63)),
(65:Nat) (.mov (.t 16)),
(66:Nat) (.bin .add (.t 64) (.t 65)),
(17:Nat) (.mov (.t 66))] [0, 2, 3, 4, 6, 10, 11, 12, 13, 15, 16, 17])
(.seq (.seq (.reg [(67:Nat) (.mov (.t 17)),
(68:Nat) (.mov (.t 11)),
(69:Nat) (.bin .gtr (.t 67) (.t 68))] [0, 2, 3, 4, 6, 10, 11, 12, 13, 15, 16, 17, 69])
(.cond (.t 69) (.reg [(70:Nat) (.mov (.t 11)),
(17:Nat) (.mov (.t 70))] [0, 2, 3, 4, 6, 10, 11, 12, 13, 15, 16, 17])
.skip))
  c63t)))
(.reg [(61:Nat) (.mov (.t 16)),
(62:Nat) (.bin .add (.t 61) (1:Int)),
(16:Nat) (.mov (.t 62))] [0, 2, 3, 4, 6, 10, 11, 12, 13, 15, 16])))
def c63u : VC := (.seq (.drq [(44:Nat) (.mov (.t 14)),
(45:Nat) (.fld 0 (.t 10)),
(46:Nat) (.fld 1 (.t 45)),
(47:Nat) (.ld (.t 46)),
(48:Nat) (.bin .sub (.t 44) (.t 47)),
(49:Nat) (.mov (.t 0)),
(50:Nat) (.nilck (.t 49)),
(51:Nat) (.fld 1 (.t 50)),
(52:Nat) (.ld (.t 51)),
(53:Nat) (.bin .mul (.t 48) (.t 52)),
(54:Nat) (.fld 0 (.t 10)),
(55:Nat) (.fld 0 (.t 54)),
(56:Nat) (.ld (.t 55)),
(57:Nat) (.bin .mul (.t 56) (4:Int)),
(58:Nat) (.bin .sub (.t 53) (.t 57)),
(15:Nat) (.mov (.t 58))] [0, 2, 3, 4, 6, 10, 11, 12, 13, 15])
(.seq (.reg [(16:Nat) (.mov (0:Int))] [0, 2, 3, 4, 6, 10, 11, 12, 13, 15, 16])
(.block 2 (.loop c63l0))))
def c63l1 : VC := (.seq (.seq (.reg [(32:Nat) (.mov (.t 13)),
(33:Nat) (.bin .lss (.t 32) (8:Int))] [0, 2, 3, 4, 6, 10, 11, 12, 13, 33])
(.cond (.t 33) .skip
(.exit 0)))
(.seq (.block 1 (.seq (.reg [(36:Nat) (.fld 1 (.t 6)),
(37:Nat) (.ld (.t 36)),
(38:Nat) (.mov (.t 13)),
(39:Nat) (.bin .add (.t 37) (.t 38)),
(14:Nat) (.mov (.t 39))] [0, 2, 3, 4, 6, 10, 11, 12, 13, 14])
(.seq (.seq (.reg [(40:Nat) (.mov (.t 14)),
(41:Nat) (.mov (.t 12)),
(42:Nat) (.bin .gtr (.t 40) (.t 41))] [0, 2, 3, 4, 6, 10, 11, 12, 13, 14, 42])
(.cond (.t 42) (.reg [(43:Nat) (.mov (.t 12)),
(14:Nat) (.mov (.t 43))] [0, 2, 3, 4, 6, 10, 11, 12, 13, 14])
.skip))
  c63u)))
(.reg [(34:Nat) (.mov (.t 13)),
(35:Nat) (.bin .add (.t 34) (1:Int)),
(13:Nat) (.mov (.t 35))] [0, 2, 3, 4, 6, 10, 11, 12, 13])))
def c63 : VC := (.seq (.reg [(6:Nat) (.box 87 (.t 1))] [0, 2, 3, 4, 6])
(.seq (.reg [(22:Nat) (.mov (.t 0)),
.call (some 23) 73 [(.t 22)],
(10:Nat) (.alloc (.own [(.int .i64 0), (.int .i64 0), (.int .i64 0), (.int .i64 0)] 89)),
.op none none (.st 4 (.t 10) (.t 23))] [0, 2, 3, 4, 6, 10])
(.seq (.reg [(24:Nat) (.fld 2 (.t 10)),
(25:Nat) (.fld 0 (.t 24)),
(26:Nat) (.ld (.t 25)),
(27:Nat) (.bin .sub (.t 26) (1:Int)),
(11:Nat) (.mov (.t 27))] [0, 2, 3, 4, 6, 10, 11])
(.seq (.reg [(28:Nat) (.fld 2 (.t 10)),
(29:Nat) (.fld 1 (.t 28)),
(30:Nat) (.ld (.t 29)),
(31:Nat) (.bin .sub (.t 30) (1:Int)),
(12:Nat) (.mov (.t 31))] [0, 2, 3, 4, 6, 10, 11, 12])
(.seq (.reg [(13:Nat) (.mov (0:Int))] [0, 2, 3, 4, 6, 10, 11, 12, 13])
(.block 0 (.loop c63l1)))))))
def F63 : VFn := { nt := 121, res := [], body := c63 }
theorem is63 : compFn Tryd.prog h63 63 = some F63 := by kernel_rfl
def h64 : List (Nat × List Nat) := [(0, [0, 2, 3, 4, 6]), (1, [0, 2, 3, 4, 6, 10]), (2, [0, 2, 3, 4, 6, 10, 11]), (3, [0, 2, 3, 4, 6, 11, 12]), (4, [0, 2, 3, 4, 6, 11, 12, 13]), (5, [0, 2, 3, 4, 6, 11, 12, 13, 30]), (6, [0, 2, 3, 4, 6, 11, 12, 13]), (7, [0, 2, 3, 4, 6, 11, 12, 13, 14]), (8, [0, 2, 3, 4, 6, 11, 12, 13, 14, 39]), (9, [0, 2, 3, 4, 6, 11, 12, 13, 14]), (10, [0, 2, 3, 4, 6, 11, 12, 13, 14, 15]), (11, [0, 2, 3, 4, 6, 11, 12, 13, 14, 15, 42]), (12, [0, 2, 3, 4, 6, 11, 12, 13, 14, 15]), (13, [0, 2, 3, 4, 6, 11, 12, 13, 14, 15, 16]), (14, [0, 2, 3, 4, 6, 11, 12, 13, 14, 15, 16, 51]), (15, [0, 2, 3, 4, 6, 11, 12, 13, 14, 15, 16]), (16, [0, 2, 3, 4, 6, 11, 12, 13, 14, 15, 16, 17]), (17, [0, 2, 3, 4, 6, 11, 12, 13, 14, 15, 17, 18]), (18, [0, 2, 3, 4, 6, 11, 12, 13, 14, 15, 18]), (19, [0, 2, 3, 4, 6, 11, 12, 13, 14, 15, 18]), (20, [0, 2, 3, 4, 6, 11, 12, 13, 14, 15])]
def c64t : VC := (.seq (.reg [(53:Nat) (.mov (.t 0)),
(54:Nat) (.mov (.t 16)),
(55:Nat) (.mov (.t 14)),
.call (some 56) 76 [(.t 53), (.t 54), (.t 55)],
(17:Nat) (.mov (.t 56))] [0, 2, 3, 4, 6, 11, 12, 13, 14, 15, 16, 17])
(.seq (.reg [(57:Nat) (.mov (.t 0)),
(58:Nat) (.mov (.t 16)),
(59:Nat) (.mov (.t 14)),
.call (some 60) 77 [(.t 57), (.t 58), (.t 59)],
(18:Nat) (.mov (.t 60))] [0, 2, 3, 4, 6, 11, 12, 13, 14, 15, 17, 18])
(.seq (.drt [(61:Nat) (.mov (.t 2)),
(62:Nat) (.mov (.t 13)),
(63:Nat) (.bin .mul (8:Int) (.t 62)),
(64:Nat) (.mov (.t 15)),
(65:Nat) (.bin .add (.t 63) (.t 64)),
(66:Nat) (.mov (.t 0)),
(67:Nat) (.nilck (.t 66)),
(68:Nat) (.fld 0 (.t 67)),
(69:Nat) (.ld (.t 68)),
(70:Nat) (.mov (.t 17)),
(71:Nat) (.idxS 1 (.t 69) (.t 70)),
(72:Nat) (.ld (.t 71)),
(73:Nat) (.conv .i32 (.t 72)),
(74:Nat) (.nilck (.t 61)),
(75:Nat) (.idxA 64 1 (.t 74) (.t 65))] [.op none none (.st 1 (.t 75) (.t 73))] [0, 2, 3, 4, 6, 11, 12, 13, 14, 15, 18])
(.seq (.drt [(76:Nat) (.mov (.t 3)),
(77:Nat) (.mov (.t 13)),
(78:Nat) (.bin .mul (8:Int) (.t 77)),
(79:Nat) (.mov (.t 15)),
(80:Nat) (.bin .add (.t 78) (.t 79)),
(81:Nat) (.mov (.t 0)),
(82:Nat) (.nilck (.t 81)),
(83:Nat) (.fld 1 (.t 82)),
(84:Nat) (.ld (.t 83)),
(85:Nat) (.mov (.t 18)),
(86:Nat) (.idxS 1 (.t 84) (.t 85)),
(87:Nat) (.ld (.t 86)),
(88:Nat) (.conv .i32 (.t 87)),
(89:Nat) (.nilck (.t 76)),
(90:Nat) (.idxA 64 1 (.t 89) (.t 80))] [.op none none (.st 1 (.t 90) (.t 88))] [0, 2, 3, 4, 6, 11, 12, 13, 14, 15, 18])
(.drt [(91:Nat) (.mov (.t 4)),
(92:Nat) (.mov (.t 13)),
(93:Nat) (.bin .mul (8:Int) (.t 92)),
(94:Nat) (.mov (.t 15)),
(95:Nat) (.bin .add (.t 93) (.t 94)),
(96:Nat) (.mov (.t 0)),
(97:Nat) (.nilck (.t 96)),
(98:Nat) (.fld 2 (.t 97)),
(99:Nat) (.ld (.t 98)),
(100:Nat) (.mov (.t 18)),
(101:Nat) (.idxS 1 (.t 99) (.t 100)),
(102:Nat) (.ld (.t 101)),
(103:Nat) (.conv .i32 (.t 102)),
(104:Nat) (.nilck (.t 91)),
(105:Nat) (.idxA 64 1 (.t 104) (.t 95))] [.op none none (.st 1 (.t 105) (.t 103))] [0, 2, 3, 4, 6, 11, 12, 13, 14, 15])))))
def c64l0 : VC := (.seq (.seq (.reg [(41:Nat) (.mov (.t 15)),
(42:Nat) (.bin .lss (.t 41) (8:Int))] [0, 2, 3, 4, 6, 11, 12, 13, 14, 15, 42])
(.cond (.t 42) .skip
(.exit 2)))
(.seq (.block 3 (.seq (.reg [(45:Nat) (.fld 0 (.t 6)),
(46:Nat) (.ld (.t 45)),
(47:Nat) (.mov (.t 15)),
(48:Nat) (.bin .add (.t 46) (.t 47)),
(16:Nat) (.mov (.t 48))] [0, 2, 3, 4, 6, 11, 12, 13, 14, 15, 16])
(.seq (.seq (.reg [(49:Nat) (.mov (.t 16)),
(50:Nat) (.mov (.t 11)),
(51:Nat) (.bin .gtr (.t 49) (.t 50))] [0, 2, 3, 4, 6, 11, 12, 13, 14, 15, 16, 51])
(.cond (.t 51) (.reg [(52:Nat) (.mov (.t 11)),
(16:Nat) (.mov (.t 52))] [0, 2, 3, 4, 6, 11, 12, 13, 14, 15, 16])
.skip))
  c64t)))
(.reg [(43:Nat) (.mov (.t 15)),
(44:Nat) (.bin .add (.t 43) (1:Int)),
(15:Nat) (.mov (.t 44))] [0, 2, 3, 4, 6, 11, 12, 13, 14, 15])))
def c64u : VC := (.seq (.reg [(15:Nat) (.mov (0:Int))] [0, 2, 3, 4, 6, 11, 12, 13, 14, 15])
(.block 2 (.loop c64l0)))
def c64l1 : VC := (.seq (.seq (.reg [(29:Nat) (.mov (.t 13)),
(30:Nat) (.bin .lss (.t 29) (8:Int))] [0, 2, 3, 4, 6, 11, 12, 13, 30])
(.cond (.t 30) .skip
(.exit 0)))
(.seq (.block 1 (.seq (.reg [(33:Nat) (.fld 1 (.t 6)),
(34:Nat) (.ld (.t 33)),
(35:Nat) (.mov (.t 13)),
(36:Nat) (.bin .add (.t 34) (.t 35)),
(14:Nat) (.mov (.t 36))] [0, 2, 3, 4, 6, 11, 12, 13, 14])
(.seq (.seq (.reg [(37:Nat) (.mov (.t 14)),
(38:Nat) (.mov (.t 12)),
(39:Nat) (.bin .gtr (.t 37) (.t 38))] [0, 2, 3, 4, 6, 11, 12, 13, 14, 39])
(.cond (.t 39) (.reg [(40:Nat) (.mov (.t 12)),
(14:Nat) (.mov (.t 40))] [0, 2, 3, 4, 6, 11, 12, 13, 14])
.skip))
  c64u)))
(.reg [(31:Nat) (.mov (.t 13)),
(32:Nat) (.bin .add (.t 31) (1:Int)),
(13:Nat) (.mov (.t 32))] [0, 2, 3, 4, 6, 11, 12, 13])))
def c64 : VC := (.seq (.reg [(6:Nat) (.box 87 (.t 1))] [0, 2, 3, 4, 6])
(.seq (.reg [(19:Nat) (.mov (.t 0)),
.call (some 20) 75 [(.t 19)],
(10:Nat) (.alloc (.own [(.int .i64 0), (.int .i64 0), (.int .i64 0), (.int .i64 0)] 89)),
.op none none (.st 4 (.t 10) (.t 20))] [0, 2, 3, 4, 6, 10])
(.seq (.reg [(21:Nat) (.fld 2 (.t 10)),
(22:Nat) (.fld 0 (.t 21)),
(23:Nat) (.ld (.t 22)),
(24:Nat) (.bin .sub (.t 23) (1:Int)),
(11:Nat) (.mov (.t 24))] [0, 2, 3, 4, 6, 10, 11])
(.seq (.reg [(25:Nat) (.fld 2 (.t 10)),
(26:Nat) (.fld 1 (.t 25)),
(27:Nat) (.ld (.t 26)),
(28:Nat) (.bin .sub (.t 27) (1:Int)),
(12:Nat) (.mov (.t 28))] [0, 2, 3, 4, 6, 11, 12])
(.seq (.reg [(13:Nat) (.mov (0:Int))] [0, 2, 3, 4, 6, 11, 12, 13])
(.block 0 (.loop c64l1)))))))
def F64 : VFn := { nt := 106, res := [], body := c64 }
theorem is64 : compFn Tryd.prog h64 64 = some F64 := by kernel_rfl
def h65 : List (Nat × List Nat) := [(0, [0, 1, 4]), (1, [0, 1, 4, 11]), (2, [0, 1, 4]), (3, [0, 1, 4, 5]), (4, [0, 1, 4, 5, 6]), (5, [0, 1, 4, 5, 6, 22]), (6, [0, 1, 4, 5, 6]), (7, [0, 1, 4, 5, 6, 7]), (8, [0, 1, 4, 5, 6, 7, 26]), (9, [0, 1, 4, 5, 6, 7]), (10, [0, 1, 4, 5, 6, 7, 8]), (11, [0, 1, 4, 5, 6, 7, 9]), (12, [0, 1, 4, 5, 6, 7])]
def c65l0 : VC := (.seq (.seq (.reg [(25:Nat) (.mov (.t 7)),
(26:Nat) (.bin .lss (.t 25) (4:Int))] [0, 1, 4, 5, 6, 7, 26])
(.cond (.t 26) .skip
(.exit 4)))
(.seq (.block 5 (.seq (.reg [(29:Nat) (.mov (.t 6)),
(30:Nat) (.bin .mul (16:Int) (.t 29)),
(31:Nat) (.mov (.t 7)),
(32:Nat) (.bin .mul (2:Int) (.t 31)),
(33:Nat) (.bin .add (.t 30) (.t 32)),
(8:Nat) (.mov (.t 33))] [0, 1, 4, 5, 6, 7, 8])
(.seq (.drq [(34:Nat) (.mov (.t 1)),
(35:Nat) (.mov (.t 4)),
(36:Nat) (.mov (.t 8)),
(37:Nat) (.nilck (.t 34)),
(38:Nat) (.idxA 4 64 (.t 37) (.t 35)),
(39:Nat) (.idxA 64 1 (.t 38) (.t 36)),
(40:Nat) (.ld (.t 39)),
(41:Nat) (.mov (.t 1)),
(42:Nat) (.mov (.t 4)),
(43:Nat) (.mov (.t 8)),
(44:Nat) (.bin .add (.t 43) (1:Int)),
(45:Nat) (.nilck (.t 41)),
(46:Nat) (.idxA 4 64 (.t 45) (.t 42)),
(47:Nat) (.idxA 64 1 (.t 46) (.t 44)),
(48:Nat) (.ld (.t 47)),
(49:Nat) (.bin .add (.t 40) (.t 48)),
(50:Nat) (.mov (.t 1)),
(51:Nat) (.mov (.t 4)),
(52:Nat) (.mov (.t 8)),
(53:Nat) (.bin .add (.t 52) (8:Int)),
(54:Nat) (.nilck (.t 50)),
(55:Nat) (.idxA 4 64 (.t 54) (.t 51)),
(56:Nat) (.idxA 64 1 (.t 55) (.t 53)),
(57:Nat) (.ld (.t 56)),
(58:Nat) (.bin .add (.t 49) (.t 57)),
(59:Nat) (.mov (.t 1)),
(60:Nat) (.mov (.t 4)),
(61:Nat) (.mov (.t 8)),
(62:Nat) (.bin .add (.t 61) (9:Int)),
(63:Nat) (.nilck (.t 59)),
(64:Nat) (.idxA 4 64 (.t 63) (.t 60)),
(65:Nat) (.idxA 64 1 (.t 64) (.t 62)),
(66:Nat) (.ld (.t 65)),
(67:Nat) (.bin .add (.t 58) (.t 66)),
(9:Nat) (.mov (.t 67))] [0, 1, 4, 5, 6, 7, 9])
(.reg [(68:Nat) (.mov (.t 0)),
(69:Nat) (.mov (.t 6)),
(70:Nat) (.bin .mul (8:Int) (.t 69)),
(71:Nat) (.mov (.t 7)),
(72:Nat) (.bin .add (.t 70) (.t 71)),
(73:Nat) (.mov (.t 5)),
(74:Nat) (.bin .add (.t 72) (.t 73)),
(75:Nat) (.mov (.t 9)),
(76:Nat) (.bin .add (.t 75) (.c (.int .i32 2))),
(77:Nat) (.bin .shr (.t 76) (.c (.int .u64 2))),
(78:Nat) (.nilck (.t 68)),
(79:Nat) (.idxA 64 1 (.t 78) (.t 74)),
.op none none (.st 1 (.t 79) (.t 77))] [0, 1, 4, 5, 6, 7]))))
(.reg [(27:Nat) (.mov (.t 7)),
(28:Nat) (.bin .add (.t 27) (1:Int)),
(7:Nat) (.mov (.t 28))] [0, 1, 4, 5, 6, 7])))
def c65l1 : VC := (.seq (.seq (.reg [(21:Nat) (.mov (.t 6)),
(22:Nat) (.bin .lss (.t 21) (4:Int))] [0, 1, 4, 5, 6, 22])
(.cond (.t 22) .skip
(.exit 2)))
(.seq (.block 3 (.seq (.reg [(7:Nat) (.mov (0:Int))] [0, 1, 4, 5, 6, 7])
(.block 4 (.loop c65l0))))
(.reg [(23:Nat) (.mov (.t 6)),
(24:Nat) (.bin .add (.t 23) (1:Int)),
(6:Nat) (.mov (.t 24))] [0, 1, 4, 5, 6])))
def c65l2 : VC := (.seq (.seq (.reg [(10:Nat) (.mov (.t 4)),
(11:Nat) (.bin .lss (.t 10) (4:Int))] [0, 1, 4, 11])
(.cond (.t 11) .skip
(.exit 0)))
(.seq (.block 1 (.seq (.reg [(14:Nat) (.mov (.t 4)),
(15:Nat) (.bin .and (.t 14) (2:Int)),
(16:Nat) (.bin .shl (.t 15) (.c (.int .u64 4))),
(17:Nat) (.mov (.t 4)),
(18:Nat) (.bin .and (.t 17) (1:Int)),
(19:Nat) (.bin .shl (.t 18) (.c (.int .u64 2))),
(20:Nat) (.bin .or (.t 16) (.t 19)),
(5:Nat) (.mov (.t 20))] [0, 1, 4, 5])
(.seq (.reg [(6:Nat) (.mov (0:Int))] [0, 1, 4, 5, 6])
(.block 2 (.loop c65l1)))))
(.reg [(12:Nat) (.mov (.t 4)),
(13:Nat) (.bin .add (.t 12) (1:Int)),
(4:Nat) (.mov (.t 13))] [0, 1, 4])))
def c65 : VC := (.seq (.reg [(4:Nat) (.mov (0:Int))] [0, 1, 4])
(.block 0 (.loop c65l2)))
def F65 : VFn := { nt := 80, res := [], body := c65 }
theorem is65 : compFn Tryd.prog h65 65 = some F65 := by kernel_rfl
def c66l0 : VC := (.seq (.seq (.reg [(23:Nat) (.mov (.t 2)),
(24:Nat) (.bin .geq (.t 23) (.c (.int .u32 8)))] [0, 1, 2, 24])
(.cond (.t 24) .skip
(.exit 0)))
(.block 1 (.seq (.reg [(25:Nat) (.mov (.t 1)),
(26:Nat) (.bin .shr (.t 25) (.c (.int .u64 24))),
(27:Nat) (.conv .u8 (.t 26)),
(6:Nat) (.mov (.t 27))] [0, 1, 2, 6])
(.seq (.reg [(28:Nat) (.mov (.t 0)),
(29:Nat) (.mov (.t 6)),
.call (some 30) 57 [(.t 28), (.t 29)]] [0, 1, 2, 6])
(.seq (.seq (.reg [(31:Nat) (.mov (.t 6)),
(32:Nat) (.bin .eql (.t 31) (.c (.int .u8 255)))] [0, 1, 2, 32])
(.cond (.t 32) (.reg [(33:Nat) (.mov (.t 0)),
.call (some 34) 57 [(.t 33), (.c (.int .u8 0))]] [0, 1, 2])
.skip))
(.seq (.reg [(35:Nat) (.mov (.t 1)),
(36:Nat) (.bin .shl (.t 35) (.c (.int .u64 8))),
(1:Nat) (.mov (.t 36))] [0, 1, 2])
(.reg [(37:Nat) (.mov (.t 2)),
(38:Nat) (.bin .sub (.t 37) (.c (.int .u32 8))),
(2:Nat) (.mov (.t 38))] [0, 1, 2])))))))
def c66 : VC := (.seq (.reg [(7:Nat) (.mov (.t 2)),
(8:Nat) (.mov (.t 0)),
(9:Nat) (.nilck (.t 8)),
(10:Nat) (.fld 19 (.t 9)),
(11:Nat) (.ld (.t 10)),
(12:Nat) (.bin .add (.t 7) (.t 11)),
(2:Nat) (.mov (.t 12))] [0, 1, 2])
(.seq (.reg [(13:Nat) (.mov (.t 1)),
(14:Nat) (.mov (.t 2)),
(15:Nat) (.bin .sub (.c (.int .u32 32)) (.t 14)),
(16:Nat) (.bin .shl (.t 13) (.t 15)),
(1:Nat) (.mov (.t 16))] [0, 1, 2])
(.seq (.reg [(17:Nat) (.mov (.t 1)),
(18:Nat) (.mov (.t 0)),
(19:Nat) (.nilck (.t 18)),
(20:Nat) (.fld 18 (.t 19)),
(21:Nat) (.ld (.t 20)),
(22:Nat) (.bin .or (.t 17) (.t 21)),
(1:Nat) (.mov (.t 22))] [0, 1, 2])
(.seq (.block 0 (.loop c66l0))
(.reg [(39:Nat) (.mov (.t 0)),
(40:Nat) (.mov (.t 0)),
(41:Nat) (.mov (.t 1)),
(42:Nat) (.mov (.t 2)),
(43:Nat) (.nilck (.t 39)),
(44:Nat) (.fld 18 (.t 43)),
.op none none (.st 1 (.t 44) (.t 41)),
(45:Nat) (.nilck (.t 40)),
(46:Nat) (.fld 19 (.t 45)),
.op none none (.st 1 (.t 46) (.t 42))] [])))))
def F66 : VFn := { nt := 47, res := [], body := c66 }
theorem is66 : compFn Tryd.prog (kz c66) 66 = some F66 := by kernel_rfl
def c67 : VC := (.seq (.reg [(2:Nat) (.alloc (.own [(.int .i64 0), (.int .i64 0), (.int .i64 0), (.int .i64 0)] 89))] [0, 2])
(.seq (.reg [(3:Nat) (.mov (.t 0)),
(4:Nat) (.nilck (.t 3)),
(5:Nat) (.fld 2 (.t 4)),
(6:Nat) (.ldA 4 (.t 5)),
.op none none (.st 4 (.t 2) (.t 6))] [2])
.ret))
def F67 : VFn := { nt := 7, res := [.cells 2 4], body := c67 }
theorem is67 : compFn Tryd.prog (kz c67) 67 = some F67 := by kernel_rfl
def c68 : VC := (.seq (.reg [(6:Nat) (.mov (0:Int))] [0, 1, 2])
(.seq (.drq [(7:Nat) (.mov (.t 2)),
(8:Nat) (.mov (.t 0)),
(9:Nat) (.nilck (.t 8)),
(10:Nat) (.fld 2 (.t 9)),
(11:Nat) (.fld 0 (.t 10)),
(12:Nat) (.fld 1 (.t 11)),
(13:Nat) (.ld (.t 12)),
(14:Nat) (.bin .sub (.t 7) (.t 13)),
(15:Nat) (.mov (.t 0)),
(16:Nat) (.nilck (.t 15)),
(17:Nat) (.fld 1 (.t 16)),
(18:Nat) (.ld (.t 17)),
(19:Nat) (.bin .mul (.t 14) (.t 18)),
(20:Nat) (.mov (.t 1)),
(21:Nat) (.mov (.t 0)),
(22:Nat) (.nilck (.t 21)),
(23:Nat) (.fld 2 (.t 22)),
(24:Nat) (.fld 0 (.t 23)),
(25:Nat) (.fld 0 (.t 24)),
(26:Nat) (.ld (.t 25)),
(27:Nat) (.bin .sub (.t 20) (.t 26)),
(28:Nat) (.bin .mul (.t 27) (1:Int)),
(29:Nat) (.bin .add (.t 19) (.t 28)),
(6:Nat) (.mov (.t 29))] [6])
.ret))
def F68 : VFn := { nt := 30, res := [.tmp 6], body := c68 }
theorem is68 : compFn Tryd.prog (kz c68) 68 = some F68 := by kernel_rfl
def c71t : VC := (.seq (.reg [(31:Nat) (.mov (.t 0)), (32:Nat) (.mov (.t 1)), (33:Nat) (.mov (.t 2)), (34:Nat) (.bin .shl (.t 33) (.c (.int .u64 4))),
(35:Nat) (.mov (.t 10)), (36:Nat) (.conv .i32 (.t 35)), (37:Nat) (.bin .or (.t 34) (.t 36)), .call (some 38) 72 [(.t 31), (.t 32), (.t 37)]] [0, 9, 10])
(.seq (.reg [(39:Nat) (.mov (.t 10)), (40:Nat) (.bin .gtr (.t 39) (.c (.int .u32 0)))] [0, 9, 10, 40])
(.cond (.t 40) (.reg [(41:Nat) (.mov (.t 0)), (42:Nat) (.mov (.t 9)), (43:Nat) (.conv .u32 (.t 42)), (44:Nat) (.mov (.t 10)),
(45:Nat) (.bin .shl (.c (.int .u32 1)) (.t 44)), (46:Nat) (.bin .sub (.t 45) (.c (.int .u32 1))), (47:Nat) (.bin .and (.t 43) (.t 46)), (48:Nat) (.mov (.t 10)),
.call (some 49) 66 [(.t 41), (.t 47), (.t 48)]] []) .skip)))
def c71 : VC := (.seq (.reg [(11:Nat) (.mov (.t 3)),
(12:Nat) (.mov (.t 3)),
(8:Nat) (.mov (.t 11)),
(9:Nat) (.mov (.t 12))] [0, 1, 2, 3, 8, 9])
(.seq (.seq (.reg [(13:Nat) (.mov (.t 8)),
(14:Nat) (.bin .lss (.t 13) (.c (.int .i32 0)))] [0, 1, 2, 3, 8, 9, 14])
(.cond (.t 14) (.reg [(15:Nat) (.mov (.t 3)),
(16:Nat) (.un .neg (.t 15)),
(17:Nat) (.mov (.t 3)),
(18:Nat) (.bin .sub (.t 17) (.c (.int .i32 1))),
(8:Nat) (.mov (.t 16)),
(9:Nat) (.mov (.t 18))] [0, 1, 2, 8, 9])
.skip))
(.seq (.reg [(10:Nat) (.mov (.c (.int .u32 0)))] [0, 1, 2, 8, 9])
(.seq (.seq (.reg [(19:Nat) (.mov (.t 8)),
(20:Nat) (.bin .lss (.t 19) (.c (.int .i32 256)))] [0, 1, 2, 8, 9, 20])
(.cond (.t 20) (.reg [(21:Nat) (.mov (.t 8)),
(22:Nat) (.idxA 256 1 (.c (.raw (.pointer (some ⟨2, 0, none⟩)))) (.t 21)),
(23:Nat) (.ld (.t 22)),
(24:Nat) (.conv .u32 (.t 23)),
(10:Nat) (.mov (.t 24))] [0, 1, 2, 9, 10])
(.reg [(25:Nat) (.mov (.t 8)),
(26:Nat) (.bin .shr (.t 25) (.c (.int .u64 8))),
(27:Nat) (.idxA 256 1 (.c (.raw (.pointer (some ⟨2, 0, none⟩)))) (.t 26)),
(28:Nat) (.ld (.t 27)),
(29:Nat) (.conv .u32 (.t 28)),
(30:Nat) (.bin .add (.c (.int .u32 8)) (.t 29)),
(10:Nat) (.mov (.t 30))] [0, 1, 2, 9, 10]))) c71t))))
def F71 : VFn := { nt := 50, res := [], body := c71 }
theorem is71 : compFn Tryd.prog (kz c71) 71 = some F71 := by kernel_rfl
def c72 : VC := (.seq (.reg [(7:Nat) (.mov (.t 0)),
(8:Nat) (.mov (.t 1)),
(9:Nat) (.nilck (.t 7)),
(10:Nat) (.fld 148 (.t 9)),
(11:Nat) (.idxA 4 1 (.t 10) (.t 8)),
(12:Nat) (.ld (.t 11)),
(13:Nat) (.mov (.t 2)),
(14:Nat) (.idxS 1 (.t 12) (.t 13)),
(15:Nat) (.ld (.t 14)),
(6:Nat) (.mov (.t 15))] [0, 6])
(.reg [(16:Nat) (.mov (.t 0)),
(17:Nat) (.mov (.t 6)),
(18:Nat) (.bin .and (.t 17) (.c (.int .u32 16777215))),
(19:Nat) (.mov (.t 6)),
(20:Nat) (.bin .shr (.t 19) (.c (.int .u64 24))),
.call (some 21) 66 [(.t 16), (.t 18), (.t 20)]] []))
def F72 : VFn := { nt := 22, res := [], body := c72 }
theorem is72 : compFn Tryd.prog (kz c72) 72 = some F72 := by kernel_rfl
def c73 : VC := (.seq (.reg [(2:Nat) (.alloc (.own [(.int .i64 0), (.int .i64 0), (.int .i64 0), (.int .i64 0)] 89))] [0, 2])
(.seq (.reg [(3:Nat) (.mov (.t 0)),
(4:Nat) (.nilck (.t 3)),
(5:Nat) (.fld 2 (.t 4)),
(6:Nat) (.ldA 4 (.t 5)),
.op none none (.st 4 (.t 2) (.t 6))] [2])
.ret))
def F73 : VFn := { nt := 7, res := [.cells 2 4], body := c73 }
theorem is73 : compFn Tryd.prog (kz c73) 73 = some F73 := by kernel_rfl
def c75 : VC := (.seq (.reg [(2:Nat) (.alloc (.own [(.int .i64 0), (.int .i64 0), (.int .i64 0), (.int .i64 0)] 89))] [0, 2])
(.seq (.reg [(3:Nat) (.mov (.t 0)),
(4:Nat) (.nilck (.t 3)),
(5:Nat) (.fld 6 (.t 4)),
(6:Nat) (.ldA 4 (.t 5)),
.op none none (.st 4 (.t 2) (.t 6))] [2])
.ret))
def F75 : VFn := { nt := 7, res := [.cells 2 4], body := c75 }
theorem is75 : compFn Tryd.prog (kz c75) 75 = some F75 := by kernel_rfl
def c76 : VC := (.seq (.reg [(6:Nat) (.mov (0:Int))] [0, 1, 2])
(.seq (.drq [(7:Nat) (.mov (.t 2)),
(8:Nat) (.mov (.t 0)),
(9:Nat) (.nilck (.t 8)),
(10:Nat) (.fld 6 (.t 9)),
(11:Nat) (.fld 0 (.t 10)),
(12:Nat) (.fld 1 (.t 11)),
(13:Nat) (.ld (.t 12)),
(14:Nat) (.bin .sub (.t 7) (.t 13)),
(15:Nat) (.mov (.t 0)),
(16:Nat) (.nilck (.t 15)),
(17:Nat) (.fld 3 (.t 16)),
(18:Nat) (.ld (.t 17)),
(19:Nat) (.bin .mul (.t 14) (.t 18)),
(20:Nat) (.mov (.t 1)),
(21:Nat) (.mov (.t 0)),
(22:Nat) (.nilck (.t 21)),
(23:Nat) (.fld 6 (.t 22)),
(24:Nat) (.fld 0 (.t 23)),
(25:Nat) (.fld 0 (.t 24)),
(26:Nat) (.ld (.t 25)),
(27:Nat) (.bin .sub (.t 20) (.t 26)),
(28:Nat) (.bin .add (.t 19) (.t 27)),
(6:Nat) (.mov (.t 28))] [6])
.ret))
def F76 : VFn := { nt := 29, res := [.tmp 6], body := c76 }
theorem is76 : compFn Tryd.prog (kz c76) 76 = some F76 := by kernel_rfl
def c77 : VC := (.seq (.reg [(6:Nat) (.mov (0:Int))] [0, 1, 2])
(.seq (.seq (.reg [(7:Nat) (.mov (.t 0)),
(8:Nat) (.nilck (.t 7)),
(9:Nat) (.fld 5 (.t 8)),
(10:Nat) (.ld (.t 9))] [0, 1, 2, 10])
(.block 0 (.seq (.reg [(12:Nat) (.bin .eql (.t 10) (1:Int)),
(11:Nat) (.mov (.t 12))] [0, 1, 2, 10, 11])
(.cond (.t 11) (.seq (.drq [(13:Nat) (.mov (.t 2)),
(14:Nat) (.mov (.t 0)),
(15:Nat) (.nilck (.t 14)),
(16:Nat) (.fld 6 (.t 15)),
(17:Nat) (.fld 0 (.t 16)),
(18:Nat) (.fld 1 (.t 17)),
(19:Nat) (.ld (.t 18)),
(20:Nat) (.bin .sub (.t 13) (.t 19)),
(21:Nat) (.mov (.t 0)),
(22:Nat) (.nilck (.t 21)),
(23:Nat) (.fld 4 (.t 22)),
(24:Nat) (.ld (.t 23)),
(25:Nat) (.bin .mul (.t 20) (.t 24)),
(26:Nat) (.mov (.t 1)),
(27:Nat) (.bin .quo (.t 26) (2:Int)),
(28:Nat) (.mov (.t 0)),
(29:Nat) (.nilck (.t 28)),
(30:Nat) (.fld 6 (.t 29)),
(31:Nat) (.fld 0 (.t 30)),
(32:Nat) (.fld 0 (.t 31)),
(33:Nat) (.ld (.t 32)),
(34:Nat) (.bin .quo (.t 33) (2:Int)),
(35:Nat) (.bin .sub (.t 27) (.t 34)),
(36:Nat) (.bin .add (.t 25) (.t 35)),
(6:Nat) (.mov (.t 36))] [6])
.ret)
(.seq (.reg [(38:Nat) (.bin .eql (.t 10) (2:Int)),
(37:Nat) (.mov (.t 38))] [0, 1, 2, 10, 37])
(.cond (.t 37) (.seq (.drq [(39:Nat) (.mov (.t 2)),
(40:Nat) (.bin .quo (.t 39) (2:Int)),
(41:Nat) (.mov (.t 0)),
(42:Nat) (.nilck (.t 41)),
(43:Nat) (.fld 6 (.t 42)),
(44:Nat) (.fld 0 (.t 43)),
(45:Nat) (.fld 1 (.t 44)),
(46:Nat) (.ld (.t 45)),
(47:Nat) (.bin .quo (.t 46) (2:Int)),
(48:Nat) (.bin .sub (.t 40) (.t 47)),
(49:Nat) (.mov (.t 0)),
(50:Nat) (.nilck (.t 49)),
(51:Nat) (.fld 4 (.t 50)),
(52:Nat) (.ld (.t 51)),
(53:Nat) (.bin .mul (.t 48) (.t 52)),
(54:Nat) (.mov (.t 1)),
(55:Nat) (.bin .quo (.t 54) (2:Int)),
(56:Nat) (.mov (.t 0)),
(57:Nat) (.nilck (.t 56)),
(58:Nat) (.fld 6 (.t 57)),
(59:Nat) (.fld 0 (.t 58)),
(60:Nat) (.fld 0 (.t 59)),
(61:Nat) (.ld (.t 60)),
(62:Nat) (.bin .quo (.t 61) (2:Int)),
(63:Nat) (.bin .sub (.t 55) (.t 62)),
(64:Nat) (.bin .add (.t 53) (.t 63)),
(6:Nat) (.mov (.t 64))] [6])
.ret)
(.seq (.reg [(66:Nat) (.bin .eql (.t 10) (3:Int)),
(65:Nat) (.mov (.t 66))] [0, 1, 2, 10, 65])
(.cond (.t 65) (.seq (.drq [(67:Nat) (.mov (.t 2)),
(68:Nat) (.bin .quo (.t 67) (2:Int)),
(69:Nat) (.mov (.t 0)),
(70:Nat) (.nilck (.t 69)),
(71:Nat) (.fld 6 (.t 70)),
(72:Nat) (.fld 0 (.t 71)),
(73:Nat) (.fld 1 (.t 72)),
(74:Nat) (.ld (.t 73)),
(75:Nat) (.bin .quo (.t 74) (2:Int)),
(76:Nat) (.bin .sub (.t 68) (.t 75)),
(77:Nat) (.mov (.t 0)),
(78:Nat) (.nilck (.t 77)),
(79:Nat) (.fld 4 (.t 78)),
(80:Nat) (.ld (.t 79)),
(81:Nat) (.bin .mul (.t 76) (.t 80)),
(82:Nat) (.mov (.t 1)),
(83:Nat) (.mov (.t 0)),
(84:Nat) (.nilck (.t 83)),
(85:Nat) (.fld 6 (.t 84)),
(86:Nat) (.fld 0 (.t 85)),
(87:Nat) (.fld 0 (.t 86)),
(88:Nat) (.ld (.t 87)),
(89:Nat) (.bin .sub (.t 82) (.t 88)),
(90:Nat) (.bin .add (.t 81) (.t 89)),
(6:Nat) (.mov (.t 90))] [6])
.ret)
(.seq (.reg [(92:Nat) (.bin .eql (.t 10) (4:Int)),
(91:Nat) (.mov (.t 92))] [0, 1, 2, 10, 91])
(.cond (.t 91) (.seq (.drq [(93:Nat) (.mov (.t 2)),
(94:Nat) (.mov (.t 0)),
(95:Nat) (.nilck (.t 94)),
(96:Nat) (.fld 6 (.t 95)),
(97:Nat) (.fld 0 (.t 96)),
(98:Nat) (.fld 1 (.t 97)),
(99:Nat) (.ld (.t 98)),
(100:Nat) (.bin .sub (.t 93) (.t 99)),
(101:Nat) (.mov (.t 0)),
(102:Nat) (.nilck (.t 101)),
(103:Nat) (.fld 4 (.t 102)),
(104:Nat) (.ld (.t 103)),
(105:Nat) (.bin .mul (.t 100) (.t 104)),
(106:Nat) (.mov (.t 1)),
(107:Nat) (.bin .quo (.t 106) (4:Int)),
(108:Nat) (.mov (.t 0)),
(109:Nat) (.nilck (.t 108)),
(110:Nat) (.fld 6 (.t 109)),
(111:Nat) (.fld 0 (.t 110)),
(112:Nat) (.fld 0 (.t 111)),
(113:Nat) (.ld (.t 112)),
(114:Nat) (.bin .quo (.t 113) (4:Int)),
(115:Nat) (.bin .sub (.t 107) (.t 114)),
(116:Nat) (.bin .add (.t 105) (.t 115)),
(6:Nat) (.mov (.t 116))] [6])
.ret)
(.seq (.reg [(118:Nat) (.bin .eql (.t 10) (5:Int)),
(117:Nat) (.mov (.t 118))] [0, 1, 2, 117])
(.cond (.t 117) (.seq (.drq [(119:Nat) (.mov (.t 2)),
(120:Nat) (.bin .quo (.t 119) (2:Int)),
(121:Nat) (.mov (.t 0)),
(122:Nat) (.nilck (.t 121)),
(123:Nat) (.fld 6 (.t 122)),
(124:Nat) (.fld 0 (.t 123)),
(125:Nat) (.fld 1 (.t 124)),
(126:Nat) (.ld (.t 125)),
(127:Nat) (.bin .quo (.t 126) (2:Int)),
(128:Nat) (.bin .sub (.t 120) (.t 127)),
(129:Nat) (.mov (.t 0)),
(130:Nat) (.nilck (.t 129)),
(131:Nat) (.fld 4 (.t 130)),
(132:Nat) (.ld (.t 131)),
(133:Nat) (.bin .mul (.t 128) (.t 132)),
(134:Nat) (.mov (.t 1)),
(135:Nat) (.bin .quo (.t 134) (4:Int)),
(136:Nat) (.mov (.t 0)),
(137:Nat) (.nilck (.t 136)),
(138:Nat) (.fld 6 (.t 137)),
(139:Nat) (.fld 0 (.t 138)),
(140:Nat) (.fld 0 (.t 139)),
(141:Nat) (.ld (.t 140)),
(142:Nat) (.bin .quo (.t 141) (4:Int)),
(143:Nat) (.bin .sub (.t 135) (.t 142)),
(144:Nat) (.bin .add (.t 133) (.t 143)),
(6:Nat) (.mov (.t 144))] [6])
.ret)
.skip))))))))))))
(.seq (.drq [(145:Nat) (.mov (.t 2)),
(146:Nat) (.mov (.t 0)),
(147:Nat) (.nilck (.t 146)),
(148:Nat) (.fld 6 (.t 147)),
(149:Nat) (.fld 0 (.t 148)),
(150:Nat) (.fld 1 (.t 149)),
(151:Nat) (.ld (.t 150)),
(152:Nat) (.bin .sub (.t 145) (.t 151)),
(153:Nat) (.mov (.t 0)),
(154:Nat) (.nilck (.t 153)),
(155:Nat) (.fld 4 (.t 154)),
(156:Nat) (.ld (.t 155)),
(157:Nat) (.bin .mul (.t 152) (.t 156)),
(158:Nat) (.mov (.t 1)),
(159:Nat) (.mov (.t 0)),
(160:Nat) (.nilck (.t 159)),
(161:Nat) (.fld 6 (.t 160)),
(162:Nat) (.fld 0 (.t 161)),
(163:Nat) (.fld 0 (.t 162)),
(164:Nat) (.ld (.t 163)),
(165:Nat) (.bin .sub (.t 158) (.t 164)),
(166:Nat) (.bin .add (.t 157) (.t 165)),
(6:Nat) (.mov (.t 166))] [6])
.ret)))
def F77 : VFn := { nt := 167, res := [.tmp 6], body := c77 }
theorem is77 : compFn Tryd.prog (kz c77) 77 = some F77 := by kernel_rfl
def c97 : VC := (.seq (.reg [(2:Nat) (.mov (.c .nili))] [])
(.seq (.reg [(2:Nat) (.mov (.c .nili))] [2])
.ret))
def F97 : VFn := { nt := 3, res := [.tmp 2], body := c97 }
theorem is97 : compFn Tryd.prog (kz c97) 97 = some F97 := by kernel_rfl
def c98 : VC := (.seq (.reg [(4:Nat) (.mov (0:Int)),
(5:Nat) (.mov (.c .nili))] [0, 1])
(.seq (.reg [(6:Nat) (.mov (.t 0)),
(7:Nat) (.mov (.t 0)),
(8:Nat) (.nilck (.t 7)),
(9:Nat) (.fld 0 (.t 8)),
(10:Nat) (.ld (.t 9)),
(11:Nat) (.mov (.t 1)),
.app (some 12) .u8 5 (.t 10) (.t 11),
(13:Nat) (.nilck (.t 6)),
(14:Nat) (.fld 0 (.t 13)),
.op none none (.st 1 (.t 14) (.t 12))] [1])
(.seq (.reg [(15:Nat) (.mov (.t 1)),
(16:Nat) (.len (.t 15)),
(4:Nat) (.mov (.t 16)),
(5:Nat) (.mov (.c .nili))] [4, 5])
.ret)))
def F98 : VFn := { nt := 17, res := [.tmp 4, .tmp 5], body := c98 }
theorem is98 : compFn Tryd.prog (kz c98) 98 = some F98 := by kernel_rfl
def c99 : VC := (.seq (.reg [(4:Nat) (.mov (.c .nili))] [0, 1])
(.seq (.reg [(5:Nat) (.mov (.t 0)),
(6:Nat) (.mov (.t 0)),
(7:Nat) (.nilck (.t 6)),
(8:Nat) (.fld 0 (.t 7)),
(9:Nat) (.ld (.t 8)),
(10:Nat) (.mov (.t 1)),
(11:Nat) (.bsl 5 1 (.ints .u8 [0]) [(0, 1, (.t 10))]),
.app (some 12) .u8 5 (.t 9) (.t 11),
(13:Nat) (.nilck (.t 5)),
(14:Nat) (.fld 0 (.t 13)),
.op none none (.st 1 (.t 14) (.t 12))] [])
(.seq (.reg [(4:Nat) (.mov (.c .nili))] [4])
.ret)))
def F99 : VFn := { nt := 15, res := [.tmp 4], body := c99 }
theorem is99 : compFn Tryd.prog (kz c99) 99 = some F99 := by kernel_rfl
end Go.VM
