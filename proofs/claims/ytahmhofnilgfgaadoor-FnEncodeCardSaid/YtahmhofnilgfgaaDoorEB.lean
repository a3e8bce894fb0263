/-
  Compiled functions (the law, the pictures): each is what the compiler makes of the given code, by the kernel. No condition but what each theorem names.
-/
import Derived.Test.YtahmhofnilgfgaaDoorVNtoVO
import Derived.Test.YtahmhofnilgfgaaDoorChecked
set_option linter.unusedVariables false
set_option linter.unusedSimpArgs false
namespace Go.VM
open Go Go.Proofs
local instance iopEB : CoeFun Nat (fun _ => VI → Item) := ⟨fun d => .op none (some d)⟩
local instance icoEB : Coe Int X := ⟨fun n => .c (.int .i64 n)⟩
def h3 : List (Nat × List Nat) := [(0, [0, 1, 2, 3, 106, 107, 108, 109, 110, 111, 112, 113, 114, 115, 116, 117, 118, 119]), (1, [0, 1, 2, 3, 19, 106, 107, 108, 109, 110, 111, 112, 113, 114, 115, 116, 117, 118, 119]), (2, [8]), (3, [0, 1, 2, 3, 22, 106, 107, 108, 109, 110, 111, 112, 113, 114, 115, 116, 117, 118, 119]), (4, [8]), (5, [1, 2, 3, 9, 106, 107, 108, 109, 110, 111, 112, 113, 114, 115, 116, 117, 118, 119]), (6, [1, 2, 3, 9, 10, 11, 106, 107, 108, 109, 110, 111, 112, 113, 114, 115, 116, 117, 118, 119]), (7, [2, 3, 9, 10, 11, 12, 106, 107, 108, 109, 110, 111, 112, 113, 114, 115, 116, 117, 118, 119]), (8, [2, 3, 9, 10, 11, 12, 13, 106, 107, 108, 109, 110, 111, 112, 113, 114, 115, 116, 117, 118, 119]), (9, [2, 3, 9, 10, 11, 12, 13, 41, 106, 107, 108, 109, 110, 111, 112, 113, 114, 115, 116, 117, 118, 119]), (10, [2, 3, 10, 11, 12, 106, 107, 108, 109, 110, 111, 112, 113, 114, 115, 116, 117, 118, 119]), (11, [2, 3, 10, 11, 12, 14, 106, 107, 108, 109, 110, 111, 112, 113, 114, 115, 116, 117, 118, 119]), (12, [2, 3, 10, 11, 12, 14, 55, 106, 107, 108, 109, 110, 111, 112, 113, 114, 115, 116, 117, 118, 119]), (13, [2, 3, 10, 11, 12, 14, 106, 107, 108, 109, 110, 111, 112, 113, 114, 115, 116, 117, 118, 119]), (14, [2, 3, 10, 11, 12, 14, 106, 107, 108, 109, 110, 111, 112, 113, 114, 115, 116, 117, 118, 119]), (15, [2, 3, 10, 11, 12, 13, 106, 107, 108, 109, 110, 111, 112, 113, 114, 115, 116, 117, 118, 119]), (16, [2, 3, 9, 10, 11, 12, 13, 41, 65, 106, 107, 108, 109, 110, 111, 112, 113, 114, 115, 116, 117, 118, 119]), (17, [2, 3, 10, 11, 12, 13, 106, 107, 108, 109, 110, 111, 112, 113, 114, 115, 116, 117, 118, 119]), (18, [2, 3, 9, 10, 11, 12, 74, 106, 107, 108, 109, 110, 111, 112, 113, 114, 115, 116, 117, 118, 119]), (19, [2, 3, 9, 10, 11, 12, 106, 107, 108, 109, 110, 111, 112, 113, 114, 115, 116, 117, 118, 119]), (20, [2, 3, 10, 11, 12, 106, 107, 108, 109, 110, 111, 112, 113, 114, 115, 116, 117, 118, 119]), (21, [2, 3, 10, 11, 12, 13, 106, 107, 108, 109, 110, 111, 112, 113, 114, 115, 116, 117, 118, 119]), (22, [2, 3, 10, 11, 12, 13, 15, 16, 106, 107, 108, 109, 110, 111, 112, 113, 114, 115, 116, 117, 118, 119]), (23, [8])]
def c3l0 : VC := (.seq (.seq (.reg [(50:Nat) (.mov (.t 14)),
(51:Nat) (.ld (.t 10)),
(52:Nat) (.bin .mul (4:Int) (.t 51)),
(53:Nat) (.mov (.t 11)),
(54:Nat) (.bin .mul (.t 52) (.t 53)),
(55:Nat) (.bin .lss (.t 50) (.t 54))] [2, 3, 10, 11, 12, 14, 55, 106, 107, 108, 109, 110, 111, 112, 113, 114, 115, 116, 117, 118, 119])
(.cond (.t 55) .skip
(.exit 1)))
(.seq (.block 2 (.reg [(58:Nat) (.fld 4 (.t 12)),
(59:Nat) (.ld (.t 58)),
(60:Nat) (.idxS 1 (.t 59) (0:Int)),
(61:Nat) (.ld (.t 60)),
(62:Nat) (.mov (.t 14)),
(63:Nat) (.idxS 1 (.t 61) (.t 62)),
.op none none (.st 1 (.t 63) (.c (.int .u8 255)))] [2, 3, 10, 11, 12, 14, 106, 107, 108, 109, 110, 111, 112, 113, 114, 115, 116, 117, 118, 119]))
(.reg [(56:Nat) (.mov (.t 14)),
(57:Nat) (.bin .add (.t 56) (4:Int)),
(14:Nat) (.mov (.t 57))] [2, 3, 10, 11, 12, 14, 106, 107, 108, 109, 110, 111, 112, 113, 114, 115, 116, 117, 118, 119])))
def c3f : VC := (.seq (.drw [(103:Nat) (.mov (.t 16)),
(104:Nat) (.bin .eql (.t 103) (0:Int)),
(105:Nat) (.mov (.t 104)),
.op (some (105, true)) (some 106) (.mov (.t 15)),
.op (some (105, true)) (some 107) (.b2s (.t 106)),
.op (some (105, true)) (some 108) (.ld (.t 10)),
.op (some (105, true)) (some 109) (.mov (.t 11)),
.op (some (105, true)) (some 110) (.fld 0 (.t 12)),
.op (some (105, true)) (some 111) (.ld (.t 110)),
.op (some (105, true)) (some 112) (.bin .eql (.t 111) (1:Int)),
.op (some (105, true)) (some 113) (.mov (.t 2)),
.op (some (105, true)) (some 114) (.mov (.t 3)),
.op (some (105, true)) (some 116) (.mov (.t 13))] [(.callg 105 true (some 115) 12 [(.t 113), (.t 114)], [.op (some (105, true)) (some 106) (.mov (.t 15)),
.op (some (105, true)) (some 107) (.b2s (.t 106)),
.op (some (105, true)) (some 108) (.ld (.t 10)),
.op (some (105, true)) (some 109) (.mov (.t 11)),
.op (some (105, true)) (some 110) (.fld 0 (.t 12)),
.op (some (105, true)) (some 111) (.ld (.t 110)),
.op (some (105, true)) (some 112) (.bin .eql (.t 111) (1:Int)),
.op (some (105, true)) (some 116) (.mov (.t 13))], []), (.callg 105 true (some 117) 11 [(.t 108), (.t 109), (.t 112), (.t 115), (.t 116), (.c (.fn 13 []))], [.op (some (105, true)) (some 106) (.mov (.t 15)),
.op (some (105, true)) (some 107) (.b2s (.t 106))], [.op (some (105, true)) (some 118) (.b2s (.t 117)),
.op (some (105, true)) (some 119) (.bin .eql (.t 107) (.t 118)),
(120:Nat) (.pick (.t 105) (.t 119) (.c (.bool false))),
(8:Nat) (.mov (.t 120))])] [8])
.ret)
def c3e : VC := (.seq (.reg [(96:Nat) (.ldA 5 (.t 12)),
(97:Nat) (.mov (.t 2)),
(98:Nat) (.conv .i64 (.t 97)),
(99:Nat) (.mov (.t 3)),
.call (some 100) 10 [(.t 96), (.t 98), (.t 99)],
(95:Nat) (.mov (.t 100)),
(101:Nat) (.tupx (.t 95) 0),
(102:Nat) (.tupx (.t 95) 1),
(15:Nat) (.mov (.t 101)),
(16:Nat) (.mov (.t 102))] [2, 3, 10, 11, 12, 13, 15, 16, 106, 107, 108, 109, 110, 111, 112, 113, 114, 115, 116, 117, 118, 119])
  c3f)
def c3k : VC := (.seq (.seq (.reg [(40:Nat) (.fld 0 (.t 12)),
(41:Nat) (.ld (.t 40))] [2, 3, 9, 10, 11, 12, 13, 41, 106, 107, 108, 109, 110, 111, 112, 113, 114, 115, 116, 117, 118, 119])
(.block 0 (.seq (.reg [(66:Nat) (.bin .eql (.t 41) (1:Int)),
(65:Nat) (.mov (.t 66))] [2, 3, 9, 10, 11, 12, 13, 41, 65, 106, 107, 108, 109, 110, 111, 112, 113, 114, 115, 116, 117, 118, 119])
(.cond (.t 65) (.reg [(67:Nat) (.mov (.t 9)),
(68:Nat) (.ld (.t 10)),
(69:Nat) (.mov (.t 11)),
(70:Nat) (.bin .mul (.t 68) (.t 69)),
.call (some 71) 6 [(.t 67), (.t 70)],
(72:Nat) (.bsl 32 1 (.agg [.nils]) [(0, 1, (.t 71))]),
(73:Nat) (.fld 4 (.t 12)),
.op none none (.st 1 (.t 73) (.t 72))] [2, 3, 10, 11, 12, 13, 106, 107, 108, 109, 110, 111, 112, 113, 114, 115, 116, 117, 118, 119])
(.seq (.reg [(75:Nat) (.bin .eql (.t 41) (2:Int)),
(74:Nat) (.mov (.t 75))] [2, 3, 9, 10, 11, 12, 74, 106, 107, 108, 109, 110, 111, 112, 113, 114, 115, 116, 117, 118, 119])
(.cond (.t 74) (.seq (.reg [(76:Nat) (.fld 3 (.t 12)),
.op none none (.st 1 (.t 76) (0:Int))] [2, 3, 9, 10, 11, 12, 106, 107, 108, 109, 110, 111, 112, 113, 114, 115, 116, 117, 118, 119])
(.seq (.drw [(77:Nat) (.mov (.t 9)),
(78:Nat) (.ld (.t 10)),
(79:Nat) (.mov (.t 11)),
(80:Nat) (.bin .mul (.t 78) (.t 79)),
(82:Nat) (.mov (.t 9)),
(83:Nat) (.ld (.t 10)),
(84:Nat) (.mov (.t 11)),
(85:Nat) (.bin .mul (.t 83) (.t 84)),
(87:Nat) (.mov (.t 9)),
(88:Nat) (.ld (.t 10)),
(89:Nat) (.mov (.t 11)),
(90:Nat) (.bin .mul (.t 88) (.t 89))] [(.call (some 81) 6 [(.t 77), (.t 80)], [(82:Nat) (.mov (.t 9)),
(83:Nat) (.ld (.t 10)),
(84:Nat) (.mov (.t 11)),
(85:Nat) (.bin .mul (.t 83) (.t 84)),
(87:Nat) (.mov (.t 9)),
(88:Nat) (.ld (.t 10)),
(89:Nat) (.mov (.t 11)),
(90:Nat) (.bin .mul (.t 88) (.t 89))], []), (.call (some 86) 6 [(.t 82), (.t 85)], [(87:Nat) (.mov (.t 9)),
(88:Nat) (.ld (.t 10)),
(89:Nat) (.mov (.t 11)),
(90:Nat) (.bin .mul (.t 88) (.t 89))], []), (.call (some 91) 6 [(.t 87), (.t 90)], [], []), ((92:Nat) (.bsl 32 3 (.agg [.nils, .nils, .nils]) [(0, 1, (.t 81)), (1, 1, (.t 86)), (2, 1, (.t 91))]), [], [(93:Nat) (.fld 4 (.t 12))]), (.op none none (.st 1 (.t 93) (.t 92)), [], [])] [2, 3, 10, 11, 12, 106, 107, 108, 109, 110, 111, 112, 113, 114, 115, 116, 117, 118, 119])
(.reg [(94:Nat) (.mkfn 7 [(.t 12), (.t 10)]),
(13:Nat) (.mov (.t 94))] [2, 3, 10, 11, 12, 13, 106, 107, 108, 109, 110, 111, 112, 113, 114, 115, 116, 117, 118, 119])))
(.seq (.reg [(42:Nat) (.mov (.t 9)),
(43:Nat) (.ld (.t 10)),
(44:Nat) (.bin .mul (4:Int) (.t 43)),
(45:Nat) (.mov (.t 11)),
(46:Nat) (.bin .mul (.t 44) (.t 45)),
.call (some 47) 6 [(.t 42), (.t 46)],
(48:Nat) (.bsl 32 1 (.agg [.nils]) [(0, 1, (.t 47))]),
(49:Nat) (.fld 4 (.t 12)),
.op none none (.st 1 (.t 49) (.t 48))] [2, 3, 10, 11, 12, 106, 107, 108, 109, 110, 111, 112, 113, 114, 115, 116, 117, 118, 119])
(.seq (.seq (.reg [(14:Nat) (.mov (3:Int))] [2, 3, 10, 11, 12, 14, 106, 107, 108, 109, 110, 111, 112, 113, 114, 115, 116, 117, 118, 119])
(.block 1 (.loop c3l0)))
(.reg [(64:Nat) (.mkfn 8 [(.t 10), (.t 12)]),
(13:Nat) (.mov (.t 64))] [2, 3, 10, 11, 12, 13, 106, 107, 108, 109, 110, 111, 112, 113, 114, 115, 116, 117, 118, 119])))))))))
  c3e)
def c3a : VC := (.seq (.reg [(23:Nat) (.mov (.t 0)),
(24:Nat) (.build (.agg [.nils, (.int .i64 0)]) [(0, 1, (.t 23))]),
(25:Nat) (.box 26 (.t 24)),
(9:Nat) (.mov (.t 25))] [1, 2, 3, 9, 106, 107, 108, 109, 110, 111, 112, 113, 114, 115, 116, 117, 118, 119])
(.seq (.reg [(26:Nat) (.mov (.t 9)),
.call (some 27) 4 [(.t 26), (40:Int)],
(28:Nat) (.bin .add (1:Int) (.t 27)),
(29:Nat) (.mov (.t 9)),
.call (some 30) 4 [(.t 29), (40:Int)],
(31:Nat) (.bin .add (1:Int) (.t 30)),
(10:Nat) (.alloc (.own [(.int .i64 0)] 3)),
.op none none (.st 1 (.t 10) (.t 28)),
(11:Nat) (.mov (.t 31))] [1, 2, 3, 9, 10, 11, 106, 107, 108, 109, 110, 111, 112, 113, 114, 115, 116, 117, 118, 119])
(.seq (.reg [(32:Nat) (.mov (.t 1)),
(33:Nat) (.bin .rem (.t 32) (.c (.int .u8 3))),
(34:Nat) (.conv .i64 (.t 33)),
(35:Nat) (.bin .add (1:Int) (.t 34)),
(36:Nat) (.ld (.t 10)),
(37:Nat) (.mov (.t 11)),
(38:Nat) (.build (.agg [(.int .i64 0), (.int .i64 0), (.int .i64 0), (.int .i64 0), .nils]) [(0, 1, (.t 35)), (1, 1, (.t 36)), (2, 1, (.t 37)), (3, 1, (.c (.int .i64 (-1))))]),
(12:Nat) (.alloc (.own [(.int .i64 0), (.int .i64 0), (.int .i64 0), (.int .i64 0), .nils] 30)),
.op none none (.st 5 (.t 12) (.t 38))] [2, 3, 9, 10, 11, 12, 106, 107, 108, 109, 110, 111, 112, 113, 114, 115, 116, 117, 118, 119])
(.seq (.reg [(39:Nat) (.mkfn 5 [(.t 12), (.t 10)]),
(13:Nat) (.mov (.t 39))] [2, 3, 9, 10, 11, 12, 13, 106, 107, 108, 109, 110, 111, 112, 113, 114, 115, 116, 117, 118, 119])
  c3k))))
def c3 : VC := (.seq (.reg [(8:Nat) (.mov (.c (.bool false)))] [0, 1, 2, 3, 106, 107, 108, 109, 110, 111, 112, 113, 114, 115, 116, 117, 118, 119])
(.seq (.seq (.reg [(17:Nat) (.mov (.t 0)),
(18:Nat) (.len (.t 17)),
(19:Nat) (.bin .gtr (.t 18) (2147483647:Int))] [0, 1, 2, 3, 19, 106, 107, 108, 109, 110, 111, 112, 113, 114, 115, 116, 117, 118, 119])
(.cond (.t 19) (.seq (.reg [(8:Nat) (.mov (.c (.bool true)))] [8])
.ret)
.skip))
(.seq (.seq (.reg [(20:Nat) (.mov (.t 0)),
(21:Nat) (.len (.t 20)),
(22:Nat) (.bin .gtr (.t 21) (100:Int))] [0, 1, 2, 3, 22, 106, 107, 108, 109, 110, 111, 112, 113, 114, 115, 116, 117, 118, 119])
(.cond (.t 22) (.seq (.reg [(8:Nat) (.mov (.c (.bool true)))] [8])
.ret)
.skip))
  c3a)))
def F3 : VFn := { nt := 121, res := [.tmp 8], body := c3 }
theorem is3 : compFn Tryd.prog h3 3 = some F3 := by kernel_rfl
def c4 : VC := (.seq (.reg [(4:Nat) (.mov (0:Int))] [0, 1])
(.seq (.reg [(5:Nat) (.mov (.t 0)),
.call (some 6) 14 [(.t 5)],
(7:Nat) (.bin .shr (.t 6) (.c (.int .u64 5))),
(8:Nat) (.conv .i64 (.t 7)),
(9:Nat) (.mov (.t 1)),
(10:Nat) (.bin .rem (.t 8) (.t 9)),
(4:Nat) (.mov (.t 10))] [4])
.ret))
def F4 : VFn := { nt := 11, res := [.tmp 4], body := c4 }
theorem is4 : compFn Tryd.prog (kz c4) 4 = some F4 := by kernel_rfl
def c5 : VC := (.seq (.reg [(6:Nat) (.alloc (.ints .u8 [0, 0, 0] 31))] [0, 1, 2, 3, 6])
(.seq (.drt [(7:Nat) (.fld 4 (.t 2)),
(8:Nat) (.ld (.t 7)),
(9:Nat) (.idxS 1 (.t 8) (0:Int)),
(10:Nat) (.ld (.t 9)),
(11:Nat) (.mov (.t 1)),
(12:Nat) (.ld (.t 3)),
(13:Nat) (.bin .mul (.t 11) (.t 12)),
(14:Nat) (.mov (.t 0)),
(15:Nat) (.bin .add (.t 13) (.t 14)),
(16:Nat) (.idxS 1 (.t 10) (.t 15)),
(17:Nat) (.ld (.t 16)),
(18:Nat) (.build (.ints .u8 [0, 0, 0]) [(0, 1, (.t 17))])] [.op none none (.st 3 (.t 6) (.t 18))] [6])
.ret))
def F5 : VFn := { nt := 19, res := [.cells 6 3], body := c5 }
theorem is5 : compFn Tryd.prog (kz c5) 5 = some F5 := by kernel_rfl
def c6l0 : VC := (.seq (.reg [(13:Nat) (.bin .lss (.t 12) (.t 11))] [0, 5, 6, 11, 12, 13])
(.seq (.cond (.t 13) .skip
(.exit 0))
(.seq (.block 1 (.seq (.seq (.reg [(14:Nat) (.mov (.t 0)),
.call (some 15) 4 [(.t 14), (4:Int)]] [0, 5, 6, 11, 12, 15])
(.block 2 (.seq (.reg [(17:Nat) (.bin .eql (.t 15) (0:Int)),
(16:Nat) (.mov (.t 17))] [0, 5, 6, 11, 12, 15, 16])
(.cond (.t 16) (.reg [(18:Nat) (.mov (.t 0)),
.call (some 19) 14 [(.t 18)],
(20:Nat) (.conv .u8 (.t 19)),
(6:Nat) (.mov (.t 20))] [0, 5, 6, 11, 12])
(.seq (.reg [(22:Nat) (.bin .eql (.t 15) (1:Int)),
(21:Nat) (.mov (.t 22))] [0, 5, 6, 11, 12, 21])
(.cond (.t 21) (.reg [(23:Nat) (.mov (.t 6)),
(24:Nat) (.mov (.t 0)),
.call (some 25) 4 [(.t 24), (9:Int)],
(26:Nat) (.conv .u8 (.t 25)),
(27:Nat) (.bin .add (.t 23) (.t 26)),
(6:Nat) (.mov (.t 27))] [0, 5, 6, 11, 12])
.skip))))))
(.reg [(28:Nat) (.mov (.t 5)),
(29:Nat) (.mov (.t 6)),
(30:Nat) (.bsl 5 1 (.ints .u8 [0]) [(0, 1, (.t 29))]),
.app (some 31) .u8 5 (.t 28) (.t 30),
(5:Nat) (.mov (.t 31))] [0, 5, 6, 11, 12])))
(.reg [(32:Nat) (.bin .add (.t 12) (1:Int)),
(12:Nat) (.mov (.t 32))] [0, 5, 6, 11, 12]))))
def c6 : VC := (.seq (.reg [(4:Nat) (.mov (.c .nils))] [0, 1])
(.seq (.reg [(7:Nat) (.bsl 5 0 (.ints .u8 []) []),
(5:Nat) (.mov (.t 7))] [0, 1, 5])
(.seq (.reg [(8:Nat) (.mov (.t 0)),
.call (some 9) 14 [(.t 8)],
(10:Nat) (.conv .u8 (.t 9)),
(6:Nat) (.mov (.t 10))] [0, 1, 5, 6])
(.seq (.seq (.reg [(11:Nat) (.mov (.t 1)),
(12:Nat) (.mov (0:Int))] [0, 5, 6, 11, 12])
(.block 0 (.loop c6l0)))
(.seq (.reg [(33:Nat) (.mov (.t 5)),
(4:Nat) (.mov (.t 33))] [4])
.ret)))))
def F6 : VFn := { nt := 34, res := [.tmp 4], body := c6 }
theorem is6 : compFn Tryd.prog (kz c6) 6 = some F6 := by kernel_rfl
def c7 : VC := (.seq (.reg [(6:Nat) (.alloc (.ints .u8 [0, 0, 0] 31))] [0, 1, 2, 3, 6])
(.seq (.drt [(7:Nat) (.fld 4 (.t 2)),
(8:Nat) (.ld (.t 7)),
(9:Nat) (.idxS 1 (.t 8) (0:Int)),
(10:Nat) (.ld (.t 9)),
(11:Nat) (.mov (.t 1)),
(12:Nat) (.ld (.t 3)),
(13:Nat) (.bin .mul (.t 11) (.t 12)),
(14:Nat) (.mov (.t 0)),
(15:Nat) (.bin .add (.t 13) (.t 14)),
(16:Nat) (.idxS 1 (.t 10) (.t 15)),
(17:Nat) (.ld (.t 16)),
(18:Nat) (.fld 4 (.t 2)),
(19:Nat) (.ld (.t 18)),
(20:Nat) (.idxS 1 (.t 19) (1:Int)),
(21:Nat) (.ld (.t 20)),
(22:Nat) (.mov (.t 1)),
(23:Nat) (.ld (.t 3)),
(24:Nat) (.bin .mul (.t 22) (.t 23)),
(25:Nat) (.mov (.t 0)),
(26:Nat) (.bin .add (.t 24) (.t 25)),
(27:Nat) (.idxS 1 (.t 21) (.t 26)),
(28:Nat) (.ld (.t 27)),
(29:Nat) (.fld 4 (.t 2)),
(30:Nat) (.ld (.t 29)),
(31:Nat) (.idxS 1 (.t 30) (2:Int)),
(32:Nat) (.ld (.t 31)),
(33:Nat) (.mov (.t 1)),
(34:Nat) (.ld (.t 3)),
(35:Nat) (.bin .mul (.t 33) (.t 34)),
(36:Nat) (.mov (.t 0)),
(37:Nat) (.bin .add (.t 35) (.t 36)),
(38:Nat) (.idxS 1 (.t 32) (.t 37)),
(39:Nat) (.ld (.t 38)),
(40:Nat) (.build (.ints .u8 [0, 0, 0]) [(0, 1, (.t 17)), (1, 1, (.t 28)), (2, 1, (.t 39))])] [.op none none (.st 3 (.t 6) (.t 40))] [6])
.ret))
def F7 : VFn := { nt := 41, res := [.cells 6 3], body := c7 }
theorem is7 : compFn Tryd.prog (kz c7) 7 = some F7 := by kernel_rfl
def c8 : VC := (.seq (.reg [(6:Nat) (.alloc (.ints .u8 [0, 0, 0] 31))] [0, 1, 2, 3, 6])
(.seq (.reg [(11:Nat) (.mov (.t 1)),
(12:Nat) (.ld (.t 2)),
(13:Nat) (.bin .mul (.t 11) (.t 12)),
(14:Nat) (.mov (.t 0)),
(15:Nat) (.bin .add (.t 13) (.t 14)),
(16:Nat) (.bin .mul (4:Int) (.t 15)),
(7:Nat) (.mov (.t 16))] [3, 6, 7])
(.seq (.drw [(18:Nat) (.fld 4 (.t 3)),
(19:Nat) (.ld (.t 18)),
(20:Nat) (.idxS 1 (.t 19) (0:Int)),
(21:Nat) (.ld (.t 20)),
(22:Nat) (.mov (.t 7)),
(23:Nat) (.idxS 1 (.t 21) (.t 22)),
(24:Nat) (.ld (.t 23)),
(25:Nat) (.fld 4 (.t 3)),
(26:Nat) (.ld (.t 25)),
(27:Nat) (.idxS 1 (.t 26) (0:Int)),
(28:Nat) (.ld (.t 27)),
(29:Nat) (.mov (.t 7)),
(30:Nat) (.bin .add (.t 29) (1:Int)),
(31:Nat) (.idxS 1 (.t 28) (.t 30)),
(32:Nat) (.ld (.t 31)),
(33:Nat) (.fld 4 (.t 3)),
(34:Nat) (.ld (.t 33)),
(35:Nat) (.idxS 1 (.t 34) (0:Int)),
(36:Nat) (.ld (.t 35)),
(37:Nat) (.mov (.t 7)),
(38:Nat) (.bin .add (.t 37) (2:Int)),
(39:Nat) (.idxS 1 (.t 36) (.t 38)),
(40:Nat) (.ld (.t 39))] [(.call (some 41) 9 [(.t 24), (.t 32), (.t 40)], [], [(17:Nat) (.mov (.t 41)),
(42:Nat) (.tupx (.t 17) 0),
(43:Nat) (.tupx (.t 17) 1),
(44:Nat) (.tupx (.t 17) 2),
(8:Nat) (.mov (.t 42)),
(9:Nat) (.mov (.t 43)),
(10:Nat) (.mov (.t 44))])] [6, 8, 9, 10])
(.seq (.reg [(45:Nat) (.mov (.t 8)),
(46:Nat) (.mov (.t 9)),
(47:Nat) (.mov (.t 10)),
(48:Nat) (.build (.ints .u8 [0, 0, 0]) [(0, 1, (.t 45)), (1, 1, (.t 46)), (2, 1, (.t 47))]),
.op none none (.st 3 (.t 6) (.t 48))] [6])
.ret))))
def F8 : VFn := { nt := 49, res := [.cells 6 3], body := c8 }
theorem is8 : compFn Tryd.prog (kz c8) 8 = some F8 := by kernel_rfl
def c9 : VC := (.seq (.reg [(6:Nat) (.mov (.c (.int .u8 0))),
(7:Nat) (.mov (.c (.int .u8 0))),
(8:Nat) (.mov (.c (.int .u8 0)))] [0, 1, 2])
(.seq (.reg [(13:Nat) (.mov (.t 0)),
(14:Nat) (.conv .i64 (.t 13)),
(15:Nat) (.mov (.t 1)),
(16:Nat) (.conv .i64 (.t 15)),
(17:Nat) (.mov (.t 2)),
(18:Nat) (.conv .i64 (.t 17)),
(9:Nat) (.mov (.t 14)),
(10:Nat) (.mov (.t 16)),
(11:Nat) (.mov (.t 18))] [9, 10, 11])
(.seq (.reg [(12:Nat) (.mov (.c (.fn 15 [])))] [9, 10, 11, 12])
(.seq (.reg [(19:Nat) (.mov (.t 9)),
(20:Nat) (.bin .mul (19595:Int) (.t 19)),
(21:Nat) (.mov (.t 10)),
(22:Nat) (.bin .mul (38470:Int) (.t 21)),
(23:Nat) (.bin .add (.t 20) (.t 22)),
(24:Nat) (.mov (.t 11)),
(25:Nat) (.bin .mul (7471:Int) (.t 24)),
(26:Nat) (.bin .add (.t 23) (.t 25)),
(27:Nat) (.bin .add (.t 26) (32768:Int)),
(28:Nat) (.bin .shr (.t 27) (.c (.int .u64 16))),
(29:Nat) (.conv .u8 (.t 28)),
(30:Nat) (.mov (.t 12)),
(31:Nat) (.mov (.t 9)),
(32:Nat) (.bin .mul (.c (.int .i64 (-11056))) (.t 31)),
(33:Nat) (.mov (.t 10)),
(34:Nat) (.bin .mul (21712:Int) (.t 33)),
(35:Nat) (.bin .sub (.t 32) (.t 34)),
(36:Nat) (.mov (.t 11)),
(37:Nat) (.bin .mul (32768:Int) (.t 36)),
(38:Nat) (.bin .add (.t 35) (.t 37)),
(39:Nat) (.bin .add (.t 38) (8421376:Int)),
.callv (some 40) (.t 30) [(.t 39)],
(41:Nat) (.mov (.t 12)),
(42:Nat) (.mov (.t 9)),
(43:Nat) (.bin .mul (32768:Int) (.t 42)),
(44:Nat) (.mov (.t 10)),
(45:Nat) (.bin .mul (27440:Int) (.t 44)),
(46:Nat) (.bin .sub (.t 43) (.t 45)),
(47:Nat) (.mov (.t 11)),
(48:Nat) (.bin .mul (5328:Int) (.t 47)),
(49:Nat) (.bin .sub (.t 46) (.t 48)),
(50:Nat) (.bin .add (.t 49) (8421376:Int)),
.callv (some 51) (.t 41) [(.t 50)],
(6:Nat) (.mov (.t 29)),
(7:Nat) (.mov (.t 40)),
(8:Nat) (.mov (.t 51))] [6, 7, 8])
.ret))))
def F9 : VFn := { nt := 52, res := [.tmp 6, .tmp 7, .tmp 8], body := c9 }
theorem is9 : compFn Tryd.prog (kz c9) 9 = some F9 := by kernel_rfl
def c10 : VC := (.seq (.reg [(3:Nat) (.box 30 (.t 0)),
(6:Nat) (.mov (.c .nils)),
(7:Nat) (.mov (0:Int))] [1, 2, 3])
(.seq (.reg [(12:Nat) (.ldA 5 (.t 3)),
.call (some 13) 16 [(.t 12)],
(8:Nat) (.mov (.t 13))] [1, 2, 8])
(.seq (.seq (.reg [(14:Nat) (.mov (.t 8)),
(15:Nat) (.isnil false false (.t 14))] [1, 2, 8, 15])
(.cond (.t 15) (.seq (.reg [(6:Nat) (.mov (.c .nils)),
(7:Nat) (.mov (4:Int))] [6, 7])
.ret)
.skip))
(.seq (.reg [(9:Nat) (.mov (.c .nilp))] [1, 2, 8, 9])
(.seq (.seq (.reg [(16:Nat) (.mov (.t 2))] [1, 8, 9, 16])
(.cond (.t 16) (.reg [(17:Nat) (.mov (.t 1)),
(18:Nat) (.build (.agg [(.int .i64 0)]) [(0, 1, (.t 17))]),
(19:Nat) (.box 52 (.t 18)),
(9:Nat) (.mov (.t 19))] [8, 9])
.skip))
(.seq (.reg [(20:Nat) (.build (.agg [.nils]) []),
(21:Nat) (.box 55 (.t 20)),
(10:Nat) (.mov (.t 21))] [8, 9, 10])
(.seq (.seq (.reg [(22:Nat) (.mov (.t 10)),
(23:Nat) (.mkif 53 (.t 22)),
(24:Nat) (.mov (.t 8)),
(25:Nat) (.mov (.t 9)),
.call (some 26) 17 [(.t 23), (.t 24), (.t 25)],
(11:Nat) (.mov (.t 26))] [10, 11])
(.seq (.reg [(27:Nat) (.mov (.t 11)),
(28:Nat) (.isnil false true (.t 27))] [10, 11, 28])
(.cond (.t 28) (.seq (.reg [(29:Nat) (.mov (.t 11)),
.call (some 30) 18 [(.t 29)],
(6:Nat) (.mov (.c .nils)),
(7:Nat) (.mov (.t 30))] [6, 7])
.ret)
.skip)))
(.seq (.reg [(31:Nat) (.mov (.t 10)),
(32:Nat) (.nilck (.t 31)),
(33:Nat) (.fld 0 (.t 32)),
(34:Nat) (.ld (.t 33)),
(6:Nat) (.mov (.t 34)),
(7:Nat) (.mov (0:Int))] [6, 7])
.ret))))))))
def F10 : VFn := { nt := 35, res := [.tmp 6, .tmp 7], body := c10 }
theorem is10 : compFn Tryd.prog (kz c10) 10 = some F10 := by kernel_rfl
def c12 : VC := (.seq (.reg [(4:Nat) (.mov (0:Int))] [0, 1])
(.seq (.seq (.reg [(5:Nat) (.mov (.t 1)),
(6:Nat) (.un .not (.t 5))] [0, 6])
(.cond (.t 6) (.seq (.reg [(4:Nat) (.mov (75:Int))] [4])
.ret)
.skip))
(.seq (.reg [(7:Nat) (.mov (.t 0)),
(8:Nat) (.conv .i64 (.t 7)),
(9:Nat) (.mm false (.t 8) (1:Int)),
(10:Nat) (.mm true (.t 9) (100:Int)),
(4:Nat) (.mov (.t 10))] [4])
.ret)))
def F12 : VFn := { nt := 11, res := [.tmp 4], body := c12 }
theorem is12 : compFn Tryd.prog (kz c12) 12 = some F12 := by kernel_rfl
def c14 : VC := (.seq (.reg [(2:Nat) (.mov (.c (.int .u32 0)))] [0])
(.seq (.reg [(4:Nat) (.mov (.t 0)),
(5:Nat) (.nilck (.t 4)),
(6:Nat) (.fld 1 (.t 5)),
(7:Nat) (.ld (.t 6)),
(8:Nat) (.conv .u32 (.t 7)),
(9:Nat) (.bin .mul (.t 8) (.c (.int .u32 2654435761))),
(10:Nat) (.bin .add (.t 9) (.c (.int .u32 12345))),
(3:Nat) (.mov (.t 10))] [0, 3])
(.seq (.seq (.reg [(11:Nat) (.mov (.t 0)),
(12:Nat) (.nilck (.t 11)),
(13:Nat) (.fld 0 (.t 12)),
(14:Nat) (.ld (.t 13)),
(15:Nat) (.len (.t 14)),
(16:Nat) (.bin .gtr (.t 15) (0:Int))] [0, 3, 16])
(.cond (.t 16) (.drq [(17:Nat) (.mov (.t 3)),
(18:Nat) (.mov (.t 0)),
(19:Nat) (.nilck (.t 18)),
(20:Nat) (.fld 0 (.t 19)),
(21:Nat) (.ld (.t 20)),
(22:Nat) (.mov (.t 0)),
(23:Nat) (.nilck (.t 22)),
(24:Nat) (.fld 1 (.t 23)),
(25:Nat) (.ld (.t 24)),
(26:Nat) (.mov (.t 0)),
(27:Nat) (.nilck (.t 26)),
(28:Nat) (.fld 0 (.t 27)),
(29:Nat) (.ld (.t 28)),
(30:Nat) (.len (.t 29)),
(31:Nat) (.bin .rem (.t 25) (.t 30)),
(32:Nat) (.idxS 1 (.t 21) (.t 31)),
(33:Nat) (.ld (.t 32)),
(34:Nat) (.mov (.t 0)),
(35:Nat) (.nilck (.t 34)),
(36:Nat) (.fld 1 (.t 35)),
(37:Nat) (.ld (.t 36)),
(38:Nat) (.mov (.t 0)),
(39:Nat) (.nilck (.t 38)),
(40:Nat) (.fld 0 (.t 39)),
(41:Nat) (.ld (.t 40)),
(42:Nat) (.len (.t 41)),
(43:Nat) (.bin .quo (.t 37) (.t 42)),
(44:Nat) (.conv .u32 (.t 43)),
(45:Nat) (.bin .mul (.c (.int .u32 2)) (.t 44)),
(46:Nat) (.bin .add (.c (.int .u32 40503)) (.t 45)),
(47:Nat) (.bin .mul (.t 33) (.t 46)),
(48:Nat) (.bin .xor (.t 17) (.t 47)),
(3:Nat) (.mov (.t 48))] [0, 3])
.skip))
(.seq (.reg [(49:Nat) (.mov (.t 0)),
(50:Nat) (.nilck (.t 49)),
(51:Nat) (.fld 1 (.t 50)),
(52:Nat) (.ld (.t 51)),
(53:Nat) (.bin .add (.t 52) (1:Int)),
(54:Nat) (.nilck (.t 49)),
(55:Nat) (.fld 1 (.t 54)),
.op none none (.st 1 (.t 55) (.t 53))] [3])
(.seq (.reg [(56:Nat) (.mov (.t 3)),
(57:Nat) (.mov (.t 3)),
(58:Nat) (.bin .shr (.t 57) (.c (.int .u64 15))),
(59:Nat) (.bin .xor (.t 56) (.t 58)),
(3:Nat) (.mov (.t 59))] [3])
(.seq (.reg [(60:Nat) (.mov (.t 3)),
(61:Nat) (.bin .mul (.t 60) (.c (.int .u32 2246822519))),
(3:Nat) (.mov (.t 61))] [3])
(.seq (.reg [(62:Nat) (.mov (.t 3)),
(63:Nat) (.mov (.t 3)),
(64:Nat) (.bin .shr (.t 63) (.c (.int .u64 13))),
(65:Nat) (.bin .xor (.t 62) (.t 64)),
(2:Nat) (.mov (.t 65))] [2])
.ret)))))))
def F14 : VFn := { nt := 66, res := [.tmp 2], body := c14 }
theorem is14 : compFn Tryd.prog (kz c14) 14 = some F14 := by kernel_rfl
def c15 : VC := (.seq (.reg [(2:Nat) (.mov (.c (.int .u8 0)))] [0])
(.seq (.reg [(3:Nat) (.mov (.t 0)),
(4:Nat) (.bin .shr (.t 3) (.c (.int .u64 16))),
(5:Nat) (.mm false (.t 4) (0:Int)),
(6:Nat) (.mm true (.t 5) (255:Int)),
(7:Nat) (.conv .u8 (.t 6)),
(2:Nat) (.mov (.t 7))] [2])
.ret))
def F15 : VFn := { nt := 8, res := [.tmp 2], body := c15 }
theorem is15 : compFn Tryd.prog (kz c15) 15 = some F15 := by kernel_rfl
def c16x : VC := (.seq (.drw [(156:Nat) (.fld 4 (.t 1)),
(157:Nat) (.ld (.t 156)),
(158:Nat) (.idxS 1 (.t 157) (0:Int)),
(159:Nat) (.ld (.t 158)),
(161:Nat) (.fld 4 (.t 1)),
(162:Nat) (.ld (.t 161)),
(163:Nat) (.idxS 1 (.t 162) (1:Int)),
(164:Nat) (.ld (.t 163)),
(166:Nat) (.fld 4 (.t 1)),
(167:Nat) (.ld (.t 166)),
(168:Nat) (.idxS 1 (.t 167) (2:Int)),
(169:Nat) (.ld (.t 168)),
(171:Nat) (.fld 1 (.t 1)),
(172:Nat) (.ld (.t 171)),
(173:Nat) (.mov (.t 5)),
(175:Nat) (.fld 3 (.t 1)),
(176:Nat) (.ld (.t 175)),
(179:Nat) (.ldA 4 (.t 3))] [(.call (some 160) 35 [(.t 159)], [(161:Nat) (.fld 4 (.t 1)),
(162:Nat) (.ld (.t 161)),
(163:Nat) (.idxS 1 (.t 162) (1:Int)),
(164:Nat) (.ld (.t 163)),
(166:Nat) (.fld 4 (.t 1)),
(167:Nat) (.ld (.t 166)),
(168:Nat) (.idxS 1 (.t 167) (2:Int)),
(169:Nat) (.ld (.t 168)),
(171:Nat) (.fld 1 (.t 1)),
(172:Nat) (.ld (.t 171)),
(173:Nat) (.mov (.t 5)),
(175:Nat) (.fld 3 (.t 1)),
(176:Nat) (.ld (.t 175)),
(179:Nat) (.ldA 4 (.t 3))], []), (.call (some 165) 35 [(.t 164)], [(166:Nat) (.fld 4 (.t 1)),
(167:Nat) (.ld (.t 166)),
(168:Nat) (.idxS 1 (.t 167) (2:Int)),
(169:Nat) (.ld (.t 168)),
(171:Nat) (.fld 1 (.t 1)),
(172:Nat) (.ld (.t 171)),
(173:Nat) (.mov (.t 5)),
(175:Nat) (.fld 3 (.t 1)),
(176:Nat) (.ld (.t 175)),
(179:Nat) (.ldA 4 (.t 3))], []), (.call (some 170) 35 [(.t 169)], [(171:Nat) (.fld 1 (.t 1)),
(172:Nat) (.ld (.t 171)),
(173:Nat) (.mov (.t 5)),
(175:Nat) (.fld 3 (.t 1)),
(176:Nat) (.ld (.t 175)),
(179:Nat) (.ldA 4 (.t 3))], []), (.call (some 174) 37 [], [(171:Nat) (.fld 1 (.t 1)),
(172:Nat) (.ld (.t 171)),
(173:Nat) (.mov (.t 5)),
(175:Nat) (.fld 3 (.t 1)),
(176:Nat) (.ld (.t 175)),
(179:Nat) (.ldA 4 (.t 3))], [(177:Nat) (.idxS 1 (.t 174) (.t 176)),
(178:Nat) (.ld (.t 177)),
(180:Nat) (.build (.agg [.nils, .nils, .nils, (.int .i64 0), (.int .i64 0), (.int .i64 0), (.int .i64 0), (.int .i64 0), (.int .i64 0), (.int .i64 0)]) [(0, 1, (.t 160)), (1, 1, (.t 165)), (2, 1, (.t 170)), (3, 1, (.t 172)), (4, 1, (.t 173)), (5, 1, (.t 178)), (6, 4, (.t 179))])]), ((181:Nat) (.box 104 (.t 180)), [], [(182:Nat) (.mkif 99 (.t 181)),
(2:Nat) (.mov (.t 182))])] [2])
.ret)
def c16y : VC := (.seq (.reg [(98:Nat) (.fld 0 (.t 1)),
(99:Nat) (.ld (.t 98)),
(100:Nat) (.bin .eql (.t 99) (2:Int)),
(101:Nat) (.mov (.t 100)),
.op (some (101, true)) (some 102) (.fld 4 (.t 1)),
.op (some (101, true)) (some 103) (.ld (.t 102)),
.op (some (101, true)) (some 104) (.len (.t 103)),
.op (some (101, true)) (some 105) (.bin .eql (.t 104) (3:Int)),
(106:Nat) (.pick (.t 101) (.t 105) (.c (.bool false))),
(107:Nat) (.mov (.t 106)),
.op (some (107, true)) (some 108) (.fld 3 (.t 1)),
.op (some (107, true)) (some 109) (.ld (.t 108)),
.op (some (107, true)) (some 110) (.bin .geq (.t 109) (0:Int)),
(111:Nat) (.pick (.t 107) (.t 110) (.c (.bool false))),
(112:Nat) (.mov (.t 111)),
.op (some (112, true)) (some 113) (.fld 3 (.t 1)),
.op (some (112, true)) (some 114) (.ld (.t 113)),
.op (some (112, true)) (some 115) (.bin .leq (.t 114) (5:Int)),
(116:Nat) (.pick (.t 112) (.t 115) (.c (.bool false))),
(97:Nat) (.mov (.t 116))] [1, 3, 4, 97, 135, 136, 137, 138, 139, 140, 141, 142, 143, 146, 147, 148, 149, 150, 151, 152, 153, 154])
(.cond (.t 97) (.seq (.reg [(118:Nat) (.fld 3 (.t 1)),
(119:Nat) (.ld (.t 118)),
(120:Nat) (.fld 1 (.t 1)),
(121:Nat) (.ld (.t 120)),
(122:Nat) (.fld 2 (.t 1)),
(123:Nat) (.ld (.t 122)),
.call (some 124) 36 [(.t 119), (.t 121), (.t 123)],
(117:Nat) (.mov (.t 124)),
(125:Nat) (.tupx (.t 117) 0),
(126:Nat) (.tupx (.t 117) 1),
(5:Nat) (.mov (.t 125)),
(6:Nat) (.mov (.t 126))] [1, 3, 4, 5, 6, 135, 136, 137, 138, 139, 140, 141, 142, 143, 146, 147, 148, 149, 150, 151, 152, 153, 154])
(.seq (.seq (.reg [(127:Nat) (.fld 4 (.t 1)),
(128:Nat) (.ld (.t 127)),
(129:Nat) (.idxS 1 (.t 128) (0:Int)),
(130:Nat) (.ld (.t 129)),
(131:Nat) (.len (.t 130)),
(132:Nat) (.mov (.t 4)),
(133:Nat) (.bin .neq (.t 131) (.t 132)),
(134:Nat) (.mov (.t 133)),
.op (some (134, false)) (some 135) (.fld 4 (.t 1)),
.op (some (134, false)) (some 136) (.ld (.t 135)),
.op (some (134, false)) (some 137) (.idxS 1 (.t 136) (1:Int)),
.op (some (134, false)) (some 138) (.ld (.t 137)),
.op (some (134, false)) (some 139) (.len (.t 138)),
.op (some (134, false)) (some 140) (.mov (.t 5)),
.op (some (134, false)) (some 141) (.mov (.t 6)),
.op (some (134, false)) (some 142) (.bin .mul (.t 140) (.t 141)),
.op (some (134, false)) (some 143) (.bin .neq (.t 139) (.t 142)),
(144:Nat) (.pick (.t 134) (.c (.bool true)) (.t 143)),
(145:Nat) (.mov (.t 144)),
.op (some (145, false)) (some 146) (.fld 4 (.t 1)),
.op (some (145, false)) (some 147) (.ld (.t 146)),
.op (some (145, false)) (some 148) (.idxS 1 (.t 147) (2:Int)),
.op (some (145, false)) (some 149) (.ld (.t 148)),
.op (some (145, false)) (some 150) (.len (.t 149)),
.op (some (145, false)) (some 151) (.mov (.t 5)),
.op (some (145, false)) (some 152) (.mov (.t 6)),
.op (some (145, false)) (some 153) (.bin .mul (.t 151) (.t 152)),
.op (some (145, false)) (some 154) (.bin .neq (.t 150) (.t 153)),
(155:Nat) (.pick (.t 145) (.c (.bool true)) (.t 154))] [1, 3, 5, 155])
(.cond (.t 155) (.seq (.reg [(2:Nat) (.mov (.c .nili))] [2])
.ret)
.skip))
  c16x))
.skip))
def c16 : VC := (.seq (.reg [(1:Nat) (.box 30 (.t 0)),
(2:Nat) (.mov (.c .nili))] [1, 11, 12, 13, 16, 17, 18, 21, 22, 23, 40, 41, 42, 43, 46, 47, 48, 49, 50, 51, 52, 70, 71, 72, 73, 76, 77, 78, 79, 80, 81, 82, 83, 102, 103, 104, 105, 108, 109, 110, 113, 114, 115, 135, 136, 137, 138, 139, 140, 141, 142, 143, 146, 147, 148, 149, 150, 151, 152, 153, 154])
(.seq (.seq (.reg [(7:Nat) (.fld 1 (.t 1)),
(8:Nat) (.ld (.t 7)),
(9:Nat) (.bin .lss (.t 8) (0:Int)),
(10:Nat) (.mov (.t 9)),
.op (some (10, false)) (some 11) (.fld 1 (.t 1)),
.op (some (10, false)) (some 12) (.ld (.t 11)),
.op (some (10, false)) (some 13) (.bin .gtr (.t 12) (100:Int)),
(14:Nat) (.pick (.t 10) (.c (.bool true)) (.t 13)),
(15:Nat) (.mov (.t 14)),
.op (some (15, false)) (some 16) (.fld 2 (.t 1)),
.op (some (15, false)) (some 17) (.ld (.t 16)),
.op (some (15, false)) (some 18) (.bin .lss (.t 17) (0:Int)),
(19:Nat) (.pick (.t 15) (.c (.bool true)) (.t 18)),
(20:Nat) (.mov (.t 19)),
.op (some (20, false)) (some 21) (.fld 2 (.t 1)),
.op (some (20, false)) (some 22) (.ld (.t 21)),
.op (some (20, false)) (some 23) (.bin .gtr (.t 22) (100:Int)),
(24:Nat) (.pick (.t 20) (.c (.bool true)) (.t 23))] [1, 24, 40, 41, 42, 43, 46, 47, 48, 49, 50, 51, 52, 70, 71, 72, 73, 76, 77, 78, 79, 80, 81, 82, 83, 102, 103, 104, 105, 108, 109, 110, 113, 114, 115, 135, 136, 137, 138, 139, 140, 141, 142, 143, 146, 147, 148, 149, 150, 151, 152, 153, 154])
(.cond (.t 24) (.seq (.reg [(2:Nat) (.mov (.c .nili))] [2])
.ret)
.skip))
(.seq (.reg [(25:Nat) (.fld 1 (.t 1)),
(26:Nat) (.ld (.t 25)),
(27:Nat) (.fld 2 (.t 1)),
(28:Nat) (.ld (.t 27)),
.call (some 29) 34 [(0:Int), (0:Int), (.t 26), (.t 28)],
(3:Nat) (.alloc (.own [(.int .i64 0), (.int .i64 0), (.int .i64 0), (.int .i64 0)] 89)),
.op none none (.st 4 (.t 3) (.t 29))] [1, 3, 40, 41, 42, 43, 46, 47, 48, 49, 50, 51, 52, 70, 71, 72, 73, 76, 77, 78, 79, 80, 81, 82, 83, 102, 103, 104, 105, 108, 109, 110, 113, 114, 115, 135, 136, 137, 138, 139, 140, 141, 142, 143, 146, 147, 148, 149, 150, 151, 152, 153, 154])
(.seq (.reg [(30:Nat) (.fld 1 (.t 1)),
(31:Nat) (.ld (.t 30)),
(32:Nat) (.fld 2 (.t 1)),
(33:Nat) (.ld (.t 32)),
(34:Nat) (.bin .mul (.t 31) (.t 33)),
(4:Nat) (.mov (.t 34))] [1, 3, 4, 40, 41, 42, 43, 46, 47, 48, 49, 50, 51, 52, 70, 71, 72, 73, 76, 77, 78, 79, 80, 81, 82, 83, 102, 103, 104, 105, 108, 109, 110, 113, 114, 115, 135, 136, 137, 138, 139, 140, 141, 142, 143, 146, 147, 148, 149, 150, 151, 152, 153, 154])
(.seq (.block 0 (.seq (.reg [(36:Nat) (.fld 0 (.t 1)),
(37:Nat) (.ld (.t 36)),
(38:Nat) (.bin .eql (.t 37) (1:Int)),
(39:Nat) (.mov (.t 38)),
.op (some (39, true)) (some 40) (.fld 4 (.t 1)),
.op (some (39, true)) (some 41) (.ld (.t 40)),
.op (some (39, true)) (some 42) (.len (.t 41)),
.op (some (39, true)) (some 43) (.bin .eql (.t 42) (1:Int)),
(44:Nat) (.pick (.t 39) (.t 43) (.c (.bool false))),
(45:Nat) (.mov (.t 44)),
.op (some (45, true)) (some 46) (.fld 4 (.t 1)),
.op (some (45, true)) (some 47) (.ld (.t 46)),
.op (some (45, true)) (some 48) (.idxS 1 (.t 47) (0:Int)),
.op (some (45, true)) (some 49) (.ld (.t 48)),
.op (some (45, true)) (some 50) (.len (.t 49)),
.op (some (45, true)) (some 51) (.mov (.t 4)),
.op (some (45, true)) (some 52) (.bin .eql (.t 50) (.t 51)),
(53:Nat) (.pick (.t 45) (.t 52) (.c (.bool false))),
(35:Nat) (.mov (.t 53))] [1, 3, 4, 35, 70, 71, 72, 73, 76, 77, 78, 79, 80, 81, 82, 83, 102, 103, 104, 105, 108, 109, 110, 113, 114, 115, 135, 136, 137, 138, 139, 140, 141, 142, 143, 146, 147, 148, 149, 150, 151, 152, 153, 154])
(.cond (.t 35) (.seq (.drw [(54:Nat) (.fld 4 (.t 1)),
(55:Nat) (.ld (.t 54)),
(56:Nat) (.idxS 1 (.t 55) (0:Int)),
(57:Nat) (.ld (.t 56)),
(59:Nat) (.fld 1 (.t 1)),
(60:Nat) (.ld (.t 59)),
(61:Nat) (.ldA 4 (.t 3))] [(.call (some 58) 35 [(.t 57)], [(59:Nat) (.fld 1 (.t 1)),
(60:Nat) (.ld (.t 59)),
(61:Nat) (.ldA 4 (.t 3))], [(62:Nat) (.build (.agg [.nils, (.int .i64 0), (.int .i64 0), (.int .i64 0), (.int .i64 0), (.int .i64 0)]) [(0, 1, (.t 58)), (1, 1, (.t 60)), (2, 4, (.t 61))])]), ((63:Nat) (.box 94 (.t 62)), [], [(64:Nat) (.mkif 91 (.t 63)),
(2:Nat) (.mov (.t 64))])] [2])
.ret)
(.seq (.reg [(66:Nat) (.fld 0 (.t 1)),
(67:Nat) (.ld (.t 66)),
(68:Nat) (.bin .eql (.t 67) (3:Int)),
(69:Nat) (.mov (.t 68)),
.op (some (69, true)) (some 70) (.fld 4 (.t 1)),
.op (some (69, true)) (some 71) (.ld (.t 70)),
.op (some (69, true)) (some 72) (.len (.t 71)),
.op (some (69, true)) (some 73) (.bin .eql (.t 72) (1:Int)),
(74:Nat) (.pick (.t 69) (.t 73) (.c (.bool false))),
(75:Nat) (.mov (.t 74)),
.op (some (75, true)) (some 76) (.fld 4 (.t 1)),
.op (some (75, true)) (some 77) (.ld (.t 76)),
.op (some (75, true)) (some 78) (.idxS 1 (.t 77) (0:Int)),
.op (some (75, true)) (some 79) (.ld (.t 78)),
.op (some (75, true)) (some 80) (.len (.t 79)),
.op (some (75, true)) (some 81) (.mov (.t 4)),
.op (some (75, true)) (some 82) (.bin .mul (4:Int) (.t 81)),
.op (some (75, true)) (some 83) (.bin .eql (.t 80) (.t 82)),
(84:Nat) (.pick (.t 75) (.t 83) (.c (.bool false))),
(65:Nat) (.mov (.t 84))] [1, 3, 4, 65, 102, 103, 104, 105, 108, 109, 110, 113, 114, 115, 135, 136, 137, 138, 139, 140, 141, 142, 143, 146, 147, 148, 149, 150, 151, 152, 153, 154])
(.cond (.t 65) (.seq (.drw [(85:Nat) (.fld 4 (.t 1)),
(86:Nat) (.ld (.t 85)),
(87:Nat) (.idxS 1 (.t 86) (0:Int)),
(88:Nat) (.ld (.t 87)),
(90:Nat) (.fld 1 (.t 1)),
(91:Nat) (.ld (.t 90)),
(92:Nat) (.bin .mul (4:Int) (.t 91)),
(93:Nat) (.ldA 4 (.t 3))] [(.call (some 89) 35 [(.t 88)], [(90:Nat) (.fld 1 (.t 1)),
(91:Nat) (.ld (.t 90)),
(92:Nat) (.bin .mul (4:Int) (.t 91)),
(93:Nat) (.ldA 4 (.t 3))], [(94:Nat) (.build (.agg [.nils, (.int .i64 0), (.int .i64 0), (.int .i64 0), (.int .i64 0), (.int .i64 0)]) [(0, 1, (.t 89)), (1, 1, (.t 92)), (2, 4, (.t 93))])]), ((95:Nat) (.box 96 (.t 94)), [], [(96:Nat) (.mkif 95 (.t 95)),
(2:Nat) (.mov (.t 96))])] [2])
.ret)
  c16y)))))
(.seq (.reg [(2:Nat) (.mov (.c .nili))] [2])
.ret))))))
def F16 : VFn := { nt := 183, res := [.tmp 2], body := c16 }
theorem is16 : compFn Tryd.prog (kz c16) 16 = some F16 := by kernel_rfl
def c34 : VC := (.seq (.reg [(8:Nat) (.alloc (.own [(.int .i64 0), (.int .i64 0), (.int .i64 0), (.int .i64 0)] 89))] [0, 1, 2, 3, 8])
(.seq (.seq (.reg [(9:Nat) (.mov (.t 0)),
(10:Nat) (.mov (.t 2)),
(11:Nat) (.bin .gtr (.t 9) (.t 10))] [0, 1, 2, 3, 8, 11])
(.cond (.t 11) (.reg [(12:Nat) (.mov (.t 2)),
(13:Nat) (.mov (.t 0)),
(0:Nat) (.mov (.t 12)),
(2:Nat) (.mov (.t 13))] [0, 1, 2, 3, 8])
.skip))
(.seq (.seq (.reg [(14:Nat) (.mov (.t 1)),
(15:Nat) (.mov (.t 3)),
(16:Nat) (.bin .gtr (.t 14) (.t 15))] [0, 1, 2, 3, 8, 16])
(.cond (.t 16) (.reg [(17:Nat) (.mov (.t 3)),
(18:Nat) (.mov (.t 1)),
(1:Nat) (.mov (.t 17)),
(3:Nat) (.mov (.t 18))] [0, 1, 2, 3, 8])
.skip))
(.seq (.reg [(19:Nat) (.mov (.t 0)),
(20:Nat) (.mov (.t 1)),
(21:Nat) (.build (.agg [(.int .i64 0), (.int .i64 0)]) [(0, 1, (.t 19)), (1, 1, (.t 20))]),
(22:Nat) (.mov (.t 2)),
(23:Nat) (.mov (.t 3)),
(24:Nat) (.build (.agg [(.int .i64 0), (.int .i64 0)]) [(0, 1, (.t 22)), (1, 1, (.t 23))]),
(25:Nat) (.build (.agg [(.int .i64 0), (.int .i64 0), (.int .i64 0), (.int .i64 0)]) [(0, 2, (.t 21)), (2, 2, (.t 24))]),
.op none none (.st 4 (.t 8) (.t 25))] [8])
.ret))))
def F34 : VFn := { nt := 26, res := [.cells 8 4], body := c34 }
theorem is34 : compFn Tryd.prog (kz c34) 34 = some F34 := by kernel_rfl
def c35 : VC := (.seq (.reg [(2:Nat) (.mov (.c .nils))] [0])
(.seq (.seq (.reg [(3:Nat) (.mov (.t 0)),
(4:Nat) (.isnils false (.t 3))] [0, 4])
(.cond (.t 4) (.seq (.reg [(2:Nat) (.mov (.c .nils))] [2])
.ret)
.skip))
(.seq (.reg [(5:Nat) (.bsl 5 0 (.ints .u8 []) []),
(6:Nat) (.mov (.t 0)),
.app (some 7) .u8 5 (.t 5) (.t 6),
(2:Nat) (.mov (.t 7))] [2])
.ret)))
def F35 : VFn := { nt := 8, res := [.tmp 2], body := c35 }
theorem is35 : compFn Tryd.prog (kz c35) 35 = some F35 := by kernel_rfl
def c36 : VC := (.seq (.reg [(6:Nat) (.mov (0:Int)),
(7:Nat) (.mov (0:Int))] [0, 1, 2])
(.seq (.seq (.reg [(8:Nat) (.mov (.t 0))] [1, 2, 8])
(.block 0 (.seq (.reg [(10:Nat) (.bin .eql (.t 8) (1:Int)),
(9:Nat) (.mov (.t 10))] [1, 2, 8, 9])
(.cond (.t 9) (.seq (.reg [(11:Nat) (.mov (.t 1)),
(12:Nat) (.bin .add (.t 11) (1:Int)),
(13:Nat) (.bin .quo (.t 12) (2:Int)),
(14:Nat) (.mov (.t 2)),
(6:Nat) (.mov (.t 13)),
(7:Nat) (.mov (.t 14))] [6, 7])
.ret)
(.seq (.reg [(16:Nat) (.bin .eql (.t 8) (2:Int)),
(15:Nat) (.mov (.t 16))] [1, 2, 8, 15])
(.cond (.t 15) (.seq (.reg [(17:Nat) (.mov (.t 1)),
(18:Nat) (.bin .add (.t 17) (1:Int)),
(19:Nat) (.bin .quo (.t 18) (2:Int)),
(20:Nat) (.mov (.t 2)),
(21:Nat) (.bin .add (.t 20) (1:Int)),
(22:Nat) (.bin .quo (.t 21) (2:Int)),
(6:Nat) (.mov (.t 19)),
(7:Nat) (.mov (.t 22))] [6, 7])
.ret)
(.seq (.reg [(24:Nat) (.bin .eql (.t 8) (3:Int)),
(23:Nat) (.mov (.t 24))] [1, 2, 8, 23])
(.cond (.t 23) (.seq (.reg [(25:Nat) (.mov (.t 1)),
(26:Nat) (.mov (.t 2)),
(27:Nat) (.bin .add (.t 26) (1:Int)),
(28:Nat) (.bin .quo (.t 27) (2:Int)),
(6:Nat) (.mov (.t 25)),
(7:Nat) (.mov (.t 28))] [6, 7])
.ret)
(.seq (.reg [(30:Nat) (.bin .eql (.t 8) (4:Int)),
(29:Nat) (.mov (.t 30))] [1, 2, 8, 29])
(.cond (.t 29) (.seq (.reg [(31:Nat) (.mov (.t 1)),
(32:Nat) (.bin .add (.t 31) (3:Int)),
(33:Nat) (.bin .quo (.t 32) (4:Int)),
(34:Nat) (.mov (.t 2)),
(6:Nat) (.mov (.t 33)),
(7:Nat) (.mov (.t 34))] [6, 7])
.ret)
(.seq (.reg [(36:Nat) (.bin .eql (.t 8) (5:Int)),
(35:Nat) (.mov (.t 36))] [1, 2, 35])
(.cond (.t 35) (.seq (.reg [(37:Nat) (.mov (.t 1)),
(38:Nat) (.bin .add (.t 37) (3:Int)),
(39:Nat) (.bin .quo (.t 38) (4:Int)),
(40:Nat) (.mov (.t 2)),
(41:Nat) (.bin .add (.t 40) (1:Int)),
(42:Nat) (.bin .quo (.t 41) (2:Int)),
(6:Nat) (.mov (.t 39)),
(7:Nat) (.mov (.t 42))] [6, 7])
.ret)
.skip))))))))))))
(.seq (.reg [(43:Nat) (.mov (.t 1)),
(44:Nat) (.mov (.t 2)),
(6:Nat) (.mov (.t 43)),
(7:Nat) (.mov (.t 44))] [6, 7])
.ret)))
def F36 : VFn := { nt := 45, res := [.tmp 6, .tmp 7], body := c36 }
theorem is36 : compFn Tryd.prog (kz c36) 36 = some F36 := by kernel_rfl
def c37 : VC := (.seq (.reg [(0:Nat) (.mov (.c .nils))] [])
(.seq (.reg [(1:Nat) (.bsl 100 6 (.ints .i64 (List.replicate 6 0)) [(0, 1, (0:Int)), (1, 1, (1:Int)), (2, 1, (2:Int)), (3, 1, (3:Int)), (4, 1, (4:Int)), (5, 1, (5:Int))]),
(0:Nat) (.mov (.t 1))] [0])
.ret))
def F37 : VFn := { nt := 2, res := [.tmp 0], body := c37 }
theorem is37 : compFn Tryd.prog (kz c37) 37 = some F37 := by kernel_rfl
def c38 : VC := (.seq (.reg [(1:Nat) (.box 89 (.t 0)),
(2:Nat) (.mov (0:Int))] [1])
(.seq (.reg [(3:Nat) (.fld 2 (.t 1)),
(4:Nat) (.fld 0 (.t 3)),
(5:Nat) (.ld (.t 4)),
(6:Nat) (.fld 0 (.t 1)),
(7:Nat) (.fld 0 (.t 6)),
(8:Nat) (.ld (.t 7)),
(9:Nat) (.bin .sub (.t 5) (.t 8)),
(2:Nat) (.mov (.t 9))] [2])
.ret))
def F38 : VFn := { nt := 10, res := [.tmp 2], body := c38 }
theorem is38 : compFn Tryd.prog (kz c38) 38 = some F38 := by kernel_rfl
def c39 : VC := (.seq (.reg [(1:Nat) (.box 89 (.t 0)),
(2:Nat) (.mov (0:Int))] [1])
(.seq (.reg [(3:Nat) (.fld 2 (.t 1)),
(4:Nat) (.fld 1 (.t 3)),
(5:Nat) (.ld (.t 4)),
(6:Nat) (.fld 0 (.t 1)),
(7:Nat) (.fld 1 (.t 6)),
(8:Nat) (.ld (.t 7)),
(9:Nat) (.bin .sub (.t 5) (.t 8)),
(2:Nat) (.mov (.t 9))] [2])
.ret))
def F39 : VFn := { nt := 10, res := [.tmp 2], body := c39 }
theorem is39 : compFn Tryd.prog (kz c39) 39 = some F39 := by kernel_rfl
end Go.VM
