/-
  A part of a small machine over the model, or of a walk by it, proved right against the model. Proved outright, under no condition but what each theorem names.
-/
import Derived.Test.YtahmhofnilgfgaaVO
import Derived.Test.YtahmhofnilgfgaaChecked
namespace Go.VM
open Go Go.Proofs

/-! loop.example/pub-g03469/spec.Inverse -/
def h6 : List (Nat × List Nat) := [(0, [1, 2]), (1, [2])]
def c6 : VC := (.seq (.reg [.op none (some 1) (.box 23 (.t 0)),
    .op none (some 2) (.alloc (.ints .i32 (List.replicate 64 0) 23))] [1, 2])
  (.seq (.reg [.op none (some 3) (.ldA 64 (.t 1)),
    .call (some 4) 13 [(.t 3), (.c (.bool false)), (.c (.fn 14 []))],
    .call (some 5) 13 [(.t 4), (.c (.bool true)), (.c (.fn 15 []))],
    .op none none (.st 64 (.t 2) (.t 5))] [2])
  .ret))

def F6 : VFn := { nt := 6, res := [.cells 2 64], body := c6 }
theorem is6 : compFn Try.prog h6 6 = some F6 := by kernel_rfl

/-! loop.example/pub-g03469/spec.Forward -/
def h8 : List (Nat × List Nat) := [(0, [1, 2]), (1, [2])]
def c8 : VC := (.seq (.reg [.op none (some 1) (.box 23 (.t 0)),
    .op none (some 2) (.alloc (.ints .i32 (List.replicate 64 0) 23))] [1, 2])
  (.seq (.reg [.op none (some 3) (.ldA 64 (.t 1)),
    .call (some 4) 13 [(.t 3), (.c (.bool true)), (.c (.fn 17 []))],
    .call (some 5) 13 [(.t 4), (.c (.bool false)), (.c (.fn 18 []))],
    .op none none (.st 64 (.t 2) (.t 5))] [2])
  .ret))

def F8 : VFn := { nt := 6, res := [.cells 2 64], body := c8 }
theorem is8 : compFn Try.prog h8 8 = some F8 := by kernel_rfl

/-! loop.example/pub-g03469/pub/jpeg.ZZInverse -/
def h12 : List (Nat × List Nat) := [(0, [1, 2]), (1, [2, 3]), (2, [2, 3]), (3, [2])]
def c12 : VC := (.seq (.reg [.op none (some 1) (.box 23 (.t 0)),
    .op none (some 2) (.alloc (.ints .i32 (List.replicate 64 0) 23))] [1, 2])
  (.seq (.reg [.op none (some 4) (.ldA 64 (.t 1)),
    .op none (some 3) (.alloc (.ints .i32 (List.replicate 64 0) 37)),
    .op none none (.st 64 (.t 3) (.t 4))] [2, 3])
  (.seq (.reg [.call (some 5) 19 [(.t 3)]] [2, 3])
  (.seq (.reg [.op none (some 6) (.ldA 64 (.t 3)),
    .op none none (.st 64 (.t 2) (.t 6))] [2])
  .ret))))

def F12 : VFn := { nt := 7, res := [.cells 2 64], body := c12 }
theorem is12 : compFn Try.prog h12 12 = some F12 := by kernel_rfl

/-! loop.example/pub-g03469/spec.lines -/
def h13 : List (Nat × List Nat) := [(0, [2, 3, 4, 6]), (1, [2, 3, 4, 6, 13]), (2, [2, 3, 4, 6, 13, 14]), (3, [2, 3, 4, 6, 7, 13]), (4, [2, 3, 4, 6, 7, 8, 13]), (5, [2, 3, 4, 6, 8, 9, 13]), (6, [2, 3, 4, 6, 8, 9, 13, 18]), (7, [2, 3, 4, 6, 8, 9, 13, 18, 19]), (8, [2, 3, 4, 6, 8, 9, 10, 13, 18]), (9, [2, 3, 4, 6, 8, 9, 13, 18]), (10, [2, 3, 4, 6, 8, 9, 13, 18]), (11, [2, 3, 4, 6, 9, 13, 31, 32]), (12, [2, 3, 4, 6, 9, 13, 31, 32, 33]), (13, [2, 3, 4, 6, 9, 11, 12, 13, 31, 32]), (14, [2, 3, 4, 6, 9, 13, 31, 32]), (15, [2, 3, 4, 6, 9, 13, 31, 32]), (16, [2, 3, 4, 6, 13]), (17, [6])]
def c13l0 : VC := (.seq (.reg [.op none (some 19) (.bin .lss (.t 18) (.c (.int .i64 8)))] [2, 3, 4, 6, 8, 9, 13, 18, 19])
  (.seq (.cond (.t 19) .skip
  (.exit 2))
  (.seq (.block 3 (.seq (.reg [.op none (some 20) (.mov (.t 18)),
    .op none (some 10) (.mov (.t 20))] [2, 3, 4, 6, 8, 9, 10, 13, 18])
  (.reg [.op none (some 21) (.mov (.t 10)),
    .op none (some 22) (.mov (.t 9)),
    .op none (some 23) (.mov (.t 10)),
    .callv (some 24) (.t 22) [(.t 23)],
    .op none (some 25) (.idxA 64 1 (.t 3) (.t 24)),
    .op none (some 26) (.ld (.t 25)),
    .op none (some 27) (.idxA 8 1 (.t 8) (.t 21)),
    .op none none (.st 1 (.t 27) (.t 26))] [2, 3, 4, 6, 8, 9, 13, 18])))
  (.reg [.op none (some 28) (.bin .add (.t 18) (.c (.int .i64 1))),
    .op none (some 18) (.mov (.t 28))] [2, 3, 4, 6, 8, 9, 13, 18]))))

def c13l1 : VC := (.seq (.reg [.op none (some 33) (.bin .lss (.t 32) (.c (.int .i64 8)))] [2, 3, 4, 6, 9, 13, 31, 32, 33])
  (.seq (.cond (.t 33) .skip
  (.exit 4))
  (.seq (.block 5 (.seq (.reg [.op none (some 34) (.mov (.t 32)),
    .op none (some 35) (.idxV false 8 1 (.t 31) (.t 32)),
    .op none (some 11) (.mov (.t 34)),
    .op none (some 12) (.mov (.t 35))] [2, 3, 4, 6, 9, 11, 12, 13, 31, 32])
  (.reg [.op none (some 36) (.mov (.t 9)),
    .op none (some 37) (.mov (.t 11)),
    .callv (some 38) (.t 36) [(.t 37)],
    .op none (some 39) (.mov (.t 12)),
    .op none (some 40) (.idxA 64 1 (.t 3) (.t 38)),
    .op none none (.st 1 (.t 40) (.t 39))] [2, 3, 4, 6, 9, 13, 31, 32])))
  (.reg [.op none (some 41) (.bin .add (.t 32) (.c (.int .i64 1))),
    .op none (some 32) (.mov (.t 41))] [2, 3, 4, 6, 9, 13, 31, 32]))))

def c13l2 : VC := (.seq (.reg [.op none (some 14) (.bin .lss (.t 13) (.c (.int .i64 8)))] [2, 3, 4, 6, 13, 14])
  (.seq (.cond (.t 14) .skip
  (.exit 0))
  (.seq (.block 1 (.seq (.reg [.op none (some 15) (.mov (.t 13)),
    .op none (some 7) (.alloc (.own [(.int .i64 0)] 3)),
    .op none none (.st 1 (.t 7) (.t 15))] [2, 3, 4, 6, 7, 13])
  (.seq (.reg [.op none (some 16) (.build (.ints .i32 (List.replicate 8 0)) []),
    .op none (some 8) (.alloc (.ints .i32 (List.replicate 8 0) 40)),
    .op none none (.st 8 (.t 8) (.t 16))] [2, 3, 4, 6, 7, 8, 13])
  (.seq (.reg [.op none (some 17) (.mkfn 20 [(.t 4), (.t 7)]),
    .op none (some 9) (.mov (.t 17))] [2, 3, 4, 6, 8, 9, 13])
  (.seq (.seq (.reg [.op none (some 18) (.mov (.c (.int .i64 0)))] [2, 3, 4, 6, 8, 9, 13, 18])
  (.block 2 (.loop c13l0)))
  (.seq (.reg [.op none (some 29) (.mov (.t 2)),
    .op none (some 30) (.ldA 8 (.t 8)),
    .callv (some 31) (.t 29) [(.t 30)],
    .op none (some 32) (.mov (.c (.int .i64 0)))] [2, 3, 4, 6, 9, 13, 31, 32])
  (.block 4 (.loop c13l1))))))))
  (.reg [.op none (some 42) (.bin .add (.t 13) (.c (.int .i64 1))),
    .op none (some 13) (.mov (.t 42))] [2, 3, 4, 6, 13]))))

def c13 : VC := (.seq (.reg [.op none (some 3) (.box 23 (.t 0)),
    .op none (some 4) (.box 4 (.t 1)),
    .op none (some 6) (.alloc (.ints .i32 (List.replicate 64 0) 23))] [2, 3, 4, 6])
  (.seq (.seq (.reg [.op none (some 13) (.mov (.c (.int .i64 0)))] [2, 3, 4, 6, 13])
  (.block 0 (.loop c13l2)))
  (.seq (.reg [.op none (some 43) (.ldA 64 (.t 3)),
    .op none none (.st 64 (.t 6) (.t 43))] [6])
  .ret)))

def F13 : VFn := { nt := 44, res := [.cells 6 64], body := c13 }
theorem is13 : compFn Try.prog h13 13 = some F13 := by kernel_rfl

/-! loop.example/pub-g03469/spec.rowBack -/
def h14 : List (Nat × List Nat) := [(0, [1, 2]), (1, [2, 3, 4, 5, 6, 7, 8, 9, 10]), (2, [2, 3, 4, 5, 6, 7, 8, 9, 10]), (3, [2, 3, 4, 5, 6, 7, 8, 9, 10]), (4, [2, 3, 4, 5, 6, 7, 8, 9, 10]), (5, [2, 3, 4, 5, 6, 7, 8, 9, 10]), (6, [2, 3, 4, 5, 6, 7, 8, 9, 10]), (7, [2, 3, 4, 5, 6, 7, 8, 9, 10]), (8, [2, 3, 4, 5, 6, 7, 8, 9, 10]), (9, [2, 3, 4, 5, 6, 7, 8, 9, 10]), (10, [2, 3, 4, 5, 6, 7, 8, 9, 10]), (11, [2, 3, 4, 5, 6, 7, 8, 9, 10]), (12, [2, 3, 4, 5, 6, 7, 8, 9, 10]), (13, [2, 3, 4, 5, 6, 7, 8, 9, 10]), (14, [2, 3, 4, 5, 6, 7, 8, 9, 10]), (15, [2, 3, 4, 5, 6, 7, 8, 9, 10]), (16, [2, 3, 4, 5, 6, 7, 8, 9, 10]), (17, [2])]
def c14 : VC := (.seq (.reg [.op none (some 1) (.box 40 (.t 0)),
    .op none (some 2) (.alloc (.ints .i32 (List.replicate 8 0) 40))] [1, 2])
  (.seq (.drq [.op none (some 11) (.idxA 8 1 (.t 1) (.c (.int .i64 0))),
    .op none (some 12) (.ld (.t 11)),
    .op none (some 13) (.idxA 8 1 (.t 1) (.c (.int .i64 1))),
    .op none (some 14) (.ld (.t 13)),
    .op none (some 15) (.idxA 8 1 (.t 1) (.c (.int .i64 2))),
    .op none (some 16) (.ld (.t 15)),
    .op none (some 17) (.idxA 8 1 (.t 1) (.c (.int .i64 3))),
    .op none (some 18) (.ld (.t 17)),
    .op none (some 19) (.idxA 8 1 (.t 1) (.c (.int .i64 4))),
    .op none (some 20) (.ld (.t 19)),
    .op none (some 21) (.idxA 8 1 (.t 1) (.c (.int .i64 5))),
    .op none (some 22) (.ld (.t 21)),
    .op none (some 23) (.idxA 8 1 (.t 1) (.c (.int .i64 6))),
    .op none (some 24) (.ld (.t 23)),
    .op none (some 25) (.idxA 8 1 (.t 1) (.c (.int .i64 7))),
    .op none (some 26) (.ld (.t 25)),
    .op none (some 3) (.mov (.t 12)),
    .op none (some 4) (.mov (.t 14)),
    .op none (some 5) (.mov (.t 16)),
    .op none (some 6) (.mov (.t 18)),
    .op none (some 7) (.mov (.t 20)),
    .op none (some 8) (.mov (.t 22)),
    .op none (some 9) (.mov (.t 24)),
    .op none (some 10) (.mov (.t 26))] [2, 3, 4, 5, 6, 7, 8, 9, 10])
  (.seq (.reg [.op none (some 28) (.mov (.t 3)),
    .op none (some 29) (.bin .shl (.t 28) (.c (.int .u64 17))),
    .op none (some 30) (.mov (.t 7)),
    .op none (some 31) (.bin .shl (.t 30) (.c (.int .u64 17))),
    .call (some 32) 21 [(.t 29), (.t 31)],
    .op none (some 27) (.mov (.t 32)),
    .op none (some 33) (.tupx (.t 27) 0),
    .op none (some 34) (.tupx (.t 27) 1),
    .op none (some 3) (.mov (.t 33)),
    .op none (some 7) (.mov (.t 34))] [2, 3, 4, 5, 6, 7, 8, 9, 10])
  (.seq (.reg [.op none (some 36) (.mov (.t 5)),
    .op none (some 37) (.mov (.t 9)),
    .call (some 38) 22 [(.t 36), (.t 37), (.c (.int .i32 70936)), (.c (.int .i32 (-171254)))],
    .op none (some 35) (.mov (.t 38)),
    .op none (some 39) (.tupx (.t 35) 0),
    .op none (some 40) (.tupx (.t 35) 1),
    .op none (some 5) (.mov (.t 39)),
    .op none (some 9) (.mov (.t 40))] [2, 3, 4, 5, 6, 7, 8, 9, 10])
  (.seq (.reg [.op none (some 42) (.mov (.t 7)),
    .op none (some 43) (.mov (.t 5)),
    .call (some 44) 21 [(.t 42), (.t 43)],
    .op none (some 41) (.mov (.t 44)),
    .op none (some 45) (.tupx (.t 41) 0),
    .op none (some 46) (.tupx (.t 41) 1),
    .op none (some 7) (.mov (.t 45)),
    .op none (some 5) (.mov (.t 46))] [2, 3, 4, 5, 6, 7, 8, 9, 10])
  (.seq (.reg [.op none (some 48) (.mov (.t 3)),
    .op none (some 49) (.mov (.t 9)),
    .call (some 50) 21 [(.t 48), (.t 49)],
    .op none (some 47) (.mov (.t 50)),
    .op none (some 51) (.tupx (.t 47) 0),
    .op none (some 52) (.tupx (.t 47) 1),
    .op none (some 3) (.mov (.t 51)),
    .op none (some 9) (.mov (.t 52))] [2, 3, 4, 5, 6, 7, 8, 9, 10])
  (.seq (.reg [.op none (some 54) (.mov (.t 4)),
    .op none (some 55) (.bin .shl (.t 54) (.c (.int .u64 7))),
    .op none (some 56) (.mov (.t 10)),
    .op none (some 57) (.bin .shl (.t 56) (.c (.int .u64 7))),
    .call (some 58) 21 [(.t 55), (.t 57)],
    .op none (some 53) (.mov (.t 58)),
    .op none (some 59) (.tupx (.t 53) 0),
    .op none (some 60) (.tupx (.t 53) 1),
    .op none (some 4) (.mov (.t 59)),
    .op none (some 10) (.mov (.t 60))] [2, 3, 4, 5, 6, 7, 8, 9, 10])
  (.seq (.reg [.op none (some 61) (.mov (.t 8)),
    .op none (some 62) (.bin .mul (.t 61) (.c (.int .i32 181))),
    .op none (some 8) (.mov (.t 62))] [2, 3, 4, 5, 6, 7, 8, 9, 10])
  (.seq (.reg [.op none (some 63) (.mov (.t 6)),
    .op none (some 64) (.bin .mul (.t 63) (.c (.int .i32 181))),
    .op none (some 6) (.mov (.t 64))] [2, 3, 4, 5, 6, 7, 8, 9, 10])
  (.seq (.reg [.op none (some 66) (.mov (.t 4)),
    .op none (some 67) (.mov (.t 6)),
    .call (some 68) 21 [(.t 66), (.t 67)],
    .op none (some 65) (.mov (.t 68)),
    .op none (some 69) (.tupx (.t 65) 0),
    .op none (some 70) (.tupx (.t 65) 1),
    .op none (some 4) (.mov (.t 69)),
    .op none (some 6) (.mov (.t 70))] [2, 3, 4, 5, 6, 7, 8, 9, 10])
  (.seq (.reg [.op none (some 72) (.mov (.t 10)),
    .op none (some 73) (.mov (.t 8)),
    .call (some 74) 21 [(.t 72), (.t 73)],
    .op none (some 71) (.mov (.t 74)),
    .op none (some 75) (.tupx (.t 71) 0),
    .op none (some 76) (.tupx (.t 71) 1),
    .op none (some 10) (.mov (.t 75)),
    .op none (some 8) (.mov (.t 76))] [2, 3, 4, 5, 6, 7, 8, 9, 10])
  (.seq (.reg [.op none (some 78) (.mov (.t 10)),
    .op none (some 79) (.bin .shr (.t 78) (.c (.int .u64 2))),
    .op none (some 80) (.mov (.t 4)),
    .op none (some 81) (.bin .shr (.t 80) (.c (.int .u64 2))),
    .call (some 82) 22 [(.t 79), (.t 81), (.c (.int .i32 3406)), (.c (.int .i32 (-2276)))],
    .op none (some 77) (.mov (.t 82)),
    .op none (some 83) (.tupx (.t 77) 0),
    .op none (some 84) (.tupx (.t 77) 1),
    .op none (some 10) (.mov (.t 83)),
    .op none (some 4) (.mov (.t 84))] [2, 3, 4, 5, 6, 7, 8, 9, 10])
  (.seq (.reg [.op none (some 86) (.mov (.t 6)),
    .op none (some 87) (.bin .shr (.t 86) (.c (.int .u64 2))),
    .op none (some 88) (.mov (.t 8)),
    .op none (some 89) (.bin .shr (.t 88) (.c (.int .u64 2))),
    .call (some 90) 22 [(.t 87), (.t 89), (.c (.int .i32 4017)), (.c (.int .i32 (-799)))],
    .op none (some 85) (.mov (.t 90)),
    .op none (some 91) (.tupx (.t 85) 0),
    .op none (some 92) (.tupx (.t 85) 1),
    .op none (some 6) (.mov (.t 91)),
    .op none (some 8) (.mov (.t 92))] [2, 3, 4, 5, 6, 7, 8, 9, 10])
  (.seq (.reg [.op none (some 94) (.mov (.t 3)),
    .op none (some 95) (.mov (.t 4)),
    .call (some 96) 21 [(.t 94), (.t 95)],
    .op none (some 93) (.mov (.t 96)),
    .op none (some 97) (.tupx (.t 93) 0),
    .op none (some 98) (.tupx (.t 93) 1),
    .op none (some 3) (.mov (.t 97)),
    .op none (some 4) (.mov (.t 98))] [2, 3, 4, 5, 6, 7, 8, 9, 10])
  (.seq (.reg [.op none (some 100) (.mov (.t 7)),
    .op none (some 101) (.mov (.t 8)),
    .call (some 102) 21 [(.t 100), (.t 101)],
    .op none (some 99) (.mov (.t 102)),
    .op none (some 103) (.tupx (.t 99) 0),
    .op none (some 104) (.tupx (.t 99) 1),
    .op none (some 7) (.mov (.t 103)),
    .op none (some 8) (.mov (.t 104))] [2, 3, 4, 5, 6, 7, 8, 9, 10])
  (.seq (.reg [.op none (some 106) (.mov (.t 5)),
    .op none (some 107) (.mov (.t 6)),
    .call (some 108) 21 [(.t 106), (.t 107)],
    .op none (some 105) (.mov (.t 108)),
    .op none (some 109) (.tupx (.t 105) 0),
    .op none (some 110) (.tupx (.t 105) 1),
    .op none (some 5) (.mov (.t 109)),
    .op none (some 6) (.mov (.t 110))] [2, 3, 4, 5, 6, 7, 8, 9, 10])
  (.seq (.reg [.op none (some 112) (.mov (.t 9)),
    .op none (some 113) (.mov (.t 10)),
    .call (some 114) 21 [(.t 112), (.t 113)],
    .op none (some 111) (.mov (.t 114)),
    .op none (some 115) (.tupx (.t 111) 0),
    .op none (some 116) (.tupx (.t 111) 1),
    .op none (some 9) (.mov (.t 115)),
    .op none (some 10) (.mov (.t 116))] [2, 3, 4, 5, 6, 7, 8, 9, 10])
  (.seq (.reg [.op none (some 117) (.mov (.t 3)),
    .op none (some 118) (.mov (.t 7)),
    .op none (some 119) (.mov (.t 5)),
    .op none (some 120) (.mov (.t 9)),
    .op none (some 121) (.mov (.t 10)),
    .op none (some 122) (.mov (.t 6)),
    .op none (some 123) (.mov (.t 8)),
    .op none (some 124) (.mov (.t 4)),
    .op none (some 125) (.build (.ints .i32 (List.replicate 8 0)) [(0, 1, (.t 117)), (1, 1, (.t 118)), (2, 1, (.t 119)), (3, 1, (.t 120)), (4, 1, (.t 121)), (5, 1, (.t 122)), (6, 1, (.t 123)), (7, 1, (.t 124))]),
    .op none none (.st 8 (.t 2) (.t 125))] [2])
  .ret))))))))))))))))))

def F14 : VFn := { nt := 126, res := [.cells 2 8], body := c14 }
theorem is14 : compFn Try.prog h14 14 = some F14 := by kernel_rfl

/-! loop.example/pub-g03469/spec.columnBack -/
def h15 : List (Nat × List Nat) := [(0, [1, 2]), (1, [2, 3, 4, 5, 6, 7, 8, 9, 10]), (2, [2, 3, 4, 5, 6, 7, 8, 9, 10]), (3, [2, 3, 4, 5, 6, 7, 8, 9, 10]), (4, [2, 3, 4, 5, 6, 7, 8, 9, 10]), (5, [2, 3, 4, 5, 6, 7, 8, 9, 10]), (6, [2, 3, 4, 5, 6, 7, 8, 9, 10]), (7, [2, 3, 4, 5, 6, 7, 8, 9, 10]), (8, [2, 3, 4, 5, 6, 7, 8, 9, 10]), (9, [2, 3, 4, 5, 6, 7, 8, 9, 10]), (10, [2, 3, 4, 5, 6, 7, 8, 9, 10]), (11, [2, 3, 4, 5, 6, 7, 8, 9, 10]), (12, [2, 3, 4, 5, 6, 7, 8, 9, 10]), (13, [2, 3, 4, 5, 6, 7, 8, 9, 10]), (14, [2, 3, 4, 5, 6, 7, 8, 9, 10]), (15, [2, 3, 4, 5, 6, 7, 8, 9, 10]), (16, [2, 3, 4, 5, 6, 7, 8, 9, 10]), (17, [2, 3, 4, 5, 6, 7, 8, 9, 10]), (18, [2])]
def c15 : VC := (.seq (.reg [.op none (some 1) (.box 40 (.t 0)),
    .op none (some 2) (.alloc (.ints .i32 (List.replicate 8 0) 40))] [1, 2])
  (.seq (.drq [.op none (some 11) (.idxA 8 1 (.t 1) (.c (.int .i64 0))),
    .op none (some 12) (.ld (.t 11)),
    .op none (some 13) (.idxA 8 1 (.t 1) (.c (.int .i64 1))),
    .op none (some 14) (.ld (.t 13)),
    .op none (some 15) (.idxA 8 1 (.t 1) (.c (.int .i64 2))),
    .op none (some 16) (.ld (.t 15)),
    .op none (some 17) (.idxA 8 1 (.t 1) (.c (.int .i64 3))),
    .op none (some 18) (.ld (.t 17)),
    .op none (some 19) (.idxA 8 1 (.t 1) (.c (.int .i64 4))),
    .op none (some 20) (.ld (.t 19)),
    .op none (some 21) (.idxA 8 1 (.t 1) (.c (.int .i64 5))),
    .op none (some 22) (.ld (.t 21)),
    .op none (some 23) (.idxA 8 1 (.t 1) (.c (.int .i64 6))),
    .op none (some 24) (.ld (.t 23)),
    .op none (some 25) (.idxA 8 1 (.t 1) (.c (.int .i64 7))),
    .op none (some 26) (.ld (.t 25)),
    .op none (some 3) (.mov (.t 12)),
    .op none (some 4) (.mov (.t 14)),
    .op none (some 5) (.mov (.t 16)),
    .op none (some 6) (.mov (.t 18)),
    .op none (some 7) (.mov (.t 20)),
    .op none (some 8) (.mov (.t 22)),
    .op none (some 9) (.mov (.t 24)),
    .op none (some 10) (.mov (.t 26))] [2, 3, 4, 5, 6, 7, 8, 9, 10])
  (.seq (.reg [.op none (some 27) (.mov (.t 3)),
    .op none (some 28) (.bin .add (.t 27) (.c (.int .i32 524288))),
    .op none (some 3) (.mov (.t 28))] [2, 3, 4, 5, 6, 7, 8, 9, 10])
  (.seq (.reg [.op none (some 29) (.mov (.t 3)),
    .op none (some 30) (.mov (.t 7)),
    .op none (some 31) (.bin .add (.t 29) (.t 30)),
    .op none (some 32) (.bin .shr (.t 31) (.c (.int .u64 2))),
    .op none (some 33) (.mov (.t 3)),
    .op none (some 34) (.mov (.t 7)),
    .op none (some 35) (.bin .sub (.t 33) (.t 34)),
    .op none (some 36) (.bin .shr (.t 35) (.c (.int .u64 2))),
    .op none (some 3) (.mov (.t 32)),
    .op none (some 7) (.mov (.t 36))] [2, 3, 4, 5, 6, 7, 8, 9, 10])
  (.seq (.reg [.op none (some 38) (.mov (.t 5)),
    .op none (some 39) (.bin .shr (.t 38) (.c (.int .u64 13))),
    .op none (some 40) (.mov (.t 9)),
    .op none (some 41) (.bin .shr (.t 40) (.c (.int .u64 13))),
    .call (some 42) 22 [(.t 39), (.t 41), (.c (.int .i32 1108)), (.c (.int .i32 (-2676)))],
    .op none (some 37) (.mov (.t 42)),
    .op none (some 43) (.tupx (.t 37) 0),
    .op none (some 44) (.tupx (.t 37) 1),
    .op none (some 5) (.mov (.t 43)),
    .op none (some 9) (.mov (.t 44))] [2, 3, 4, 5, 6, 7, 8, 9, 10])
  (.seq (.reg [.op none (some 46) (.mov (.t 7)),
    .op none (some 47) (.mov (.t 5)),
    .call (some 48) 21 [(.t 46), (.t 47)],
    .op none (some 45) (.mov (.t 48)),
    .op none (some 49) (.tupx (.t 45) 0),
    .op none (some 50) (.tupx (.t 45) 1),
    .op none (some 7) (.mov (.t 49)),
    .op none (some 5) (.mov (.t 50))] [2, 3, 4, 5, 6, 7, 8, 9, 10])
  (.seq (.reg [.op none (some 52) (.mov (.t 3)),
    .op none (some 53) (.mov (.t 9)),
    .call (some 54) 21 [(.t 52), (.t 53)],
    .op none (some 51) (.mov (.t 54)),
    .op none (some 55) (.tupx (.t 51) 0),
    .op none (some 56) (.tupx (.t 51) 1),
    .op none (some 3) (.mov (.t 55)),
    .op none (some 9) (.mov (.t 56))] [2, 3, 4, 5, 6, 7, 8, 9, 10])
  (.seq (.reg [.op none (some 58) (.mov (.t 4)),
    .op none (some 59) (.mov (.t 10)),
    .call (some 60) 21 [(.t 58), (.t 59)],
    .op none (some 57) (.mov (.t 60)),
    .op none (some 61) (.tupx (.t 57) 0),
    .op none (some 62) (.tupx (.t 57) 1),
    .op none (some 4) (.mov (.t 61)),
    .op none (some 10) (.mov (.t 62))] [2, 3, 4, 5, 6, 7, 8, 9, 10])
  (.seq (.reg [.op none (some 63) (.mov (.t 6)),
    .op none (some 64) (.bin .shr (.t 63) (.c (.int .u64 13))),
    .op none (some 65) (.bin .mul (.t 64) (.c (.int .i32 11585))),
    .op none (some 6) (.mov (.t 65))] [2, 3, 4, 5, 6, 7, 8, 9, 10])
  (.seq (.reg [.op none (some 66) (.mov (.t 8)),
    .op none (some 67) (.bin .shr (.t 66) (.c (.int .u64 13))),
    .op none (some 68) (.bin .mul (.t 67) (.c (.int .i32 11585))),
    .op none (some 8) (.mov (.t 68))] [2, 3, 4, 5, 6, 7, 8, 9, 10])
  (.seq (.reg [.op none (some 70) (.mov (.t 4)),
    .op none (some 71) (.mov (.t 6)),
    .call (some 72) 21 [(.t 70), (.t 71)],
    .op none (some 69) (.mov (.t 72)),
    .op none (some 73) (.tupx (.t 69) 0),
    .op none (some 74) (.tupx (.t 69) 1),
    .op none (some 4) (.mov (.t 73)),
    .op none (some 6) (.mov (.t 74))] [2, 3, 4, 5, 6, 7, 8, 9, 10])
  (.seq (.reg [.op none (some 76) (.mov (.t 10)),
    .op none (some 77) (.mov (.t 8)),
    .call (some 78) 21 [(.t 76), (.t 77)],
    .op none (some 75) (.mov (.t 78)),
    .op none (some 79) (.tupx (.t 75) 0),
    .op none (some 80) (.tupx (.t 75) 1),
    .op none (some 10) (.mov (.t 79)),
    .op none (some 8) (.mov (.t 80))] [2, 3, 4, 5, 6, 7, 8, 9, 10])
  (.seq (.reg [.op none (some 82) (.mov (.t 10)),
    .op none (some 83) (.bin .shr (.t 82) (.c (.int .u64 14))),
    .op none (some 84) (.mov (.t 4)),
    .op none (some 85) (.bin .shr (.t 84) (.c (.int .u64 14))),
    .call (some 86) 22 [(.t 83), (.t 85), (.c (.int .i32 3406)), (.c (.int .i32 (-2276)))],
    .op none (some 81) (.mov (.t 86)),
    .op none (some 87) (.tupx (.t 81) 0),
    .op none (some 88) (.tupx (.t 81) 1),
    .op none (some 10) (.mov (.t 87)),
    .op none (some 4) (.mov (.t 88))] [2, 3, 4, 5, 6, 7, 8, 9, 10])
  (.seq (.reg [.op none (some 90) (.mov (.t 6)),
    .op none (some 91) (.bin .shr (.t 90) (.c (.int .u64 14))),
    .op none (some 92) (.mov (.t 8)),
    .op none (some 93) (.bin .shr (.t 92) (.c (.int .u64 14))),
    .call (some 94) 22 [(.t 91), (.t 93), (.c (.int .i32 4017)), (.c (.int .i32 (-799)))],
    .op none (some 89) (.mov (.t 94)),
    .op none (some 95) (.tupx (.t 89) 0),
    .op none (some 96) (.tupx (.t 89) 1),
    .op none (some 6) (.mov (.t 95)),
    .op none (some 8) (.mov (.t 96))] [2, 3, 4, 5, 6, 7, 8, 9, 10])
  (.seq (.reg [.op none (some 98) (.mov (.t 3)),
    .op none (some 99) (.mov (.t 4)),
    .call (some 100) 21 [(.t 98), (.t 99)],
    .op none (some 97) (.mov (.t 100)),
    .op none (some 101) (.tupx (.t 97) 0),
    .op none (some 102) (.tupx (.t 97) 1),
    .op none (some 3) (.mov (.t 101)),
    .op none (some 4) (.mov (.t 102))] [2, 3, 4, 5, 6, 7, 8, 9, 10])
  (.seq (.reg [.op none (some 104) (.mov (.t 7)),
    .op none (some 105) (.mov (.t 8)),
    .call (some 106) 21 [(.t 104), (.t 105)],
    .op none (some 103) (.mov (.t 106)),
    .op none (some 107) (.tupx (.t 103) 0),
    .op none (some 108) (.tupx (.t 103) 1),
    .op none (some 7) (.mov (.t 107)),
    .op none (some 8) (.mov (.t 108))] [2, 3, 4, 5, 6, 7, 8, 9, 10])
  (.seq (.reg [.op none (some 110) (.mov (.t 5)),
    .op none (some 111) (.mov (.t 6)),
    .call (some 112) 21 [(.t 110), (.t 111)],
    .op none (some 109) (.mov (.t 112)),
    .op none (some 113) (.tupx (.t 109) 0),
    .op none (some 114) (.tupx (.t 109) 1),
    .op none (some 5) (.mov (.t 113)),
    .op none (some 6) (.mov (.t 114))] [2, 3, 4, 5, 6, 7, 8, 9, 10])
  (.seq (.reg [.op none (some 116) (.mov (.t 9)),
    .op none (some 117) (.mov (.t 10)),
    .call (some 118) 21 [(.t 116), (.t 117)],
    .op none (some 115) (.mov (.t 118)),
    .op none (some 119) (.tupx (.t 115) 0),
    .op none (some 120) (.tupx (.t 115) 1),
    .op none (some 9) (.mov (.t 119)),
    .op none (some 10) (.mov (.t 120))] [2, 3, 4, 5, 6, 7, 8, 9, 10])
  (.seq (.reg [.op none (some 121) (.mov (.t 3)),
    .op none (some 122) (.bin .shr (.t 121) (.c (.int .u64 18))),
    .op none (some 123) (.mov (.t 7)),
    .op none (some 124) (.bin .shr (.t 123) (.c (.int .u64 18))),
    .op none (some 125) (.mov (.t 5)),
    .op none (some 126) (.bin .shr (.t 125) (.c (.int .u64 18))),
    .op none (some 127) (.mov (.t 9)),
    .op none (some 128) (.bin .shr (.t 127) (.c (.int .u64 18))),
    .op none (some 129) (.mov (.t 10)),
    .op none (some 130) (.bin .shr (.t 129) (.c (.int .u64 18))),
    .op none (some 131) (.mov (.t 6)),
    .op none (some 132) (.bin .shr (.t 131) (.c (.int .u64 18))),
    .op none (some 133) (.mov (.t 8)),
    .op none (some 134) (.bin .shr (.t 133) (.c (.int .u64 18))),
    .op none (some 135) (.mov (.t 4)),
    .op none (some 136) (.bin .shr (.t 135) (.c (.int .u64 18))),
    .op none (some 137) (.build (.ints .i32 (List.replicate 8 0)) [(0, 1, (.t 122)), (1, 1, (.t 124)), (2, 1, (.t 126)), (3, 1, (.t 128)), (4, 1, (.t 130)), (5, 1, (.t 132)), (6, 1, (.t 134)), (7, 1, (.t 136))]),
    .op none none (.st 8 (.t 2) (.t 137))] [2])
  .ret)))))))))))))))))))

def F15 : VFn := { nt := 138, res := [.cells 2 8], body := c15 }
theorem is15 : compFn Try.prog h15 15 = some F15 := by kernel_rfl

/-! loop.example/pub-g03469/pub/jpeg.ZZForward -/
def h16 : List (Nat × List Nat) := [(0, [1, 2]), (1, [2, 3]), (2, [2, 3]), (3, [2])]
def c16 : VC := (.seq (.reg [.op none (some 1) (.box 23 (.t 0)),
    .op none (some 2) (.alloc (.ints .i32 (List.replicate 64 0) 23))] [1, 2])
  (.seq (.reg [.op none (some 4) (.ldA 64 (.t 1)),
    .op none (some 3) (.alloc (.ints .i32 (List.replicate 64 0) 37)),
    .op none none (.st 64 (.t 3) (.t 4))] [2, 3])
  (.seq (.reg [.call (some 5) 23 [(.t 3)]] [2, 3])
  (.seq (.reg [.op none (some 6) (.ldA 64 (.t 3)),
    .op none none (.st 64 (.t 2) (.t 6))] [2])
  .ret))))

def F16 : VFn := { nt := 7, res := [.cells 2 64], body := c16 }
theorem is16 : compFn Try.prog h16 16 = some F16 := by kernel_rfl

/-! loop.example/pub-g03469/spec.columnForth -/
def h17 : List (Nat × List Nat) := [(0, [1, 2]), (1, [1, 2, 3, 4]), (2, [1, 2, 3, 4, 5, 6]), (3, [1, 2, 3, 4, 5, 6, 7, 8]), (4, [2, 3, 4, 5, 6, 7, 8, 9, 10]), (5, [2, 3, 4, 5, 6, 7, 8, 9, 10]), (6, [2, 3, 4, 5, 6, 7, 8, 9, 10]), (7, [2, 3, 4, 5, 6, 7, 8, 9, 10]), (8, [2, 3, 4, 5, 6, 7, 8, 9, 10]), (9, [2, 3, 4, 5, 6, 7, 8, 9, 10]), (10, [2, 3, 4, 5, 6, 7, 8, 9, 10]), (11, [2, 3, 4, 5, 6, 7, 8, 9, 10]), (12, [2, 3, 4, 5, 6, 7, 8, 9, 10]), (13, [2, 3, 4, 5, 6, 7, 8, 9, 10]), (14, [2, 3, 4, 5, 6, 7, 8, 9, 10]), (15, [2, 3, 4, 5, 6, 7, 8, 9, 10]), (16, [2])]
def c17 : VC := (.seq (.reg [.op none (some 1) (.box 40 (.t 0)),
    .op none (some 2) (.alloc (.ints .i32 (List.replicate 8 0) 40))] [1, 2])
  (.seq (.reg [.op none (some 12) (.idxA 8 1 (.t 1) (.c (.int .i64 0))),
    .op none (some 13) (.ld (.t 12)),
    .op none (some 14) (.idxA 8 1 (.t 1) (.c (.int .i64 7))),
    .op none (some 15) (.ld (.t 14)),
    .call (some 16) 21 [(.t 13), (.t 15)],
    .op none (some 11) (.mov (.t 16)),
    .op none (some 17) (.tupx (.t 11) 0),
    .op none (some 18) (.tupx (.t 11) 1),
    .op none (some 3) (.mov (.t 17)),
    .op none (some 4) (.mov (.t 18))] [1, 2, 3, 4])
  (.seq (.reg [.op none (some 20) (.idxA 8 1 (.t 1) (.c (.int .i64 1))),
    .op none (some 21) (.ld (.t 20)),
    .op none (some 22) (.idxA 8 1 (.t 1) (.c (.int .i64 6))),
    .op none (some 23) (.ld (.t 22)),
    .call (some 24) 21 [(.t 21), (.t 23)],
    .op none (some 19) (.mov (.t 24)),
    .op none (some 25) (.tupx (.t 19) 0),
    .op none (some 26) (.tupx (.t 19) 1),
    .op none (some 5) (.mov (.t 25)),
    .op none (some 6) (.mov (.t 26))] [1, 2, 3, 4, 5, 6])
  (.seq (.reg [.op none (some 28) (.idxA 8 1 (.t 1) (.c (.int .i64 2))),
    .op none (some 29) (.ld (.t 28)),
    .op none (some 30) (.idxA 8 1 (.t 1) (.c (.int .i64 5))),
    .op none (some 31) (.ld (.t 30)),
    .call (some 32) 21 [(.t 29), (.t 31)],
    .op none (some 27) (.mov (.t 32)),
    .op none (some 33) (.tupx (.t 27) 0),
    .op none (some 34) (.tupx (.t 27) 1),
    .op none (some 7) (.mov (.t 33)),
    .op none (some 8) (.mov (.t 34))] [1, 2, 3, 4, 5, 6, 7, 8])
  (.seq (.reg [.op none (some 36) (.idxA 8 1 (.t 1) (.c (.int .i64 3))),
    .op none (some 37) (.ld (.t 36)),
    .op none (some 38) (.idxA 8 1 (.t 1) (.c (.int .i64 4))),
    .op none (some 39) (.ld (.t 38)),
    .call (some 40) 21 [(.t 37), (.t 39)],
    .op none (some 35) (.mov (.t 40)),
    .op none (some 41) (.tupx (.t 35) 0),
    .op none (some 42) (.tupx (.t 35) 1),
    .op none (some 9) (.mov (.t 41)),
    .op none (some 10) (.mov (.t 42))] [2, 3, 4, 5, 6, 7, 8, 9, 10])
  (.seq (.reg [.op none (some 44) (.mov (.t 10)),
    .op none (some 45) (.mov (.t 4)),
    .call (some 46) 22 [(.t 44), (.t 45), (.c (.int .i32 217965)), (.c (.int .i32 145639))],
    .op none (some 43) (.mov (.t 46)),
    .op none (some 47) (.tupx (.t 43) 0),
    .op none (some 48) (.tupx (.t 43) 1),
    .op none (some 10) (.mov (.t 47)),
    .op none (some 4) (.mov (.t 48))] [2, 3, 4, 5, 6, 7, 8, 9, 10])
  (.seq (.reg [.op none (some 50) (.mov (.t 8)),
    .op none (some 51) (.mov (.t 6)),
    .call (some 52) 22 [(.t 50), (.t 51), (.c (.int .i32 257107)), (.c (.int .i32 51142))],
    .op none (some 49) (.mov (.t 52)),
    .op none (some 53) (.tupx (.t 49) 0),
    .op none (some 54) (.tupx (.t 49) 1),
    .op none (some 8) (.mov (.t 53)),
    .op none (some 6) (.mov (.t 54))] [2, 3, 4, 5, 6, 7, 8, 9, 10])
  (.seq (.reg [.op none (some 56) (.mov (.t 3)),
    .op none (some 57) (.mov (.t 9)),
    .call (some 58) 21 [(.t 56), (.t 57)],
    .op none (some 55) (.mov (.t 58)),
    .op none (some 59) (.tupx (.t 55) 0),
    .op none (some 60) (.tupx (.t 55) 1),
    .op none (some 3) (.mov (.t 59)),
    .op none (some 9) (.mov (.t 60))] [2, 3, 4, 5, 6, 7, 8, 9, 10])
  (.seq (.reg [.op none (some 62) (.mov (.t 5)),
    .op none (some 63) (.mov (.t 7)),
    .call (some 64) 21 [(.t 62), (.t 63)],
    .op none (some 61) (.mov (.t 64)),
    .op none (some 65) (.tupx (.t 61) 0),
    .op none (some 66) (.tupx (.t 61) 1),
    .op none (some 5) (.mov (.t 65)),
    .op none (some 7) (.mov (.t 66))] [2, 3, 4, 5, 6, 7, 8, 9, 10])
  (.seq (.reg [.op none (some 68) (.mov (.t 7)),
    .op none (some 69) (.mov (.t 9)),
    .call (some 70) 22 [(.t 68), (.t 69), (.c (.int .i32 141871)), (.c (.int .i32 342508))],
    .op none (some 67) (.mov (.t 70)),
    .op none (some 71) (.tupx (.t 67) 0),
    .op none (some 72) (.tupx (.t 67) 1),
    .op none (some 7) (.mov (.t 71)),
    .op none (some 9) (.mov (.t 72))] [2, 3, 4, 5, 6, 7, 8, 9, 10])
  (.seq (.reg [.op none (some 74) (.mov (.t 3)),
    .op none (some 75) (.mov (.t 5)),
    .call (some 76) 21 [(.t 74), (.t 75)],
    .op none (some 73) (.mov (.t 76)),
    .op none (some 77) (.tupx (.t 73) 0),
    .op none (some 78) (.tupx (.t 73) 1),
    .op none (some 3) (.mov (.t 77)),
    .op none (some 5) (.mov (.t 78))] [2, 3, 4, 5, 6, 7, 8, 9, 10])
  (.seq (.reg [.op none (some 80) (.mov (.t 10)),
    .op none (some 81) (.mov (.t 6)),
    .call (some 82) 21 [(.t 80), (.t 81)],
    .op none (some 79) (.mov (.t 82)),
    .op none (some 83) (.tupx (.t 79) 0),
    .op none (some 84) (.tupx (.t 79) 1),
    .op none (some 10) (.mov (.t 83)),
    .op none (some 6) (.mov (.t 84))] [2, 3, 4, 5, 6, 7, 8, 9, 10])
  (.seq (.reg [.op none (some 86) (.mov (.t 4)),
    .op none (some 87) (.mov (.t 8)),
    .call (some 88) 21 [(.t 86), (.t 87)],
    .op none (some 85) (.mov (.t 88)),
    .op none (some 89) (.tupx (.t 85) 0),
    .op none (some 90) (.tupx (.t 85) 1),
    .op none (some 4) (.mov (.t 89)),
    .op none (some 8) (.mov (.t 90))] [2, 3, 4, 5, 6, 7, 8, 9, 10])
  (.seq (.reg [.op none (some 91) (.mov (.t 8)),
    .op none (some 92) (.bin .shr (.t 91) (.c (.int .u64 12))),
    .op none (some 93) (.bin .mul (.t 92) (.c (.int .i32 5793))),
    .op none (some 8) (.mov (.t 93))] [2, 3, 4, 5, 6, 7, 8, 9, 10])
  (.seq (.reg [.op none (some 94) (.mov (.t 6)),
    .op none (some 95) (.bin .shr (.t 94) (.c (.int .u64 12))),
    .op none (some 96) (.bin .mul (.t 95) (.c (.int .i32 5793))),
    .op none (some 6) (.mov (.t 96))] [2, 3, 4, 5, 6, 7, 8, 9, 10])
  (.seq (.reg [.op none (some 98) (.mov (.t 4)),
    .op none (some 99) (.mov (.t 10)),
    .call (some 100) 21 [(.t 98), (.t 99)],
    .op none (some 97) (.mov (.t 100)),
    .op none (some 101) (.tupx (.t 97) 0),
    .op none (some 102) (.tupx (.t 97) 1),
    .op none (some 4) (.mov (.t 101)),
    .op none (some 10) (.mov (.t 102))] [2, 3, 4, 5, 6, 7, 8, 9, 10])
  (.seq (.reg [.op none (some 103) (.mov (.t 3)),
    .op none (some 104) (.bin .sub (.t 103) (.c (.int .i32 1024))),
    .op none (some 105) (.bin .shl (.t 104) (.c (.int .u64 18))),
    .op none (some 106) (.mov (.t 4)),
    .op none (some 107) (.mov (.t 7)),
    .op none (some 108) (.mov (.t 8)),
    .op none (some 109) (.mov (.t 5)),
    .op none (some 110) (.bin .shl (.t 109) (.c (.int .u64 18))),
    .op none (some 111) (.mov (.t 6)),
    .op none (some 112) (.mov (.t 9)),
    .op none (some 113) (.mov (.t 10)),
    .op none (some 114) (.build (.ints .i32 (List.replicate 8 0)) [(0, 1, (.t 105)), (1, 1, (.t 106)), (2, 1, (.t 107)), (3, 1, (.t 108)), (4, 1, (.t 110)), (5, 1, (.t 111)), (6, 1, (.t 112)), (7, 1, (.t 113))]),
    .op none none (.st 8 (.t 2) (.t 114))] [2])
  .ret)))))))))))))))))

def F17 : VFn := { nt := 115, res := [.cells 2 8], body := c17 }
theorem is17 : compFn Try.prog h17 17 = some F17 := by kernel_rfl

/-! loop.example/pub-g03469/spec.rowForth -/
def h18 : List (Nat × List Nat) := [(0, [1, 2]), (1, [1, 2, 3, 4]), (2, [1, 2, 3, 4, 5, 6]), (3, [1, 2, 3, 4, 5, 6, 7, 8]), (4, [2, 3, 4, 5, 6, 7, 8, 9, 10]), (5, [2, 3, 4, 5, 6, 7, 8, 9, 10]), (6, [2, 3, 4, 5, 6, 7, 8, 9, 10]), (7, [2, 3, 4, 5, 6, 7, 8, 9, 10]), (8, [2, 3, 4, 5, 6, 7, 8, 9, 10]), (9, [2, 3, 4, 5, 6, 7, 8, 9, 10]), (10, [2, 3, 4, 5, 6, 7, 8, 9, 10]), (11, [2, 3, 4, 5, 6, 7, 8, 9, 10]), (12, [2, 3, 4, 5, 6, 7, 8, 9, 10]), (13, [2, 3, 4, 5, 6, 7, 8, 9, 10]), (14, [2, 3, 4, 5, 6, 7, 8, 9, 10]), (15, [2, 3, 4, 5, 6, 7, 8, 9, 10]), (16, [2, 11]), (17, [2, 11, 120]), (18, [2, 11, 120, 121]), (19, [2, 11, 12, 120]), (20, [2, 11, 120]), (21, [2, 11, 120]), (22, [2])]
def c18l0 : VC := (.seq (.reg [.op none (some 121) (.bin .lss (.t 120) (.c (.int .i64 8)))] [2, 11, 120, 121])
  (.seq (.cond (.t 121) .skip
  (.exit 0))
  (.seq (.block 1 (.seq (.reg [.op none (some 122) (.mov (.t 120)),
    .op none (some 12) (.mov (.t 122))] [2, 11, 12, 120])
  (.reg [.op none (some 123) (.mov (.t 12)),
    .op none (some 124) (.mov (.t 12)),
    .op none (some 125) (.idxA 8 1 (.t 11) (.t 124)),
    .op none (some 126) (.ld (.t 125)),
    .op none (some 127) (.bin .add (.t 126) (.c (.int .i32 131072))),
    .op none (some 128) (.bin .shr (.t 127) (.c (.int .u64 18))),
    .op none (some 129) (.idxA 8 1 (.t 11) (.t 123)),
    .op none none (.st 1 (.t 129) (.t 128))] [2, 11, 120])))
  (.reg [.op none (some 130) (.bin .add (.t 120) (.c (.int .i64 1))),
    .op none (some 120) (.mov (.t 130))] [2, 11, 120]))))

def c18 : VC := (.seq (.reg [.op none (some 1) (.box 40 (.t 0)),
    .op none (some 2) (.alloc (.ints .i32 (List.replicate 8 0) 40))] [1, 2])
  (.seq (.reg [.op none (some 14) (.idxA 8 1 (.t 1) (.c (.int .i64 0))),
    .op none (some 15) (.ld (.t 14)),
    .op none (some 16) (.idxA 8 1 (.t 1) (.c (.int .i64 7))),
    .op none (some 17) (.ld (.t 16)),
    .call (some 18) 21 [(.t 15), (.t 17)],
    .op none (some 13) (.mov (.t 18)),
    .op none (some 19) (.tupx (.t 13) 0),
    .op none (some 20) (.tupx (.t 13) 1),
    .op none (some 3) (.mov (.t 19)),
    .op none (some 4) (.mov (.t 20))] [1, 2, 3, 4])
  (.seq (.reg [.op none (some 22) (.idxA 8 1 (.t 1) (.c (.int .i64 1))),
    .op none (some 23) (.ld (.t 22)),
    .op none (some 24) (.idxA 8 1 (.t 1) (.c (.int .i64 6))),
    .op none (some 25) (.ld (.t 24)),
    .call (some 26) 21 [(.t 23), (.t 25)],
    .op none (some 21) (.mov (.t 26)),
    .op none (some 27) (.tupx (.t 21) 0),
    .op none (some 28) (.tupx (.t 21) 1),
    .op none (some 5) (.mov (.t 27)),
    .op none (some 6) (.mov (.t 28))] [1, 2, 3, 4, 5, 6])
  (.seq (.reg [.op none (some 30) (.idxA 8 1 (.t 1) (.c (.int .i64 2))),
    .op none (some 31) (.ld (.t 30)),
    .op none (some 32) (.idxA 8 1 (.t 1) (.c (.int .i64 5))),
    .op none (some 33) (.ld (.t 32)),
    .call (some 34) 21 [(.t 31), (.t 33)],
    .op none (some 29) (.mov (.t 34)),
    .op none (some 35) (.tupx (.t 29) 0),
    .op none (some 36) (.tupx (.t 29) 1),
    .op none (some 7) (.mov (.t 35)),
    .op none (some 8) (.mov (.t 36))] [1, 2, 3, 4, 5, 6, 7, 8])
  (.seq (.reg [.op none (some 38) (.idxA 8 1 (.t 1) (.c (.int .i64 3))),
    .op none (some 39) (.ld (.t 38)),
    .op none (some 40) (.idxA 8 1 (.t 1) (.c (.int .i64 4))),
    .op none (some 41) (.ld (.t 40)),
    .call (some 42) 21 [(.t 39), (.t 41)],
    .op none (some 37) (.mov (.t 42)),
    .op none (some 43) (.tupx (.t 37) 0),
    .op none (some 44) (.tupx (.t 37) 1),
    .op none (some 9) (.mov (.t 43)),
    .op none (some 10) (.mov (.t 44))] [2, 3, 4, 5, 6, 7, 8, 9, 10])
  (.seq (.reg [.op none (some 46) (.mov (.t 10)),
    .op none (some 47) (.bin .shr (.t 46) (.c (.int .u64 14))),
    .op none (some 48) (.mov (.t 4)),
    .op none (some 49) (.bin .shr (.t 48) (.c (.int .u64 14))),
    .call (some 50) 22 [(.t 47), (.t 49), (.c (.int .i32 13623)), (.c (.int .i32 9102))],
    .op none (some 45) (.mov (.t 50)),
    .op none (some 51) (.tupx (.t 45) 0),
    .op none (some 52) (.tupx (.t 45) 1),
    .op none (some 10) (.mov (.t 51)),
    .op none (some 4) (.mov (.t 52))] [2, 3, 4, 5, 6, 7, 8, 9, 10])
  (.seq (.reg [.op none (some 54) (.mov (.t 8)),
    .op none (some 55) (.bin .shr (.t 54) (.c (.int .u64 14))),
    .op none (some 56) (.mov (.t 6)),
    .op none (some 57) (.bin .shr (.t 56) (.c (.int .u64 14))),
    .call (some 58) 22 [(.t 55), (.t 57), (.c (.int .i32 16069)), (.c (.int .i32 3196))],
    .op none (some 53) (.mov (.t 58)),
    .op none (some 59) (.tupx (.t 53) 0),
    .op none (some 60) (.tupx (.t 53) 1),
    .op none (some 8) (.mov (.t 59)),
    .op none (some 6) (.mov (.t 60))] [2, 3, 4, 5, 6, 7, 8, 9, 10])
  (.seq (.reg [.op none (some 62) (.mov (.t 3)),
    .op none (some 63) (.mov (.t 9)),
    .call (some 64) 21 [(.t 62), (.t 63)],
    .op none (some 61) (.mov (.t 64)),
    .op none (some 65) (.tupx (.t 61) 0),
    .op none (some 66) (.tupx (.t 61) 1),
    .op none (some 3) (.mov (.t 65)),
    .op none (some 9) (.mov (.t 66))] [2, 3, 4, 5, 6, 7, 8, 9, 10])
  (.seq (.reg [.op none (some 68) (.mov (.t 5)),
    .op none (some 69) (.mov (.t 7)),
    .call (some 70) 21 [(.t 68), (.t 69)],
    .op none (some 67) (.mov (.t 70)),
    .op none (some 71) (.tupx (.t 67) 0),
    .op none (some 72) (.tupx (.t 67) 1),
    .op none (some 5) (.mov (.t 71)),
    .op none (some 7) (.mov (.t 72))] [2, 3, 4, 5, 6, 7, 8, 9, 10])
  (.seq (.reg [.op none (some 74) (.mov (.t 7)),
    .op none (some 75) (.bin .shr (.t 74) (.c (.int .u64 14))),
    .op none (some 76) (.mov (.t 9)),
    .op none (some 77) (.bin .shr (.t 76) (.c (.int .u64 14))),
    .call (some 78) 22 [(.t 75), (.t 77), (.c (.int .i32 8867)), (.c (.int .i32 21407))],
    .op none (some 73) (.mov (.t 78)),
    .op none (some 79) (.tupx (.t 73) 0),
    .op none (some 80) (.tupx (.t 73) 1),
    .op none (some 7) (.mov (.t 79)),
    .op none (some 9) (.mov (.t 80))] [2, 3, 4, 5, 6, 7, 8, 9, 10])
  (.seq (.reg [.op none (some 82) (.mov (.t 3)),
    .op none (some 83) (.mov (.t 5)),
    .call (some 84) 21 [(.t 82), (.t 83)],
    .op none (some 81) (.mov (.t 84)),
    .op none (some 85) (.tupx (.t 81) 0),
    .op none (some 86) (.tupx (.t 81) 1),
    .op none (some 3) (.mov (.t 85)),
    .op none (some 5) (.mov (.t 86))] [2, 3, 4, 5, 6, 7, 8, 9, 10])
  (.seq (.reg [.op none (some 88) (.mov (.t 10)),
    .op none (some 89) (.mov (.t 6)),
    .call (some 90) 21 [(.t 88), (.t 89)],
    .op none (some 87) (.mov (.t 90)),
    .op none (some 91) (.tupx (.t 87) 0),
    .op none (some 92) (.tupx (.t 87) 1),
    .op none (some 10) (.mov (.t 91)),
    .op none (some 6) (.mov (.t 92))] [2, 3, 4, 5, 6, 7, 8, 9, 10])
  (.seq (.reg [.op none (some 94) (.mov (.t 4)),
    .op none (some 95) (.mov (.t 8)),
    .call (some 96) 21 [(.t 94), (.t 95)],
    .op none (some 93) (.mov (.t 96)),
    .op none (some 97) (.tupx (.t 93) 0),
    .op none (some 98) (.tupx (.t 93) 1),
    .op none (some 4) (.mov (.t 97)),
    .op none (some 8) (.mov (.t 98))] [2, 3, 4, 5, 6, 7, 8, 9, 10])
  (.seq (.reg [.op none (some 99) (.mov (.t 8)),
    .op none (some 100) (.bin .shr (.t 99) (.c (.int .u64 14))),
    .op none (some 101) (.bin .mul (.t 100) (.c (.int .i32 23170))),
    .op none (some 8) (.mov (.t 101))] [2, 3, 4, 5, 6, 7, 8, 9, 10])
  (.seq (.reg [.op none (some 102) (.mov (.t 6)),
    .op none (some 103) (.bin .shr (.t 102) (.c (.int .u64 14))),
    .op none (some 104) (.bin .mul (.t 103) (.c (.int .i32 23170))),
    .op none (some 6) (.mov (.t 104))] [2, 3, 4, 5, 6, 7, 8, 9, 10])
  (.seq (.reg [.op none (some 106) (.mov (.t 4)),
    .op none (some 107) (.mov (.t 10)),
    .call (some 108) 21 [(.t 106), (.t 107)],
    .op none (some 105) (.mov (.t 108)),
    .op none (some 109) (.tupx (.t 105) 0),
    .op none (some 110) (.tupx (.t 105) 1),
    .op none (some 4) (.mov (.t 109)),
    .op none (some 10) (.mov (.t 110))] [2, 3, 4, 5, 6, 7, 8, 9, 10])
  (.seq (.reg [.op none (some 111) (.mov (.t 3)),
    .op none (some 112) (.mov (.t 4)),
    .op none (some 113) (.mov (.t 7)),
    .op none (some 114) (.mov (.t 8)),
    .op none (some 115) (.mov (.t 5)),
    .op none (some 116) (.mov (.t 6)),
    .op none (some 117) (.mov (.t 9)),
    .op none (some 118) (.mov (.t 10)),
    .op none (some 119) (.build (.ints .i32 (List.replicate 8 0)) [(0, 1, (.t 111)), (1, 1, (.t 112)), (2, 1, (.t 113)), (3, 1, (.t 114)), (4, 1, (.t 115)), (5, 1, (.t 116)), (6, 1, (.t 117)), (7, 1, (.t 118))]),
    .op none (some 11) (.alloc (.ints .i32 (List.replicate 8 0) 40)),
    .op none none (.st 8 (.t 11) (.t 119))] [2, 11])
  (.seq (.seq (.reg [.op none (some 120) (.mov (.c (.int .i64 0)))] [2, 11, 120])
  (.block 0 (.loop c18l0)))
  (.seq (.reg [.op none (some 131) (.ldA 8 (.t 11)),
    .op none none (.st 8 (.t 2) (.t 131))] [2])
  .ret)))))))))))))))))))

def F18 : VFn := { nt := 132, res := [.cells 2 8], body := c18 }
theorem is18 : compFn Try.prog h18 18 = some F18 := by kernel_rfl

/-! loop.example/pub-g03469/pub/jpeg.idct -/
def h19 : List (Nat × List Nat) := [(0, [0]), (1, [])]
def c19 : VC := (.seq (.reg [.op none (some 2) (.mov (.t 0)),
    .call (some 3) 24 [(.t 2)]] [0])
  (.reg [.op none (some 4) (.mov (.t 0)),
    .call (some 5) 25 [(.t 4)]] []))

def F19 : VFn := { nt := 6, res := [], body := c19 }
theorem is19 : compFn Try.prog h19 19 = some F19 := by kernel_rfl

/-! loop.example/pub-g03469/spec.lines$1 -/
def h20 : List (Nat × List Nat) := [(0, [0, 1, 2]), (1, [0, 2, 5]), (2, [4]), (3, [4])]
def c20 : VC := (.seq (.reg [.op none (some 4) (.mov (.c (.int .i64 0)))] [0, 1, 2])
  (.seq (.seq (.reg [.op none (some 5) (.ld (.t 1))] [0, 2, 5])
  (.cond (.t 5) (.seq (.reg [.op none (some 6) (.mov (.t 0)),
    .op none (some 7) (.bin .mul (.c (.int .i64 8)) (.t 6)),
    .op none (some 8) (.ld (.t 2)),
    .op none (some 9) (.bin .add (.t 7) (.t 8)),
    .op none (some 4) (.mov (.t 9))] [4])
  .ret)
  .skip))
  (.seq (.reg [.op none (some 10) (.ld (.t 2)),
    .op none (some 11) (.bin .mul (.c (.int .i64 8)) (.t 10)),
    .op none (some 12) (.mov (.t 0)),
    .op none (some 13) (.bin .add (.t 11) (.t 12)),
    .op none (some 4) (.mov (.t 13))] [4])
  .ret)))

def F20 : VFn := { nt := 14, res := [.tmp 4], body := c20 }
theorem is20 : compFn Try.prog h20 20 = some F20 := by kernel_rfl

/-! loop.example/pub-g03469/spec.both -/
def h21 : List (Nat × List Nat) := [(0, [0, 1]), (1, [4, 5])]
def c21 : VC := (.seq (.reg [.op none (some 4) (.mov (.c (.int .i32 0))),
    .op none (some 5) (.mov (.c (.int .i32 0)))] [0, 1])
  (.seq (.reg [.op none (some 6) (.mov (.t 0)),
    .op none (some 7) (.mov (.t 1)),
    .op none (some 8) (.bin .add (.t 6) (.t 7)),
    .op none (some 9) (.mov (.t 0)),
    .op none (some 10) (.mov (.t 1)),
    .op none (some 11) (.bin .sub (.t 9) (.t 10)),
    .op none (some 4) (.mov (.t 8)),
    .op none (some 5) (.mov (.t 11))] [4, 5])
  .ret))

def F21 : VFn := { nt := 12, res := [.tmp 4, .tmp 5], body := c21 }
theorem is21 : compFn Try.prog h21 21 = some F21 := by kernel_rfl

/-! loop.example/pub-g03469/spec.box -/
def h22 : List (Nat × List Nat) := [(0, [0, 1, 2, 3]), (1, [0, 1, 2, 3, 10]), (2, [8, 9])]
def c22 : VC := (.seq (.reg [.op none (some 8) (.mov (.c (.int .i32 0))),
    .op none (some 9) (.mov (.c (.int .i32 0)))] [0, 1, 2, 3])
  (.seq (.reg [.op none (some 11) (.mov (.t 2)),
    .op none (some 12) (.mov (.t 0)),
    .op none (some 13) (.mov (.t 1)),
    .op none (some 14) (.bin .add (.t 12) (.t 13)),
    .op none (some 15) (.bin .mul (.t 11) (.t 14)),
    .op none (some 10) (.mov (.t 15))] [0, 1, 2, 3, 10])
  (.seq (.reg [.op none (some 16) (.mov (.t 10)),
    .op none (some 17) (.mov (.t 3)),
    .op none (some 18) (.mov (.t 2)),
    .op none (some 19) (.bin .sub (.t 17) (.t 18)),
    .op none (some 20) (.mov (.t 1)),
    .op none (some 21) (.bin .mul (.t 19) (.t 20)),
    .op none (some 22) (.bin .add (.t 16) (.t 21)),
    .op none (some 23) (.mov (.t 10)),
    .op none (some 24) (.mov (.t 2)),
    .op none (some 25) (.mov (.t 3)),
    .op none (some 26) (.bin .add (.t 24) (.t 25)),
    .op none (some 27) (.mov (.t 0)),
    .op none (some 28) (.bin .mul (.t 26) (.t 27)),
    .op none (some 29) (.bin .sub (.t 23) (.t 28)),
    .op none (some 8) (.mov (.t 22)),
    .op none (some 9) (.mov (.t 29))] [8, 9])
  .ret)))

def F22 : VFn := { nt := 30, res := [.tmp 8, .tmp 9], body := c22 }
theorem is22 : compFn Try.prog h22 22 = some F22 := by kernel_rfl

/-! loop.example/pub-g03469/pub/jpeg.fdct -/
def h23 : List (Nat × List Nat) := [(0, [0]), (1, [])]
def c23 : VC := (.seq (.reg [.op none (some 2) (.mov (.t 0)),
    .call (some 3) 26 [(.t 2)]] [0])
  (.reg [.op none (some 4) (.mov (.t 0)),
    .call (some 5) 27 [(.t 4)]] []))

def F23 : VFn := { nt := 6, res := [], body := c23 }
theorem is23 : compFn Try.prog h23 23 = some F23 := by kernel_rfl

/-! loop.example/pub-g03469/pub/jpeg.idctRows -/
def h24 : List (Nat × List Nat) := [(0, [0, 12]), (1, [0, 12, 13]), (2, [0, 2, 12]), (3, [0, 3, 12]), (4, [0, 3, 4, 12]), (5, [0, 3, 4, 5, 12]), (6, [0, 3, 4, 5, 6, 12]), (7, [0, 3, 4, 5, 6, 7, 12]), (8, [0, 3, 4, 5, 6, 7, 8, 12]), (9, [0, 3, 4, 5, 6, 7, 8, 9, 12]), (10, [0, 3, 4, 5, 6, 7, 8, 9, 10, 12]), (11, [0, 3, 4, 5, 6, 7, 8, 9, 10, 11, 12]), (12, [0, 3, 4, 5, 6, 7, 8, 9, 10, 11, 12]), (13, [0, 3, 4, 5, 6, 7, 8, 9, 10, 11, 12]), (14, [0, 3, 4, 5, 6, 7, 8, 9, 10, 11, 12]), (15, [0, 3, 4, 5, 6, 7, 8, 9, 10, 11, 12]), (16, [0, 3, 4, 5, 6, 7, 8, 9, 10, 11, 12]), (17, [0, 3, 4, 5, 6, 7, 8, 9, 10, 11, 12]), (18, [0, 3, 4, 5, 6, 7, 8, 9, 10, 11, 12]), (19, [0, 3, 4, 5, 6, 7, 8, 9, 10, 11, 12]), (20, [0, 3, 4, 5, 6, 7, 8, 9, 10, 11, 12]), (21, [0, 3, 4, 5, 6, 7, 8, 9, 10, 11, 12]), (22, [0, 3, 4, 5, 6, 7, 8, 9, 10, 11, 12]), (23, [0, 3, 4, 5, 6, 7, 8, 9, 10, 11, 12]), (24, [0, 3, 4, 5, 6, 7, 8, 9, 10, 11, 12]), (25, [0, 3, 4, 5, 6, 7, 8, 9, 10, 11, 12]), (26, [0, 3, 4, 5, 6, 7, 8, 9, 10, 11, 12]), (27, [0, 3, 4, 5, 6, 7, 8, 9, 10, 11, 12]), (28, [0, 3, 4, 5, 6, 7, 8, 9, 10, 11, 12]), (29, [0, 3, 4, 5, 6, 7, 8, 9, 10, 11, 12]), (30, [0, 3, 4, 5, 6, 7, 8, 9, 10, 11, 12]), (31, [0, 3, 5, 6, 7, 8, 9, 10, 11, 12]), (32, [0, 3, 5, 6, 7, 9, 10, 11, 12]), (33, [0, 3, 5, 7, 9, 10, 11, 12]), (34, [0, 3, 5, 7, 9, 11, 12]), (35, [0, 3, 5, 7, 9, 12]), (36, [0, 3, 5, 9, 12]), (37, [0, 3, 5, 12]), (38, [0, 12]), (39, [0, 12])]
def c24l0 : VC := (.seq (.reg [.op none (some 13) (.bin .lss (.t 12) (.c (.int .i64 8)))] [0, 12, 13])
  (.seq (.cond (.t 13) .skip
  (.exit 0))
  (.seq (.block 1 (.seq (.reg [.op none (some 14) (.mov (.t 12)),
    .op none (some 2) (.mov (.t 14))] [0, 2, 12])
  (.seq (.reg [.op none (some 15) (.mov (.t 0)),
    .op none (some 16) (.nilck (.t 15)),
    .op none (some 17) (.mov (.t 2)),
    .op none (some 18) (.bin .mul (.c (.int .i64 8)) (.t 17)),
    .op none (some 19) (.mov (.t 2)),
    .op none (some 20) (.bin .mul (.c (.int .i64 8)) (.t 19)),
    .op none (some 21) (.bin .add (.t 20) (.c (.int .i64 8))),
    .op none (some 22) (.mov (.t 2)),
    .op none (some 23) (.bin .mul (.c (.int .i64 8)) (.t 22)),
    .op none (some 24) (.bin .add (.t 23) (.c (.int .i64 8))),
    .op none (some 25) (.slc 64 1 (.t 16) (some (.t 18)) (some (.t 21)) (some (.t 24))),
    .op none (some 3) (.mov (.t 25))] [0, 3, 12])
  (.seq (.reg [.op none (some 26) (.mov (.t 3)),
    .op none (some 27) (.idxS 1 (.t 26) (.c (.int .i64 0))),
    .op none (some 28) (.ld (.t 27)),
    .op none (some 4) (.mov (.t 28))] [0, 3, 4, 12])
  (.seq (.reg [.op none (some 29) (.mov (.t 3)),
    .op none (some 30) (.idxS 1 (.t 29) (.c (.int .i64 1))),
    .op none (some 31) (.ld (.t 30)),
    .op none (some 5) (.mov (.t 31))] [0, 3, 4, 5, 12])
  (.seq (.reg [.op none (some 32) (.mov (.t 3)),
    .op none (some 33) (.idxS 1 (.t 32) (.c (.int .i64 2))),
    .op none (some 34) (.ld (.t 33)),
    .op none (some 6) (.mov (.t 34))] [0, 3, 4, 5, 6, 12])
  (.seq (.reg [.op none (some 35) (.mov (.t 3)),
    .op none (some 36) (.idxS 1 (.t 35) (.c (.int .i64 3))),
    .op none (some 37) (.ld (.t 36)),
    .op none (some 7) (.mov (.t 37))] [0, 3, 4, 5, 6, 7, 12])
  (.seq (.reg [.op none (some 38) (.mov (.t 3)),
    .op none (some 39) (.idxS 1 (.t 38) (.c (.int .i64 4))),
    .op none (some 40) (.ld (.t 39)),
    .op none (some 8) (.mov (.t 40))] [0, 3, 4, 5, 6, 7, 8, 12])
  (.seq (.reg [.op none (some 41) (.mov (.t 3)),
    .op none (some 42) (.idxS 1 (.t 41) (.c (.int .i64 5))),
    .op none (some 43) (.ld (.t 42)),
    .op none (some 9) (.mov (.t 43))] [0, 3, 4, 5, 6, 7, 8, 9, 12])
  (.seq (.reg [.op none (some 44) (.mov (.t 3)),
    .op none (some 45) (.idxS 1 (.t 44) (.c (.int .i64 6))),
    .op none (some 46) (.ld (.t 45)),
    .op none (some 10) (.mov (.t 46))] [0, 3, 4, 5, 6, 7, 8, 9, 10, 12])
  (.seq (.reg [.op none (some 47) (.mov (.t 3)),
    .op none (some 48) (.idxS 1 (.t 47) (.c (.int .i64 7))),
    .op none (some 49) (.ld (.t 48)),
    .op none (some 11) (.mov (.t 49))] [0, 3, 4, 5, 6, 7, 8, 9, 10, 11, 12])
  (.seq (.reg [.op none (some 50) (.mov (.t 4)),
    .op none (some 51) (.bin .shl (.t 50) (.c (.int .u64 17))),
    .op none (some 4) (.mov (.t 51))] [0, 3, 4, 5, 6, 7, 8, 9, 10, 11, 12])
  (.seq (.reg [.op none (some 52) (.mov (.t 8)),
    .op none (some 53) (.bin .shl (.t 52) (.c (.int .u64 17))),
    .op none (some 8) (.mov (.t 53))] [0, 3, 4, 5, 6, 7, 8, 9, 10, 11, 12])
  (.seq (.reg [.op none (some 54) (.mov (.t 4)),
    .op none (some 55) (.mov (.t 8)),
    .op none (some 56) (.bin .add (.t 54) (.t 55)),
    .op none (some 57) (.mov (.t 4)),
    .op none (some 58) (.mov (.t 8)),
    .op none (some 59) (.bin .sub (.t 57) (.t 58)),
    .op none (some 4) (.mov (.t 56)),
    .op none (some 8) (.mov (.t 59))] [0, 3, 4, 5, 6, 7, 8, 9, 10, 11, 12])
  (.seq (.reg [.op none (some 61) (.mov (.t 6)),
    .op none (some 62) (.mov (.t 10)),
    .call (some 63) 29 [(.c (.int .u64 311978311033955632)), (.c (.int .i64 18))],
    .call (some 64) 29 [(.c (.int .u64 753182269664427492)), (.c (.int .i64 18))],
    .op none (some 65) (.un .neg (.t 64)),
    .call (some 66) 28 [(.t 61), (.t 62), (.t 63), (.t 65)],
    .op none (some 60) (.mov (.t 66)),
    .op none (some 67) (.tupx (.t 60) 0),
    .op none (some 68) (.tupx (.t 60) 1),
    .op none (some 6) (.mov (.t 67)),
    .op none (some 10) (.mov (.t 68))] [0, 3, 4, 5, 6, 7, 8, 9, 10, 11, 12])
  (.seq (.reg [.op none (some 69) (.mov (.t 8)),
    .op none (some 70) (.mov (.t 6)),
    .op none (some 71) (.bin .add (.t 69) (.t 70)),
    .op none (some 72) (.mov (.t 8)),
    .op none (some 73) (.mov (.t 6)),
    .op none (some 74) (.bin .sub (.t 72) (.t 73)),
    .op none (some 8) (.mov (.t 71)),
    .op none (some 6) (.mov (.t 74))] [0, 3, 4, 5, 6, 7, 8, 9, 10, 11, 12])
  (.seq (.reg [.op none (some 75) (.mov (.t 4)),
    .op none (some 76) (.mov (.t 10)),
    .op none (some 77) (.bin .add (.t 75) (.t 76)),
    .op none (some 78) (.mov (.t 4)),
    .op none (some 79) (.mov (.t 10)),
    .op none (some 80) (.bin .sub (.t 78) (.t 79)),
    .op none (some 4) (.mov (.t 77)),
    .op none (some 10) (.mov (.t 80))] [0, 3, 4, 5, 6, 7, 8, 9, 10, 11, 12])
  (.seq (.reg [.op none (some 81) (.mov (.t 11)),
    .op none (some 82) (.bin .shl (.t 81) (.c (.int .u64 7))),
    .op none (some 11) (.mov (.t 82))] [0, 3, 4, 5, 6, 7, 8, 9, 10, 11, 12])
  (.seq (.reg [.op none (some 83) (.mov (.t 5)),
    .op none (some 84) (.bin .shl (.t 83) (.c (.int .u64 7))),
    .op none (some 5) (.mov (.t 84))] [0, 3, 4, 5, 6, 7, 8, 9, 10, 11, 12])
  (.seq (.reg [.op none (some 85) (.mov (.t 5)),
    .op none (some 86) (.mov (.t 11)),
    .op none (some 87) (.bin .add (.t 85) (.t 86)),
    .op none (some 88) (.mov (.t 5)),
    .op none (some 89) (.mov (.t 11)),
    .op none (some 90) (.bin .sub (.t 88) (.t 89)),
    .op none (some 5) (.mov (.t 87)),
    .op none (some 11) (.mov (.t 90))] [0, 3, 4, 5, 6, 7, 8, 9, 10, 11, 12])
  (.seq (.reg [.op none (some 91) (.mov (.t 9)),
    .call (some 92) 29 [(.c (.int .u64 815238614083298888)), (.c (.int .i64 8))],
    .op none (some 93) (.bin .mul (.t 91) (.t 92)),
    .op none (some 9) (.mov (.t 93))] [0, 3, 4, 5, 6, 7, 8, 9, 10, 11, 12])
  (.seq (.reg [.op none (some 94) (.mov (.t 7)),
    .call (some 95) 29 [(.c (.int .u64 815238614083298888)), (.c (.int .i64 8))],
    .op none (some 96) (.bin .mul (.t 94) (.t 95)),
    .op none (some 7) (.mov (.t 96))] [0, 3, 4, 5, 6, 7, 8, 9, 10, 11, 12])
  (.seq (.reg [.op none (some 97) (.mov (.t 5)),
    .op none (some 98) (.mov (.t 7)),
    .op none (some 99) (.bin .add (.t 97) (.t 98)),
    .op none (some 100) (.mov (.t 5)),
    .op none (some 101) (.mov (.t 7)),
    .op none (some 102) (.bin .sub (.t 100) (.t 101)),
    .op none (some 5) (.mov (.t 99)),
    .op none (some 7) (.mov (.t 102))] [0, 3, 4, 5, 6, 7, 8, 9, 10, 11, 12])
  (.seq (.reg [.op none (some 103) (.mov (.t 11)),
    .op none (some 104) (.mov (.t 9)),
    .op none (some 105) (.bin .add (.t 103) (.t 104)),
    .op none (some 106) (.mov (.t 11)),
    .op none (some 107) (.mov (.t 9)),
    .op none (some 108) (.bin .sub (.t 106) (.t 107)),
    .op none (some 11) (.mov (.t 105)),
    .op none (some 9) (.mov (.t 108))] [0, 3, 4, 5, 6, 7, 8, 9, 10, 11, 12])
  (.seq (.reg [.op none (some 110) (.mov (.t 11)),
    .op none (some 111) (.bin .shr (.t 110) (.c (.int .u64 2))),
    .op none (some 112) (.mov (.t 5)),
    .op none (some 113) (.bin .shr (.t 112) (.c (.int .u64 2))),
    .call (some 114) 29 [(.c (.int .u64 958619196450722178)), (.c (.int .i64 12))],
    .call (some 115) 29 [(.c (.int .u64 640528868967736374)), (.c (.int .i64 12))],
    .op none (some 116) (.un .neg (.t 115)),
    .call (some 117) 28 [(.t 111), (.t 113), (.t 114), (.t 116)],
    .op none (some 109) (.mov (.t 117)),
    .op none (some 118) (.tupx (.t 109) 0),
    .op none (some 119) (.tupx (.t 109) 1),
    .op none (some 11) (.mov (.t 118)),
    .op none (some 5) (.mov (.t 119))] [0, 3, 4, 5, 6, 7, 8, 9, 10, 11, 12])
  (.seq (.reg [.op none (some 121) (.mov (.t 7)),
    .op none (some 122) (.bin .shr (.t 121) (.c (.int .u64 2))),
    .op none (some 123) (.mov (.t 9)),
    .op none (some 124) (.bin .shr (.t 123) (.c (.int .u64 2))),
    .call (some 125) 29 [(.c (.int .u64 1130768441178740757)), (.c (.int .i64 12))],
    .call (some 126) 29 [(.c (.int .u64 224923827593068887)), (.c (.int .i64 12))],
    .op none (some 127) (.un .neg (.t 126)),
    .call (some 128) 28 [(.t 122), (.t 124), (.t 125), (.t 127)],
    .op none (some 120) (.mov (.t 128)),
    .op none (some 129) (.tupx (.t 120) 0),
    .op none (some 130) (.tupx (.t 120) 1),
    .op none (some 7) (.mov (.t 129)),
    .op none (some 9) (.mov (.t 130))] [0, 3, 4, 5, 6, 7, 8, 9, 10, 11, 12])
  (.seq (.reg [.op none (some 131) (.mov (.t 4)),
    .op none (some 132) (.mov (.t 5)),
    .op none (some 133) (.bin .add (.t 131) (.t 132)),
    .op none (some 134) (.mov (.t 4)),
    .op none (some 135) (.mov (.t 5)),
    .op none (some 136) (.bin .sub (.t 134) (.t 135)),
    .op none (some 4) (.mov (.t 133)),
    .op none (some 5) (.mov (.t 136))] [0, 3, 4, 5, 6, 7, 8, 9, 10, 11, 12])
  (.seq (.reg [.op none (some 137) (.mov (.t 8)),
    .op none (some 138) (.mov (.t 9)),
    .op none (some 139) (.bin .add (.t 137) (.t 138)),
    .op none (some 140) (.mov (.t 8)),
    .op none (some 141) (.mov (.t 9)),
    .op none (some 142) (.bin .sub (.t 140) (.t 141)),
    .op none (some 8) (.mov (.t 139)),
    .op none (some 9) (.mov (.t 142))] [0, 3, 4, 5, 6, 7, 8, 9, 10, 11, 12])
  (.seq (.reg [.op none (some 143) (.mov (.t 6)),
    .op none (some 144) (.mov (.t 7)),
    .op none (some 145) (.bin .add (.t 143) (.t 144)),
    .op none (some 146) (.mov (.t 6)),
    .op none (some 147) (.mov (.t 7)),
    .op none (some 148) (.bin .sub (.t 146) (.t 147)),
    .op none (some 6) (.mov (.t 145)),
    .op none (some 7) (.mov (.t 148))] [0, 3, 4, 5, 6, 7, 8, 9, 10, 11, 12])
  (.seq (.reg [.op none (some 149) (.mov (.t 10)),
    .op none (some 150) (.mov (.t 11)),
    .op none (some 151) (.bin .add (.t 149) (.t 150)),
    .op none (some 152) (.mov (.t 10)),
    .op none (some 153) (.mov (.t 11)),
    .op none (some 154) (.bin .sub (.t 152) (.t 153)),
    .op none (some 10) (.mov (.t 151)),
    .op none (some 11) (.mov (.t 154))] [0, 3, 4, 5, 6, 7, 8, 9, 10, 11, 12])
  (.seq (.reg [.op none (some 155) (.mov (.t 3)),
    .op none (some 156) (.mov (.t 4)),
    .op none (some 157) (.idxS 1 (.t 155) (.c (.int .i64 0))),
    .op none none (.st 1 (.t 157) (.t 156))] [0, 3, 5, 6, 7, 8, 9, 10, 11, 12])
  (.seq (.reg [.op none (some 158) (.mov (.t 3)),
    .op none (some 159) (.mov (.t 8)),
    .op none (some 160) (.idxS 1 (.t 158) (.c (.int .i64 1))),
    .op none none (.st 1 (.t 160) (.t 159))] [0, 3, 5, 6, 7, 9, 10, 11, 12])
  (.seq (.reg [.op none (some 161) (.mov (.t 3)),
    .op none (some 162) (.mov (.t 6)),
    .op none (some 163) (.idxS 1 (.t 161) (.c (.int .i64 2))),
    .op none none (.st 1 (.t 163) (.t 162))] [0, 3, 5, 7, 9, 10, 11, 12])
  (.seq (.reg [.op none (some 164) (.mov (.t 3)),
    .op none (some 165) (.mov (.t 10)),
    .op none (some 166) (.idxS 1 (.t 164) (.c (.int .i64 3))),
    .op none none (.st 1 (.t 166) (.t 165))] [0, 3, 5, 7, 9, 11, 12])
  (.seq (.reg [.op none (some 167) (.mov (.t 3)),
    .op none (some 168) (.mov (.t 11)),
    .op none (some 169) (.idxS 1 (.t 167) (.c (.int .i64 4))),
    .op none none (.st 1 (.t 169) (.t 168))] [0, 3, 5, 7, 9, 12])
  (.seq (.reg [.op none (some 170) (.mov (.t 3)),
    .op none (some 171) (.mov (.t 7)),
    .op none (some 172) (.idxS 1 (.t 170) (.c (.int .i64 5))),
    .op none none (.st 1 (.t 172) (.t 171))] [0, 3, 5, 9, 12])
  (.seq (.reg [.op none (some 173) (.mov (.t 3)),
    .op none (some 174) (.mov (.t 9)),
    .op none (some 175) (.idxS 1 (.t 173) (.c (.int .i64 6))),
    .op none none (.st 1 (.t 175) (.t 174))] [0, 3, 5, 12])
  (.reg [.op none (some 176) (.mov (.t 3)),
    .op none (some 177) (.mov (.t 5)),
    .op none (some 178) (.idxS 1 (.t 176) (.c (.int .i64 7))),
    .op none none (.st 1 (.t 178) (.t 177))] [0, 12]))))))))))))))))))))))))))))))))))))))
  (.reg [.op none (some 179) (.bin .add (.t 12) (.c (.int .i64 1))),
    .op none (some 12) (.mov (.t 179))] [0, 12]))))

def c24 : VC := (.seq (.reg [.op none (some 12) (.mov (.c (.int .i64 0)))] [0, 12])
  (.block 0 (.loop c24l0)))

def F24 : VFn := { nt := 180, res := [], body := c24 }
theorem is24 : compFn Try.prog h24 24 = some F24 := by kernel_rfl

/-! loop.example/pub-g03469/pub/jpeg.idctCols -/
def h25 : List (Nat × List Nat) := [(0, [0, 11]), (1, [0, 11, 12]), (2, [0, 2, 11]), (3, [0, 2, 3, 11]), (4, [0, 2, 3, 4, 11]), (5, [0, 2, 3, 4, 5, 11]), (6, [0, 2, 3, 4, 5, 6, 11]), (7, [0, 2, 3, 4, 5, 6, 7, 11]), (8, [0, 2, 3, 4, 5, 6, 7, 8, 11]), (9, [0, 2, 3, 4, 5, 6, 7, 8, 9, 11]), (10, [0, 2, 3, 4, 5, 6, 7, 8, 9, 10, 11]), (11, [0, 2, 3, 4, 5, 6, 7, 8, 9, 10, 11]), (12, [0, 2, 3, 4, 5, 6, 7, 8, 9, 10, 11]), (13, [0, 2, 3, 4, 5, 6, 7, 8, 9, 10, 11]), (14, [0, 2, 3, 4, 5, 6, 7, 8, 9, 10, 11]), (15, [0, 2, 3, 4, 5, 6, 7, 8, 9, 10, 11]), (16, [0, 2, 3, 4, 5, 6, 7, 8, 9, 10, 11]), (17, [0, 2, 3, 4, 5, 6, 7, 8, 9, 10, 11]), (18, [0, 2, 3, 4, 5, 6, 7, 8, 9, 10, 11]), (19, [0, 2, 3, 4, 5, 6, 7, 8, 9, 10, 11]), (20, [0, 2, 3, 4, 5, 6, 7, 8, 9, 10, 11]), (21, [0, 2, 3, 4, 5, 6, 7, 8, 9, 10, 11]), (22, [0, 2, 3, 4, 5, 6, 7, 8, 9, 10, 11]), (23, [0, 2, 3, 4, 5, 6, 7, 8, 9, 10, 11]), (24, [0, 2, 3, 4, 5, 6, 7, 8, 9, 10, 11]), (25, [0, 2, 3, 4, 5, 6, 7, 8, 9, 10, 11]), (26, [0, 2, 3, 4, 5, 6, 7, 8, 9, 10, 11]), (27, [0, 2, 3, 4, 5, 6, 7, 8, 9, 10, 11]), (28, [0, 2, 3, 4, 5, 6, 7, 8, 9, 10, 11]), (29, [0, 2, 3, 4, 5, 6, 7, 8, 9, 10, 11]), (30, [0, 2, 3, 4, 5, 6, 7, 8, 9, 10, 11]), (31, [0, 2, 3, 4, 5, 6, 7, 8, 9, 10, 11]), (32, [0, 2, 3, 4, 5, 6, 7, 8, 9, 10, 11]), (33, [0, 2, 3, 4, 5, 6, 7, 8, 9, 10, 11]), (34, [0, 2, 3, 4, 5, 6, 7, 8, 9, 10, 11]), (35, [0, 2, 4, 5, 6, 7, 8, 9, 10, 11]), (36, [0, 2, 4, 5, 6, 8, 9, 10, 11]), (37, [0, 2, 4, 6, 8, 9, 10, 11]), (38, [0, 2, 4, 6, 8, 10, 11]), (39, [0, 2, 4, 6, 8, 11]), (40, [0, 2, 4, 8, 11]), (41, [0, 2, 4, 11]), (42, [0, 11]), (43, [0, 11])]
def c25l0 : VC := (.seq (.reg [.op none (some 12) (.bin .lss (.t 11) (.c (.int .i64 8)))] [0, 11, 12])
  (.seq (.cond (.t 12) .skip
  (.exit 0))
  (.seq (.block 1 (.seq (.reg [.op none (some 13) (.mov (.t 11)),
    .op none (some 2) (.mov (.t 13))] [0, 2, 11])
  (.seq (.reg [.op none (some 14) (.mov (.t 0)),
    .op none (some 15) (.mov (.t 2)),
    .op none (some 16) (.bin .add (.c (.int .i64 0)) (.t 15)),
    .op none (some 17) (.nilck (.t 14)),
    .op none (some 18) (.idxA 64 1 (.t 17) (.t 16)),
    .op none (some 19) (.ld (.t 18)),
    .op none (some 3) (.mov (.t 19))] [0, 2, 3, 11])
  (.seq (.reg [.op none (some 20) (.mov (.t 0)),
    .op none (some 21) (.mov (.t 2)),
    .op none (some 22) (.bin .add (.c (.int .i64 8)) (.t 21)),
    .op none (some 23) (.nilck (.t 20)),
    .op none (some 24) (.idxA 64 1 (.t 23) (.t 22)),
    .op none (some 25) (.ld (.t 24)),
    .op none (some 4) (.mov (.t 25))] [0, 2, 3, 4, 11])
  (.seq (.reg [.op none (some 26) (.mov (.t 0)),
    .op none (some 27) (.mov (.t 2)),
    .op none (some 28) (.bin .add (.c (.int .i64 16)) (.t 27)),
    .op none (some 29) (.nilck (.t 26)),
    .op none (some 30) (.idxA 64 1 (.t 29) (.t 28)),
    .op none (some 31) (.ld (.t 30)),
    .op none (some 5) (.mov (.t 31))] [0, 2, 3, 4, 5, 11])
  (.seq (.reg [.op none (some 32) (.mov (.t 0)),
    .op none (some 33) (.mov (.t 2)),
    .op none (some 34) (.bin .add (.c (.int .i64 24)) (.t 33)),
    .op none (some 35) (.nilck (.t 32)),
    .op none (some 36) (.idxA 64 1 (.t 35) (.t 34)),
    .op none (some 37) (.ld (.t 36)),
    .op none (some 6) (.mov (.t 37))] [0, 2, 3, 4, 5, 6, 11])
  (.seq (.reg [.op none (some 38) (.mov (.t 0)),
    .op none (some 39) (.mov (.t 2)),
    .op none (some 40) (.bin .add (.c (.int .i64 32)) (.t 39)),
    .op none (some 41) (.nilck (.t 38)),
    .op none (some 42) (.idxA 64 1 (.t 41) (.t 40)),
    .op none (some 43) (.ld (.t 42)),
    .op none (some 7) (.mov (.t 43))] [0, 2, 3, 4, 5, 6, 7, 11])
  (.seq (.reg [.op none (some 44) (.mov (.t 0)),
    .op none (some 45) (.mov (.t 2)),
    .op none (some 46) (.bin .add (.c (.int .i64 40)) (.t 45)),
    .op none (some 47) (.nilck (.t 44)),
    .op none (some 48) (.idxA 64 1 (.t 47) (.t 46)),
    .op none (some 49) (.ld (.t 48)),
    .op none (some 8) (.mov (.t 49))] [0, 2, 3, 4, 5, 6, 7, 8, 11])
  (.seq (.reg [.op none (some 50) (.mov (.t 0)),
    .op none (some 51) (.mov (.t 2)),
    .op none (some 52) (.bin .add (.c (.int .i64 48)) (.t 51)),
    .op none (some 53) (.nilck (.t 50)),
    .op none (some 54) (.idxA 64 1 (.t 53) (.t 52)),
    .op none (some 55) (.ld (.t 54)),
    .op none (some 9) (.mov (.t 55))] [0, 2, 3, 4, 5, 6, 7, 8, 9, 11])
  (.seq (.reg [.op none (some 56) (.mov (.t 0)),
    .op none (some 57) (.mov (.t 2)),
    .op none (some 58) (.bin .add (.c (.int .i64 56)) (.t 57)),
    .op none (some 59) (.nilck (.t 56)),
    .op none (some 60) (.idxA 64 1 (.t 59) (.t 58)),
    .op none (some 61) (.ld (.t 60)),
    .op none (some 10) (.mov (.t 61))] [0, 2, 3, 4, 5, 6, 7, 8, 9, 10, 11])
  (.seq (.reg [.op none (some 62) (.mov (.t 3)),
    .op none (some 63) (.bin .add (.t 62) (.c (.int .i32 524288))),
    .op none (some 3) (.mov (.t 63))] [0, 2, 3, 4, 5, 6, 7, 8, 9, 10, 11])
  (.seq (.reg [.op none (some 64) (.mov (.t 3)),
    .op none (some 65) (.mov (.t 7)),
    .op none (some 66) (.bin .add (.t 64) (.t 65)),
    .op none (some 67) (.bin .shr (.t 66) (.c (.int .u64 2))),
    .op none (some 68) (.mov (.t 3)),
    .op none (some 69) (.mov (.t 7)),
    .op none (some 70) (.bin .sub (.t 68) (.t 69)),
    .op none (some 71) (.bin .shr (.t 70) (.c (.int .u64 2))),
    .op none (some 3) (.mov (.t 67)),
    .op none (some 7) (.mov (.t 71))] [0, 2, 3, 4, 5, 6, 7, 8, 9, 10, 11])
  (.seq (.reg [.op none (some 73) (.mov (.t 5)),
    .op none (some 74) (.bin .shr (.t 73) (.c (.int .u64 13))),
    .op none (some 75) (.mov (.t 9)),
    .op none (some 76) (.bin .shr (.t 75) (.c (.int .u64 13))),
    .call (some 77) 29 [(.c (.int .u64 311978311033955632)), (.c (.int .i64 12))],
    .call (some 78) 29 [(.c (.int .u64 753182269664427492)), (.c (.int .i64 12))],
    .op none (some 79) (.un .neg (.t 78)),
    .call (some 80) 28 [(.t 74), (.t 76), (.t 77), (.t 79)],
    .op none (some 72) (.mov (.t 80)),
    .op none (some 81) (.tupx (.t 72) 0),
    .op none (some 82) (.tupx (.t 72) 1),
    .op none (some 5) (.mov (.t 81)),
    .op none (some 9) (.mov (.t 82))] [0, 2, 3, 4, 5, 6, 7, 8, 9, 10, 11])
  (.seq (.reg [.op none (some 83) (.mov (.t 7)),
    .op none (some 84) (.mov (.t 5)),
    .op none (some 85) (.bin .add (.t 83) (.t 84)),
    .op none (some 86) (.mov (.t 7)),
    .op none (some 87) (.mov (.t 5)),
    .op none (some 88) (.bin .sub (.t 86) (.t 87)),
    .op none (some 7) (.mov (.t 85)),
    .op none (some 5) (.mov (.t 88))] [0, 2, 3, 4, 5, 6, 7, 8, 9, 10, 11])
  (.seq (.reg [.op none (some 89) (.mov (.t 3)),
    .op none (some 90) (.mov (.t 9)),
    .op none (some 91) (.bin .add (.t 89) (.t 90)),
    .op none (some 92) (.mov (.t 3)),
    .op none (some 93) (.mov (.t 9)),
    .op none (some 94) (.bin .sub (.t 92) (.t 93)),
    .op none (some 3) (.mov (.t 91)),
    .op none (some 9) (.mov (.t 94))] [0, 2, 3, 4, 5, 6, 7, 8, 9, 10, 11])
  (.seq (.reg [.op none (some 95) (.mov (.t 4)),
    .op none (some 96) (.mov (.t 10)),
    .op none (some 97) (.bin .add (.t 95) (.t 96)),
    .op none (some 98) (.mov (.t 4)),
    .op none (some 99) (.mov (.t 10)),
    .op none (some 100) (.bin .sub (.t 98) (.t 99)),
    .op none (some 4) (.mov (.t 97)),
    .op none (some 10) (.mov (.t 100))] [0, 2, 3, 4, 5, 6, 7, 8, 9, 10, 11])
  (.seq (.reg [.op none (some 101) (.mov (.t 6)),
    .op none (some 102) (.bin .shr (.t 101) (.c (.int .u64 13))),
    .call (some 103) 29 [(.c (.int .u64 815238614083298888)), (.c (.int .i64 14))],
    .op none (some 104) (.bin .mul (.t 102) (.t 103)),
    .op none (some 6) (.mov (.t 104))] [0, 2, 3, 4, 5, 6, 7, 8, 9, 10, 11])
  (.seq (.reg [.op none (some 105) (.mov (.t 8)),
    .op none (some 106) (.bin .shr (.t 105) (.c (.int .u64 13))),
    .call (some 107) 29 [(.c (.int .u64 815238614083298888)), (.c (.int .i64 14))],
    .op none (some 108) (.bin .mul (.t 106) (.t 107)),
    .op none (some 8) (.mov (.t 108))] [0, 2, 3, 4, 5, 6, 7, 8, 9, 10, 11])
  (.seq (.reg [.op none (some 109) (.mov (.t 4)),
    .op none (some 110) (.mov (.t 6)),
    .op none (some 111) (.bin .add (.t 109) (.t 110)),
    .op none (some 112) (.mov (.t 4)),
    .op none (some 113) (.mov (.t 6)),
    .op none (some 114) (.bin .sub (.t 112) (.t 113)),
    .op none (some 4) (.mov (.t 111)),
    .op none (some 6) (.mov (.t 114))] [0, 2, 3, 4, 5, 6, 7, 8, 9, 10, 11])
  (.seq (.reg [.op none (some 115) (.mov (.t 10)),
    .op none (some 116) (.mov (.t 8)),
    .op none (some 117) (.bin .add (.t 115) (.t 116)),
    .op none (some 118) (.mov (.t 10)),
    .op none (some 119) (.mov (.t 8)),
    .op none (some 120) (.bin .sub (.t 118) (.t 119)),
    .op none (some 10) (.mov (.t 117)),
    .op none (some 8) (.mov (.t 120))] [0, 2, 3, 4, 5, 6, 7, 8, 9, 10, 11])
  (.seq (.reg [.op none (some 122) (.mov (.t 10)),
    .op none (some 123) (.bin .shr (.t 122) (.c (.int .u64 14))),
    .op none (some 124) (.mov (.t 4)),
    .op none (some 125) (.bin .shr (.t 124) (.c (.int .u64 14))),
    .call (some 126) 29 [(.c (.int .u64 958619196450722178)), (.c (.int .i64 12))],
    .call (some 127) 29 [(.c (.int .u64 640528868967736374)), (.c (.int .i64 12))],
    .op none (some 128) (.un .neg (.t 127)),
    .call (some 129) 28 [(.t 123), (.t 125), (.t 126), (.t 128)],
    .op none (some 121) (.mov (.t 129)),
    .op none (some 130) (.tupx (.t 121) 0),
    .op none (some 131) (.tupx (.t 121) 1),
    .op none (some 10) (.mov (.t 130)),
    .op none (some 4) (.mov (.t 131))] [0, 2, 3, 4, 5, 6, 7, 8, 9, 10, 11])
  (.seq (.reg [.op none (some 133) (.mov (.t 6)),
    .op none (some 134) (.bin .shr (.t 133) (.c (.int .u64 14))),
    .op none (some 135) (.mov (.t 8)),
    .op none (some 136) (.bin .shr (.t 135) (.c (.int .u64 14))),
    .call (some 137) 29 [(.c (.int .u64 1130768441178740757)), (.c (.int .i64 12))],
    .call (some 138) 29 [(.c (.int .u64 224923827593068887)), (.c (.int .i64 12))],
    .op none (some 139) (.un .neg (.t 138)),
    .call (some 140) 28 [(.t 134), (.t 136), (.t 137), (.t 139)],
    .op none (some 132) (.mov (.t 140)),
    .op none (some 141) (.tupx (.t 132) 0),
    .op none (some 142) (.tupx (.t 132) 1),
    .op none (some 6) (.mov (.t 141)),
    .op none (some 8) (.mov (.t 142))] [0, 2, 3, 4, 5, 6, 7, 8, 9, 10, 11])
  (.seq (.reg [.op none (some 143) (.mov (.t 3)),
    .op none (some 144) (.mov (.t 4)),
    .op none (some 145) (.bin .add (.t 143) (.t 144)),
    .op none (some 146) (.mov (.t 3)),
    .op none (some 147) (.mov (.t 4)),
    .op none (some 148) (.bin .sub (.t 146) (.t 147)),
    .op none (some 3) (.mov (.t 145)),
    .op none (some 4) (.mov (.t 148))] [0, 2, 3, 4, 5, 6, 7, 8, 9, 10, 11])
  (.seq (.reg [.op none (some 149) (.mov (.t 7)),
    .op none (some 150) (.mov (.t 8)),
    .op none (some 151) (.bin .add (.t 149) (.t 150)),
    .op none (some 152) (.mov (.t 7)),
    .op none (some 153) (.mov (.t 8)),
    .op none (some 154) (.bin .sub (.t 152) (.t 153)),
    .op none (some 7) (.mov (.t 151)),
    .op none (some 8) (.mov (.t 154))] [0, 2, 3, 4, 5, 6, 7, 8, 9, 10, 11])
  (.seq (.reg [.op none (some 155) (.mov (.t 5)),
    .op none (some 156) (.mov (.t 6)),
    .op none (some 157) (.bin .add (.t 155) (.t 156)),
    .op none (some 158) (.mov (.t 5)),
    .op none (some 159) (.mov (.t 6)),
    .op none (some 160) (.bin .sub (.t 158) (.t 159)),
    .op none (some 5) (.mov (.t 157)),
    .op none (some 6) (.mov (.t 160))] [0, 2, 3, 4, 5, 6, 7, 8, 9, 10, 11])
  (.seq (.reg [.op none (some 161) (.mov (.t 9)),
    .op none (some 162) (.mov (.t 10)),
    .op none (some 163) (.bin .add (.t 161) (.t 162)),
    .op none (some 164) (.mov (.t 9)),
    .op none (some 165) (.mov (.t 10)),
    .op none (some 166) (.bin .sub (.t 164) (.t 165)),
    .op none (some 9) (.mov (.t 163)),
    .op none (some 10) (.mov (.t 166))] [0, 2, 3, 4, 5, 6, 7, 8, 9, 10, 11])
  (.seq (.reg [.op none (some 167) (.mov (.t 3)),
    .op none (some 168) (.bin .shr (.t 167) (.c (.int .u64 18))),
    .op none (some 3) (.mov (.t 168))] [0, 2, 3, 4, 5, 6, 7, 8, 9, 10, 11])
  (.seq (.reg [.op none (some 169) (.mov (.t 7)),
    .op none (some 170) (.bin .shr (.t 169) (.c (.int .u64 18))),
    .op none (some 7) (.mov (.t 170))] [0, 2, 3, 4, 5, 6, 7, 8, 9, 10, 11])
  (.seq (.reg [.op none (some 171) (.mov (.t 5)),
    .op none (some 172) (.bin .shr (.t 171) (.c (.int .u64 18))),
    .op none (some 5) (.mov (.t 172))] [0, 2, 3, 4, 5, 6, 7, 8, 9, 10, 11])
  (.seq (.reg [.op none (some 173) (.mov (.t 9)),
    .op none (some 174) (.bin .shr (.t 173) (.c (.int .u64 18))),
    .op none (some 9) (.mov (.t 174))] [0, 2, 3, 4, 5, 6, 7, 8, 9, 10, 11])
  (.seq (.reg [.op none (some 175) (.mov (.t 10)),
    .op none (some 176) (.bin .shr (.t 175) (.c (.int .u64 18))),
    .op none (some 10) (.mov (.t 176))] [0, 2, 3, 4, 5, 6, 7, 8, 9, 10, 11])
  (.seq (.reg [.op none (some 177) (.mov (.t 6)),
    .op none (some 178) (.bin .shr (.t 177) (.c (.int .u64 18))),
    .op none (some 6) (.mov (.t 178))] [0, 2, 3, 4, 5, 6, 7, 8, 9, 10, 11])
  (.seq (.reg [.op none (some 179) (.mov (.t 8)),
    .op none (some 180) (.bin .shr (.t 179) (.c (.int .u64 18))),
    .op none (some 8) (.mov (.t 180))] [0, 2, 3, 4, 5, 6, 7, 8, 9, 10, 11])
  (.seq (.reg [.op none (some 181) (.mov (.t 4)),
    .op none (some 182) (.bin .shr (.t 181) (.c (.int .u64 18))),
    .op none (some 4) (.mov (.t 182))] [0, 2, 3, 4, 5, 6, 7, 8, 9, 10, 11])
  (.seq (.reg [.op none (some 183) (.mov (.t 0)),
    .op none (some 184) (.mov (.t 2)),
    .op none (some 185) (.bin .add (.c (.int .i64 0)) (.t 184)),
    .op none (some 186) (.mov (.t 3)),
    .op none (some 187) (.nilck (.t 183)),
    .op none (some 188) (.idxA 64 1 (.t 187) (.t 185)),
    .op none none (.st 1 (.t 188) (.t 186))] [0, 2, 4, 5, 6, 7, 8, 9, 10, 11])
  (.seq (.reg [.op none (some 189) (.mov (.t 0)),
    .op none (some 190) (.mov (.t 2)),
    .op none (some 191) (.bin .add (.c (.int .i64 8)) (.t 190)),
    .op none (some 192) (.mov (.t 7)),
    .op none (some 193) (.nilck (.t 189)),
    .op none (some 194) (.idxA 64 1 (.t 193) (.t 191)),
    .op none none (.st 1 (.t 194) (.t 192))] [0, 2, 4, 5, 6, 8, 9, 10, 11])
  (.seq (.reg [.op none (some 195) (.mov (.t 0)),
    .op none (some 196) (.mov (.t 2)),
    .op none (some 197) (.bin .add (.c (.int .i64 16)) (.t 196)),
    .op none (some 198) (.mov (.t 5)),
    .op none (some 199) (.nilck (.t 195)),
    .op none (some 200) (.idxA 64 1 (.t 199) (.t 197)),
    .op none none (.st 1 (.t 200) (.t 198))] [0, 2, 4, 6, 8, 9, 10, 11])
  (.seq (.reg [.op none (some 201) (.mov (.t 0)),
    .op none (some 202) (.mov (.t 2)),
    .op none (some 203) (.bin .add (.c (.int .i64 24)) (.t 202)),
    .op none (some 204) (.mov (.t 9)),
    .op none (some 205) (.nilck (.t 201)),
    .op none (some 206) (.idxA 64 1 (.t 205) (.t 203)),
    .op none none (.st 1 (.t 206) (.t 204))] [0, 2, 4, 6, 8, 10, 11])
  (.seq (.reg [.op none (some 207) (.mov (.t 0)),
    .op none (some 208) (.mov (.t 2)),
    .op none (some 209) (.bin .add (.c (.int .i64 32)) (.t 208)),
    .op none (some 210) (.mov (.t 10)),
    .op none (some 211) (.nilck (.t 207)),
    .op none (some 212) (.idxA 64 1 (.t 211) (.t 209)),
    .op none none (.st 1 (.t 212) (.t 210))] [0, 2, 4, 6, 8, 11])
  (.seq (.reg [.op none (some 213) (.mov (.t 0)),
    .op none (some 214) (.mov (.t 2)),
    .op none (some 215) (.bin .add (.c (.int .i64 40)) (.t 214)),
    .op none (some 216) (.mov (.t 6)),
    .op none (some 217) (.nilck (.t 213)),
    .op none (some 218) (.idxA 64 1 (.t 217) (.t 215)),
    .op none none (.st 1 (.t 218) (.t 216))] [0, 2, 4, 8, 11])
  (.seq (.reg [.op none (some 219) (.mov (.t 0)),
    .op none (some 220) (.mov (.t 2)),
    .op none (some 221) (.bin .add (.c (.int .i64 48)) (.t 220)),
    .op none (some 222) (.mov (.t 8)),
    .op none (some 223) (.nilck (.t 219)),
    .op none (some 224) (.idxA 64 1 (.t 223) (.t 221)),
    .op none none (.st 1 (.t 224) (.t 222))] [0, 2, 4, 11])
  (.reg [.op none (some 225) (.mov (.t 0)),
    .op none (some 226) (.mov (.t 2)),
    .op none (some 227) (.bin .add (.c (.int .i64 56)) (.t 226)),
    .op none (some 228) (.mov (.t 4)),
    .op none (some 229) (.nilck (.t 225)),
    .op none (some 230) (.idxA 64 1 (.t 229) (.t 227)),
    .op none none (.st 1 (.t 230) (.t 228))] [0, 11]))))))))))))))))))))))))))))))))))))))))))
  (.reg [.op none (some 231) (.bin .add (.t 11) (.c (.int .i64 1))),
    .op none (some 11) (.mov (.t 231))] [0, 11]))))

def c25 : VC := (.seq (.reg [.op none (some 11) (.mov (.c (.int .i64 0)))] [0, 11])
  (.block 0 (.loop c25l0)))

def F25 : VFn := { nt := 232, res := [], body := c25 }
theorem is25 : compFn Try.prog h25 25 = some F25 := by kernel_rfl

/-! loop.example/pub-g03469/pub/jpeg.fdctCols -/
def h26 : List (Nat × List Nat) := [(0, [0, 11]), (1, [0, 11, 12]), (2, [0, 2, 11]), (3, [0, 2, 3, 11]), (4, [0, 2, 3, 4, 11]), (5, [0, 2, 3, 4, 5, 11]), (6, [0, 2, 3, 4, 5, 6, 11]), (7, [0, 2, 3, 4, 5, 6, 7, 11]), (8, [0, 2, 3, 4, 5, 6, 7, 8, 11]), (9, [0, 2, 3, 4, 5, 6, 7, 8, 9, 11]), (10, [0, 2, 3, 4, 5, 6, 7, 8, 9, 10, 11]), (11, [0, 2, 3, 4, 5, 6, 7, 8, 9, 10, 11]), (12, [0, 2, 3, 4, 5, 6, 7, 8, 9, 10, 11]), (13, [0, 2, 3, 4, 5, 6, 7, 8, 9, 10, 11]), (14, [0, 2, 3, 4, 5, 6, 7, 8, 9, 10, 11]), (15, [0, 2, 3, 4, 5, 6, 7, 8, 9, 10, 11]), (16, [0, 2, 3, 4, 5, 6, 7, 8, 9, 10, 11]), (17, [0, 2, 3, 4, 5, 6, 7, 8, 9, 10, 11]), (18, [0, 2, 3, 4, 5, 6, 7, 8, 9, 10, 11]), (19, [0, 2, 3, 4, 5, 6, 7, 8, 9, 10, 11]), (20, [0, 2, 3, 4, 5, 6, 7, 8, 9, 10, 11]), (21, [0, 2, 4, 5, 6, 7, 8, 9, 10, 11]), (22, [0, 2, 5, 6, 7, 8, 9, 10, 11]), (23, [0, 2, 6, 7, 8, 9, 10, 11]), (24, [0, 2, 7, 8, 9, 10, 11]), (25, [0, 2, 7, 8, 9, 10, 11]), (26, [0, 2, 7, 8, 9, 10, 11]), (27, [0, 2, 7, 8, 9, 10, 11]), (28, [0, 2, 7, 8, 9, 10, 11]), (29, [0, 2, 7, 8, 9, 10, 11]), (30, [0, 2, 7, 8, 9, 11]), (31, [0, 2, 7, 9, 11]), (32, [0, 2, 7, 11]), (33, [0, 11]), (34, [0, 11])]
def c26l0 : VC := (.seq (.reg [.op none (some 12) (.bin .lss (.t 11) (.c (.int .i64 8)))] [0, 11, 12])
  (.seq (.cond (.t 12) .skip
  (.exit 0))
  (.seq (.block 1 (.seq (.reg [.op none (some 13) (.mov (.t 11)),
    .op none (some 2) (.mov (.t 13))] [0, 2, 11])
  (.seq (.reg [.op none (some 14) (.mov (.t 0)),
    .op none (some 15) (.mov (.t 2)),
    .op none (some 16) (.bin .add (.c (.int .i64 0)) (.t 15)),
    .op none (some 17) (.nilck (.t 14)),
    .op none (some 18) (.idxA 64 1 (.t 17) (.t 16)),
    .op none (some 19) (.ld (.t 18)),
    .op none (some 3) (.mov (.t 19))] [0, 2, 3, 11])
  (.seq (.reg [.op none (some 20) (.mov (.t 0)),
    .op none (some 21) (.mov (.t 2)),
    .op none (some 22) (.bin .add (.c (.int .i64 8)) (.t 21)),
    .op none (some 23) (.nilck (.t 20)),
    .op none (some 24) (.idxA 64 1 (.t 23) (.t 22)),
    .op none (some 25) (.ld (.t 24)),
    .op none (some 4) (.mov (.t 25))] [0, 2, 3, 4, 11])
  (.seq (.reg [.op none (some 26) (.mov (.t 0)),
    .op none (some 27) (.mov (.t 2)),
    .op none (some 28) (.bin .add (.c (.int .i64 16)) (.t 27)),
    .op none (some 29) (.nilck (.t 26)),
    .op none (some 30) (.idxA 64 1 (.t 29) (.t 28)),
    .op none (some 31) (.ld (.t 30)),
    .op none (some 5) (.mov (.t 31))] [0, 2, 3, 4, 5, 11])
  (.seq (.reg [.op none (some 32) (.mov (.t 0)),
    .op none (some 33) (.mov (.t 2)),
    .op none (some 34) (.bin .add (.c (.int .i64 24)) (.t 33)),
    .op none (some 35) (.nilck (.t 32)),
    .op none (some 36) (.idxA 64 1 (.t 35) (.t 34)),
    .op none (some 37) (.ld (.t 36)),
    .op none (some 6) (.mov (.t 37))] [0, 2, 3, 4, 5, 6, 11])
  (.seq (.reg [.op none (some 38) (.mov (.t 0)),
    .op none (some 39) (.mov (.t 2)),
    .op none (some 40) (.bin .add (.c (.int .i64 32)) (.t 39)),
    .op none (some 41) (.nilck (.t 38)),
    .op none (some 42) (.idxA 64 1 (.t 41) (.t 40)),
    .op none (some 43) (.ld (.t 42)),
    .op none (some 7) (.mov (.t 43))] [0, 2, 3, 4, 5, 6, 7, 11])
  (.seq (.reg [.op none (some 44) (.mov (.t 0)),
    .op none (some 45) (.mov (.t 2)),
    .op none (some 46) (.bin .add (.c (.int .i64 40)) (.t 45)),
    .op none (some 47) (.nilck (.t 44)),
    .op none (some 48) (.idxA 64 1 (.t 47) (.t 46)),
    .op none (some 49) (.ld (.t 48)),
    .op none (some 8) (.mov (.t 49))] [0, 2, 3, 4, 5, 6, 7, 8, 11])
  (.seq (.reg [.op none (some 50) (.mov (.t 0)),
    .op none (some 51) (.mov (.t 2)),
    .op none (some 52) (.bin .add (.c (.int .i64 48)) (.t 51)),
    .op none (some 53) (.nilck (.t 50)),
    .op none (some 54) (.idxA 64 1 (.t 53) (.t 52)),
    .op none (some 55) (.ld (.t 54)),
    .op none (some 9) (.mov (.t 55))] [0, 2, 3, 4, 5, 6, 7, 8, 9, 11])
  (.seq (.reg [.op none (some 56) (.mov (.t 0)),
    .op none (some 57) (.mov (.t 2)),
    .op none (some 58) (.bin .add (.c (.int .i64 56)) (.t 57)),
    .op none (some 59) (.nilck (.t 56)),
    .op none (some 60) (.idxA 64 1 (.t 59) (.t 58)),
    .op none (some 61) (.ld (.t 60)),
    .op none (some 10) (.mov (.t 61))] [0, 2, 3, 4, 5, 6, 7, 8, 9, 10, 11])
  (.seq (.reg [.op none (some 62) (.mov (.t 3)),
    .op none (some 63) (.mov (.t 10)),
    .op none (some 64) (.bin .add (.t 62) (.t 63)),
    .op none (some 65) (.mov (.t 3)),
    .op none (some 66) (.mov (.t 10)),
    .op none (some 67) (.bin .sub (.t 65) (.t 66)),
    .op none (some 3) (.mov (.t 64)),
    .op none (some 10) (.mov (.t 67))] [0, 2, 3, 4, 5, 6, 7, 8, 9, 10, 11])
  (.seq (.reg [.op none (some 68) (.mov (.t 4)),
    .op none (some 69) (.mov (.t 9)),
    .op none (some 70) (.bin .add (.t 68) (.t 69)),
    .op none (some 71) (.mov (.t 4)),
    .op none (some 72) (.mov (.t 9)),
    .op none (some 73) (.bin .sub (.t 71) (.t 72)),
    .op none (some 4) (.mov (.t 70)),
    .op none (some 9) (.mov (.t 73))] [0, 2, 3, 4, 5, 6, 7, 8, 9, 10, 11])
  (.seq (.reg [.op none (some 74) (.mov (.t 5)),
    .op none (some 75) (.mov (.t 8)),
    .op none (some 76) (.bin .add (.t 74) (.t 75)),
    .op none (some 77) (.mov (.t 5)),
    .op none (some 78) (.mov (.t 8)),
    .op none (some 79) (.bin .sub (.t 77) (.t 78)),
    .op none (some 5) (.mov (.t 76)),
    .op none (some 8) (.mov (.t 79))] [0, 2, 3, 4, 5, 6, 7, 8, 9, 10, 11])
  (.seq (.reg [.op none (some 80) (.mov (.t 6)),
    .op none (some 81) (.mov (.t 7)),
    .op none (some 82) (.bin .add (.t 80) (.t 81)),
    .op none (some 83) (.mov (.t 6)),
    .op none (some 84) (.mov (.t 7)),
    .op none (some 85) (.bin .sub (.t 83) (.t 84)),
    .op none (some 6) (.mov (.t 82)),
    .op none (some 7) (.mov (.t 85))] [0, 2, 3, 4, 5, 6, 7, 8, 9, 10, 11])
  (.seq (.reg [.op none (some 87) (.mov (.t 7)),
    .op none (some 88) (.mov (.t 10)),
    .call (some 89) 29 [(.c (.int .u64 958619196450722178)), (.c (.int .i64 18))],
    .call (some 90) 29 [(.c (.int .u64 640528868967736374)), (.c (.int .i64 18))],
    .call (some 91) 28 [(.t 87), (.t 88), (.t 89), (.t 90)],
    .op none (some 86) (.mov (.t 91)),
    .op none (some 92) (.tupx (.t 86) 0),
    .op none (some 93) (.tupx (.t 86) 1),
    .op none (some 7) (.mov (.t 92)),
    .op none (some 10) (.mov (.t 93))] [0, 2, 3, 4, 5, 6, 7, 8, 9, 10, 11])
  (.seq (.reg [.op none (some 95) (.mov (.t 8)),
    .op none (some 96) (.mov (.t 9)),
    .call (some 97) 29 [(.c (.int .u64 1130768441178740757)), (.c (.int .i64 18))],
    .call (some 98) 29 [(.c (.int .u64 224923827593068887)), (.c (.int .i64 18))],
    .call (some 99) 28 [(.t 95), (.t 96), (.t 97), (.t 98)],
    .op none (some 94) (.mov (.t 99)),
    .op none (some 100) (.tupx (.t 94) 0),
    .op none (some 101) (.tupx (.t 94) 1),
    .op none (some 8) (.mov (.t 100)),
    .op none (some 9) (.mov (.t 101))] [0, 2, 3, 4, 5, 6, 7, 8, 9, 10, 11])
  (.seq (.reg [.op none (some 102) (.mov (.t 3)),
    .op none (some 103) (.mov (.t 6)),
    .op none (some 104) (.bin .add (.t 102) (.t 103)),
    .op none (some 105) (.mov (.t 3)),
    .op none (some 106) (.mov (.t 6)),
    .op none (some 107) (.bin .sub (.t 105) (.t 106)),
    .op none (some 3) (.mov (.t 104)),
    .op none (some 6) (.mov (.t 107))] [0, 2, 3, 4, 5, 6, 7, 8, 9, 10, 11])
  (.seq (.reg [.op none (some 108) (.mov (.t 4)),
    .op none (some 109) (.mov (.t 5)),
    .op none (some 110) (.bin .add (.t 108) (.t 109)),
    .op none (some 111) (.mov (.t 4)),
    .op none (some 112) (.mov (.t 5)),
    .op none (some 113) (.bin .sub (.t 111) (.t 112)),
    .op none (some 4) (.mov (.t 110)),
    .op none (some 5) (.mov (.t 113))] [0, 2, 3, 4, 5, 6, 7, 8, 9, 10, 11])
  (.seq (.reg [.op none (some 115) (.mov (.t 5)),
    .op none (some 116) (.mov (.t 6)),
    .call (some 117) 29 [(.c (.int .u64 623956622067911264)), (.c (.int .i64 18))],
    .call (some 118) 29 [(.c (.int .u64 1506364539328854985)), (.c (.int .i64 18))],
    .call (some 119) 28 [(.t 115), (.t 116), (.t 117), (.t 118)],
    .op none (some 114) (.mov (.t 119)),
    .op none (some 120) (.tupx (.t 114) 0),
    .op none (some 121) (.tupx (.t 114) 1),
    .op none (some 5) (.mov (.t 120)),
    .op none (some 6) (.mov (.t 121))] [0, 2, 3, 4, 5, 6, 7, 8, 9, 10, 11])
  (.seq (.reg [.op none (some 122) (.mov (.t 3)),
    .op none (some 123) (.mov (.t 4)),
    .op none (some 124) (.bin .add (.t 122) (.t 123)),
    .op none (some 125) (.mov (.t 3)),
    .op none (some 126) (.mov (.t 4)),
    .op none (some 127) (.bin .sub (.t 125) (.t 126)),
    .op none (some 3) (.mov (.t 124)),
    .op none (some 4) (.mov (.t 127))] [0, 2, 3, 4, 5, 6, 7, 8, 9, 10, 11])
  (.seq (.reg [.op none (some 128) (.mov (.t 0)),
    .op none (some 129) (.mov (.t 2)),
    .op none (some 130) (.bin .add (.c (.int .i64 0)) (.t 129)),
    .op none (some 131) (.mov (.t 3)),
    .op none (some 132) (.bin .sub (.t 131) (.c (.int .i32 1024))),
    .op none (some 133) (.bin .shl (.t 132) (.c (.int .u64 18))),
    .op none (some 134) (.nilck (.t 128)),
    .op none (some 135) (.idxA 64 1 (.t 134) (.t 130)),
    .op none none (.st 1 (.t 135) (.t 133))] [0, 2, 4, 5, 6, 7, 8, 9, 10, 11])
  (.seq (.reg [.op none (some 136) (.mov (.t 0)),
    .op none (some 137) (.mov (.t 2)),
    .op none (some 138) (.bin .add (.c (.int .i64 32)) (.t 137)),
    .op none (some 139) (.mov (.t 4)),
    .op none (some 140) (.bin .shl (.t 139) (.c (.int .u64 18))),
    .op none (some 141) (.nilck (.t 136)),
    .op none (some 142) (.idxA 64 1 (.t 141) (.t 138)),
    .op none none (.st 1 (.t 142) (.t 140))] [0, 2, 5, 6, 7, 8, 9, 10, 11])
  (.seq (.reg [.op none (some 143) (.mov (.t 0)),
    .op none (some 144) (.mov (.t 2)),
    .op none (some 145) (.bin .add (.c (.int .i64 16)) (.t 144)),
    .op none (some 146) (.mov (.t 5)),
    .op none (some 147) (.nilck (.t 143)),
    .op none (some 148) (.idxA 64 1 (.t 147) (.t 145)),
    .op none none (.st 1 (.t 148) (.t 146))] [0, 2, 6, 7, 8, 9, 10, 11])
  (.seq (.reg [.op none (some 149) (.mov (.t 0)),
    .op none (some 150) (.mov (.t 2)),
    .op none (some 151) (.bin .add (.c (.int .i64 48)) (.t 150)),
    .op none (some 152) (.mov (.t 6)),
    .op none (some 153) (.nilck (.t 149)),
    .op none (some 154) (.idxA 64 1 (.t 153) (.t 151)),
    .op none none (.st 1 (.t 154) (.t 152))] [0, 2, 7, 8, 9, 10, 11])
  (.seq (.reg [.op none (some 155) (.mov (.t 7)),
    .op none (some 156) (.mov (.t 9)),
    .op none (some 157) (.bin .add (.t 155) (.t 156)),
    .op none (some 158) (.mov (.t 7)),
    .op none (some 159) (.mov (.t 9)),
    .op none (some 160) (.bin .sub (.t 158) (.t 159)),
    .op none (some 7) (.mov (.t 157)),
    .op none (some 9) (.mov (.t 160))] [0, 2, 7, 8, 9, 10, 11])
  (.seq (.reg [.op none (some 161) (.mov (.t 10)),
    .op none (some 162) (.mov (.t 8)),
    .op none (some 163) (.bin .add (.t 161) (.t 162)),
    .op none (some 164) (.mov (.t 10)),
    .op none (some 165) (.mov (.t 8)),
    .op none (some 166) (.bin .sub (.t 164) (.t 165)),
    .op none (some 10) (.mov (.t 163)),
    .op none (some 8) (.mov (.t 166))] [0, 2, 7, 8, 9, 10, 11])
  (.seq (.reg [.op none (some 167) (.mov (.t 8)),
    .op none (some 168) (.bin .shr (.t 167) (.c (.int .u64 12))),
    .call (some 169) 29 [(.c (.int .u64 1630477228166597777)), (.c (.int .i64 12))],
    .op none (some 170) (.bin .mul (.t 168) (.t 169)),
    .op none (some 8) (.mov (.t 170))] [0, 2, 7, 8, 9, 10, 11])
  (.seq (.reg [.op none (some 171) (.mov (.t 9)),
    .op none (some 172) (.bin .shr (.t 171) (.c (.int .u64 12))),
    .call (some 173) 29 [(.c (.int .u64 1630477228166597777)), (.c (.int .i64 12))],
    .op none (some 174) (.bin .mul (.t 172) (.t 173)),
    .op none (some 9) (.mov (.t 174))] [0, 2, 7, 8, 9, 10, 11])
  (.seq (.reg [.op none (some 175) (.mov (.t 10)),
    .op none (some 176) (.mov (.t 7)),
    .op none (some 177) (.bin .add (.t 175) (.t 176)),
    .op none (some 178) (.mov (.t 10)),
    .op none (some 179) (.mov (.t 7)),
    .op none (some 180) (.bin .sub (.t 178) (.t 179)),
    .op none (some 10) (.mov (.t 177)),
    .op none (some 7) (.mov (.t 180))] [0, 2, 7, 8, 9, 10, 11])
  (.seq (.reg [.op none (some 181) (.mov (.t 0)),
    .op none (some 182) (.mov (.t 2)),
    .op none (some 183) (.bin .add (.c (.int .i64 8)) (.t 182)),
    .op none (some 184) (.mov (.t 10)),
    .op none (some 185) (.nilck (.t 181)),
    .op none (some 186) (.idxA 64 1 (.t 185) (.t 183)),
    .op none none (.st 1 (.t 186) (.t 184))] [0, 2, 7, 8, 9, 11])
  (.seq (.reg [.op none (some 187) (.mov (.t 0)),
    .op none (some 188) (.mov (.t 2)),
    .op none (some 189) (.bin .add (.c (.int .i64 24)) (.t 188)),
    .op none (some 190) (.mov (.t 8)),
    .op none (some 191) (.nilck (.t 187)),
    .op none (some 192) (.idxA 64 1 (.t 191) (.t 189)),
    .op none none (.st 1 (.t 192) (.t 190))] [0, 2, 7, 9, 11])
  (.seq (.reg [.op none (some 193) (.mov (.t 0)),
    .op none (some 194) (.mov (.t 2)),
    .op none (some 195) (.bin .add (.c (.int .i64 40)) (.t 194)),
    .op none (some 196) (.mov (.t 9)),
    .op none (some 197) (.nilck (.t 193)),
    .op none (some 198) (.idxA 64 1 (.t 197) (.t 195)),
    .op none none (.st 1 (.t 198) (.t 196))] [0, 2, 7, 11])
  (.reg [.op none (some 199) (.mov (.t 0)),
    .op none (some 200) (.mov (.t 2)),
    .op none (some 201) (.bin .add (.c (.int .i64 56)) (.t 200)),
    .op none (some 202) (.mov (.t 7)),
    .op none (some 203) (.nilck (.t 199)),
    .op none (some 204) (.idxA 64 1 (.t 203) (.t 201)),
    .op none none (.st 1 (.t 204) (.t 202))] [0, 11])))))))))))))))))))))))))))))))))
  (.reg [.op none (some 205) (.bin .add (.t 11) (.c (.int .i64 1))),
    .op none (some 11) (.mov (.t 205))] [0, 11]))))

def c26 : VC := (.seq (.reg [.op none (some 11) (.mov (.c (.int .i64 0)))] [0, 11])
  (.block 0 (.loop c26l0)))

def F26 : VFn := { nt := 206, res := [], body := c26 }
theorem is26 : compFn Try.prog h26 26 = some F26 := by kernel_rfl

/-! loop.example/pub-g03469/pub/jpeg.fdctRows -/
def h27 : List (Nat × List Nat) := [(0, [0, 12]), (1, [0, 12, 13]), (2, [0, 2, 12]), (3, [0, 3, 12]), (4, [0, 3, 4, 12]), (5, [0, 3, 4, 5, 12]), (6, [0, 3, 4, 5, 6, 12]), (7, [0, 3, 4, 5, 6, 7, 12]), (8, [0, 3, 4, 5, 6, 7, 8, 12]), (9, [0, 3, 4, 5, 6, 7, 8, 9, 12]), (10, [0, 3, 4, 5, 6, 7, 8, 9, 10, 12]), (11, [0, 3, 4, 5, 6, 7, 8, 9, 10, 11, 12]), (12, [0, 3, 4, 5, 6, 7, 8, 9, 10, 11, 12]), (13, [0, 3, 4, 5, 6, 7, 8, 9, 10, 11, 12]), (14, [0, 3, 4, 5, 6, 7, 8, 9, 10, 11, 12]), (15, [0, 3, 4, 5, 6, 7, 8, 9, 10, 11, 12]), (16, [0, 3, 4, 5, 6, 7, 8, 9, 10, 11, 12]), (17, [0, 3, 4, 5, 6, 7, 8, 9, 10, 11, 12]), (18, [0, 3, 4, 5, 6, 7, 8, 9, 10, 11, 12]), (19, [0, 3, 4, 5, 6, 7, 8, 9, 10, 11, 12]), (20, [0, 3, 4, 5, 6, 7, 8, 9, 10, 11, 12]), (21, [0, 3, 4, 5, 6, 7, 8, 9, 10, 11, 12]), (22, [0, 3, 4, 5, 6, 7, 8, 9, 10, 11, 12]), (23, [0, 3, 4, 5, 6, 7, 8, 9, 10, 11, 12]), (24, [0, 3, 4, 5, 6, 7, 8, 9, 10, 11, 12]), (25, [0, 3, 4, 5, 6, 7, 8, 9, 10, 11, 12]), (26, [0, 3, 4, 5, 6, 7, 8, 9, 10, 11, 12]), (27, [0, 3, 4, 5, 6, 7, 8, 9, 10, 11, 12]), (28, [0, 3, 4, 5, 6, 7, 8, 9, 10, 11, 12]), (29, [0, 3, 4, 5, 6, 7, 8, 9, 10, 11, 12]), (30, [0, 3, 4, 5, 6, 7, 8, 9, 10, 11, 12]), (31, [0, 3, 4, 5, 6, 7, 8, 9, 10, 11, 12]), (32, [0, 3, 4, 5, 6, 7, 8, 9, 10, 11, 12]), (33, [0, 3, 4, 5, 6, 7, 8, 9, 10, 11, 12]), (34, [0, 3, 4, 5, 6, 7, 8, 9, 10, 11, 12]), (35, [0, 3, 5, 6, 7, 8, 9, 10, 11, 12]), (36, [0, 3, 5, 6, 7, 8, 9, 10, 12]), (37, [0, 3, 5, 7, 8, 9, 10, 12]), (38, [0, 3, 5, 7, 8, 10, 12]), (39, [0, 3, 7, 8, 10, 12]), (40, [0, 3, 7, 8, 12]), (41, [0, 3, 8, 12]), (42, [0, 12]), (43, [0, 12])]
def c27l0 : VC := (.seq (.reg [.op none (some 13) (.bin .lss (.t 12) (.c (.int .i64 8)))] [0, 12, 13])
  (.seq (.cond (.t 13) .skip
  (.exit 0))
  (.seq (.block 1 (.seq (.reg [.op none (some 14) (.mov (.t 12)),
    .op none (some 2) (.mov (.t 14))] [0, 2, 12])
  (.seq (.reg [.op none (some 15) (.mov (.t 0)),
    .op none (some 16) (.nilck (.t 15)),
    .op none (some 17) (.mov (.t 2)),
    .op none (some 18) (.bin .mul (.c (.int .i64 8)) (.t 17)),
    .op none (some 19) (.mov (.t 2)),
    .op none (some 20) (.bin .mul (.c (.int .i64 8)) (.t 19)),
    .op none (some 21) (.bin .add (.t 20) (.c (.int .i64 8))),
    .op none (some 22) (.mov (.t 2)),
    .op none (some 23) (.bin .mul (.c (.int .i64 8)) (.t 22)),
    .op none (some 24) (.bin .add (.t 23) (.c (.int .i64 8))),
    .op none (some 25) (.slc 64 1 (.t 16) (some (.t 18)) (some (.t 21)) (some (.t 24))),
    .op none (some 3) (.mov (.t 25))] [0, 3, 12])
  (.seq (.reg [.op none (some 26) (.mov (.t 3)),
    .op none (some 27) (.idxS 1 (.t 26) (.c (.int .i64 0))),
    .op none (some 28) (.ld (.t 27)),
    .op none (some 4) (.mov (.t 28))] [0, 3, 4, 12])
  (.seq (.reg [.op none (some 29) (.mov (.t 3)),
    .op none (some 30) (.idxS 1 (.t 29) (.c (.int .i64 1))),
    .op none (some 31) (.ld (.t 30)),
    .op none (some 5) (.mov (.t 31))] [0, 3, 4, 5, 12])
  (.seq (.reg [.op none (some 32) (.mov (.t 3)),
    .op none (some 33) (.idxS 1 (.t 32) (.c (.int .i64 2))),
    .op none (some 34) (.ld (.t 33)),
    .op none (some 6) (.mov (.t 34))] [0, 3, 4, 5, 6, 12])
  (.seq (.reg [.op none (some 35) (.mov (.t 3)),
    .op none (some 36) (.idxS 1 (.t 35) (.c (.int .i64 3))),
    .op none (some 37) (.ld (.t 36)),
    .op none (some 7) (.mov (.t 37))] [0, 3, 4, 5, 6, 7, 12])
  (.seq (.reg [.op none (some 38) (.mov (.t 3)),
    .op none (some 39) (.idxS 1 (.t 38) (.c (.int .i64 4))),
    .op none (some 40) (.ld (.t 39)),
    .op none (some 8) (.mov (.t 40))] [0, 3, 4, 5, 6, 7, 8, 12])
  (.seq (.reg [.op none (some 41) (.mov (.t 3)),
    .op none (some 42) (.idxS 1 (.t 41) (.c (.int .i64 5))),
    .op none (some 43) (.ld (.t 42)),
    .op none (some 9) (.mov (.t 43))] [0, 3, 4, 5, 6, 7, 8, 9, 12])
  (.seq (.reg [.op none (some 44) (.mov (.t 3)),
    .op none (some 45) (.idxS 1 (.t 44) (.c (.int .i64 6))),
    .op none (some 46) (.ld (.t 45)),
    .op none (some 10) (.mov (.t 46))] [0, 3, 4, 5, 6, 7, 8, 9, 10, 12])
  (.seq (.reg [.op none (some 47) (.mov (.t 3)),
    .op none (some 48) (.idxS 1 (.t 47) (.c (.int .i64 7))),
    .op none (some 49) (.ld (.t 48)),
    .op none (some 11) (.mov (.t 49))] [0, 3, 4, 5, 6, 7, 8, 9, 10, 11, 12])
  (.seq (.reg [.op none (some 50) (.mov (.t 4)),
    .op none (some 51) (.mov (.t 11)),
    .op none (some 52) (.bin .add (.t 50) (.t 51)),
    .op none (some 53) (.mov (.t 4)),
    .op none (some 54) (.mov (.t 11)),
    .op none (some 55) (.bin .sub (.t 53) (.t 54)),
    .op none (some 4) (.mov (.t 52)),
    .op none (some 11) (.mov (.t 55))] [0, 3, 4, 5, 6, 7, 8, 9, 10, 11, 12])
  (.seq (.reg [.op none (some 56) (.mov (.t 5)),
    .op none (some 57) (.mov (.t 10)),
    .op none (some 58) (.bin .add (.t 56) (.t 57)),
    .op none (some 59) (.mov (.t 5)),
    .op none (some 60) (.mov (.t 10)),
    .op none (some 61) (.bin .sub (.t 59) (.t 60)),
    .op none (some 5) (.mov (.t 58)),
    .op none (some 10) (.mov (.t 61))] [0, 3, 4, 5, 6, 7, 8, 9, 10, 11, 12])
  (.seq (.reg [.op none (some 62) (.mov (.t 6)),
    .op none (some 63) (.mov (.t 9)),
    .op none (some 64) (.bin .add (.t 62) (.t 63)),
    .op none (some 65) (.mov (.t 6)),
    .op none (some 66) (.mov (.t 9)),
    .op none (some 67) (.bin .sub (.t 65) (.t 66)),
    .op none (some 6) (.mov (.t 64)),
    .op none (some 9) (.mov (.t 67))] [0, 3, 4, 5, 6, 7, 8, 9, 10, 11, 12])
  (.seq (.reg [.op none (some 68) (.mov (.t 7)),
    .op none (some 69) (.mov (.t 8)),
    .op none (some 70) (.bin .add (.t 68) (.t 69)),
    .op none (some 71) (.mov (.t 7)),
    .op none (some 72) (.mov (.t 8)),
    .op none (some 73) (.bin .sub (.t 71) (.t 72)),
    .op none (some 7) (.mov (.t 70)),
    .op none (some 8) (.mov (.t 73))] [0, 3, 4, 5, 6, 7, 8, 9, 10, 11, 12])
  (.seq (.reg [.op none (some 75) (.mov (.t 8)),
    .op none (some 76) (.bin .shr (.t 75) (.c (.int .u64 14))),
    .op none (some 77) (.mov (.t 11)),
    .op none (some 78) (.bin .shr (.t 77) (.c (.int .u64 14))),
    .call (some 79) 29 [(.c (.int .u64 958619196450722178)), (.c (.int .i64 14))],
    .call (some 80) 29 [(.c (.int .u64 640528868967736374)), (.c (.int .i64 14))],
    .call (some 81) 28 [(.t 76), (.t 78), (.t 79), (.t 80)],
    .op none (some 74) (.mov (.t 81)),
    .op none (some 82) (.tupx (.t 74) 0),
    .op none (some 83) (.tupx (.t 74) 1),
    .op none (some 8) (.mov (.t 82)),
    .op none (some 11) (.mov (.t 83))] [0, 3, 4, 5, 6, 7, 8, 9, 10, 11, 12])
  (.seq (.reg [.op none (some 85) (.mov (.t 9)),
    .op none (some 86) (.bin .shr (.t 85) (.c (.int .u64 14))),
    .op none (some 87) (.mov (.t 10)),
    .op none (some 88) (.bin .shr (.t 87) (.c (.int .u64 14))),
    .call (some 89) 29 [(.c (.int .u64 1130768441178740757)), (.c (.int .i64 14))],
    .call (some 90) 29 [(.c (.int .u64 224923827593068887)), (.c (.int .i64 14))],
    .call (some 91) 28 [(.t 86), (.t 88), (.t 89), (.t 90)],
    .op none (some 84) (.mov (.t 91)),
    .op none (some 92) (.tupx (.t 84) 0),
    .op none (some 93) (.tupx (.t 84) 1),
    .op none (some 9) (.mov (.t 92)),
    .op none (some 10) (.mov (.t 93))] [0, 3, 4, 5, 6, 7, 8, 9, 10, 11, 12])
  (.seq (.reg [.op none (some 94) (.mov (.t 4)),
    .op none (some 95) (.mov (.t 7)),
    .op none (some 96) (.bin .add (.t 94) (.t 95)),
    .op none (some 97) (.mov (.t 4)),
    .op none (some 98) (.mov (.t 7)),
    .op none (some 99) (.bin .sub (.t 97) (.t 98)),
    .op none (some 4) (.mov (.t 96)),
    .op none (some 7) (.mov (.t 99))] [0, 3, 4, 5, 6, 7, 8, 9, 10, 11, 12])
  (.seq (.reg [.op none (some 100) (.mov (.t 5)),
    .op none (some 101) (.mov (.t 6)),
    .op none (some 102) (.bin .add (.t 100) (.t 101)),
    .op none (some 103) (.mov (.t 5)),
    .op none (some 104) (.mov (.t 6)),
    .op none (some 105) (.bin .sub (.t 103) (.t 104)),
    .op none (some 5) (.mov (.t 102)),
    .op none (some 6) (.mov (.t 105))] [0, 3, 4, 5, 6, 7, 8, 9, 10, 11, 12])
  (.seq (.reg [.op none (some 107) (.mov (.t 6)),
    .op none (some 108) (.bin .shr (.t 107) (.c (.int .u64 14))),
    .op none (some 109) (.mov (.t 7)),
    .op none (some 110) (.bin .shr (.t 109) (.c (.int .u64 14))),
    .call (some 111) 29 [(.c (.int .u64 623956622067911264)), (.c (.int .i64 14))],
    .call (some 112) 29 [(.c (.int .u64 1506364539328854985)), (.c (.int .i64 14))],
    .call (some 113) 28 [(.t 108), (.t 110), (.t 111), (.t 112)],
    .op none (some 106) (.mov (.t 113)),
    .op none (some 114) (.tupx (.t 106) 0),
    .op none (some 115) (.tupx (.t 106) 1),
    .op none (some 6) (.mov (.t 114)),
    .op none (some 7) (.mov (.t 115))] [0, 3, 4, 5, 6, 7, 8, 9, 10, 11, 12])
  (.seq (.reg [.op none (some 116) (.mov (.t 4)),
    .op none (some 117) (.mov (.t 5)),
    .op none (some 118) (.bin .add (.t 116) (.t 117)),
    .op none (some 119) (.mov (.t 4)),
    .op none (some 120) (.mov (.t 5)),
    .op none (some 121) (.bin .sub (.t 119) (.t 120)),
    .op none (some 4) (.mov (.t 118)),
    .op none (some 5) (.mov (.t 121))] [0, 3, 4, 5, 6, 7, 8, 9, 10, 11, 12])
  (.seq (.reg [.op none (some 122) (.mov (.t 8)),
    .op none (some 123) (.mov (.t 10)),
    .op none (some 124) (.bin .add (.t 122) (.t 123)),
    .op none (some 125) (.mov (.t 8)),
    .op none (some 126) (.mov (.t 10)),
    .op none (some 127) (.bin .sub (.t 125) (.t 126)),
    .op none (some 8) (.mov (.t 124)),
    .op none (some 10) (.mov (.t 127))] [0, 3, 4, 5, 6, 7, 8, 9, 10, 11, 12])
  (.seq (.reg [.op none (some 128) (.mov (.t 11)),
    .op none (some 129) (.mov (.t 9)),
    .op none (some 130) (.bin .add (.t 128) (.t 129)),
    .op none (some 131) (.mov (.t 11)),
    .op none (some 132) (.mov (.t 9)),
    .op none (some 133) (.bin .sub (.t 131) (.t 132)),
    .op none (some 11) (.mov (.t 130)),
    .op none (some 9) (.mov (.t 133))] [0, 3, 4, 5, 6, 7, 8, 9, 10, 11, 12])
  (.seq (.reg [.op none (some 134) (.mov (.t 9)),
    .op none (some 135) (.bin .shr (.t 134) (.c (.int .u64 14))),
    .call (some 136) 29 [(.c (.int .u64 1630477228166597777)), (.c (.int .i64 14))],
    .op none (some 137) (.bin .mul (.t 135) (.t 136)),
    .op none (some 9) (.mov (.t 137))] [0, 3, 4, 5, 6, 7, 8, 9, 10, 11, 12])
  (.seq (.reg [.op none (some 138) (.mov (.t 10)),
    .op none (some 139) (.bin .shr (.t 138) (.c (.int .u64 14))),
    .call (some 140) 29 [(.c (.int .u64 1630477228166597777)), (.c (.int .i64 14))],
    .op none (some 141) (.bin .mul (.t 139) (.t 140)),
    .op none (some 10) (.mov (.t 141))] [0, 3, 4, 5, 6, 7, 8, 9, 10, 11, 12])
  (.seq (.reg [.op none (some 142) (.mov (.t 11)),
    .op none (some 143) (.mov (.t 8)),
    .op none (some 144) (.bin .add (.t 142) (.t 143)),
    .op none (some 145) (.mov (.t 11)),
    .op none (some 146) (.mov (.t 8)),
    .op none (some 147) (.bin .sub (.t 145) (.t 146)),
    .op none (some 11) (.mov (.t 144)),
    .op none (some 8) (.mov (.t 147))] [0, 3, 4, 5, 6, 7, 8, 9, 10, 11, 12])
  (.seq (.reg [.op none (some 148) (.mov (.t 4)),
    .op none (some 149) (.bin .add (.t 148) (.c (.int .i32 131072))),
    .op none (some 150) (.bin .shr (.t 149) (.c (.int .u64 18))),
    .op none (some 4) (.mov (.t 150))] [0, 3, 4, 5, 6, 7, 8, 9, 10, 11, 12])
  (.seq (.reg [.op none (some 151) (.mov (.t 5)),
    .op none (some 152) (.bin .add (.t 151) (.c (.int .i32 131072))),
    .op none (some 153) (.bin .shr (.t 152) (.c (.int .u64 18))),
    .op none (some 5) (.mov (.t 153))] [0, 3, 4, 5, 6, 7, 8, 9, 10, 11, 12])
  (.seq (.reg [.op none (some 154) (.mov (.t 6)),
    .op none (some 155) (.bin .add (.t 154) (.c (.int .i32 131072))),
    .op none (some 156) (.bin .shr (.t 155) (.c (.int .u64 18))),
    .op none (some 6) (.mov (.t 156))] [0, 3, 4, 5, 6, 7, 8, 9, 10, 11, 12])
  (.seq (.reg [.op none (some 157) (.mov (.t 7)),
    .op none (some 158) (.bin .add (.t 157) (.c (.int .i32 131072))),
    .op none (some 159) (.bin .shr (.t 158) (.c (.int .u64 18))),
    .op none (some 7) (.mov (.t 159))] [0, 3, 4, 5, 6, 7, 8, 9, 10, 11, 12])
  (.seq (.reg [.op none (some 160) (.mov (.t 8)),
    .op none (some 161) (.bin .add (.t 160) (.c (.int .i32 131072))),
    .op none (some 162) (.bin .shr (.t 161) (.c (.int .u64 18))),
    .op none (some 8) (.mov (.t 162))] [0, 3, 4, 5, 6, 7, 8, 9, 10, 11, 12])
  (.seq (.reg [.op none (some 163) (.mov (.t 9)),
    .op none (some 164) (.bin .add (.t 163) (.c (.int .i32 131072))),
    .op none (some 165) (.bin .shr (.t 164) (.c (.int .u64 18))),
    .op none (some 9) (.mov (.t 165))] [0, 3, 4, 5, 6, 7, 8, 9, 10, 11, 12])
  (.seq (.reg [.op none (some 166) (.mov (.t 10)),
    .op none (some 167) (.bin .add (.t 166) (.c (.int .i32 131072))),
    .op none (some 168) (.bin .shr (.t 167) (.c (.int .u64 18))),
    .op none (some 10) (.mov (.t 168))] [0, 3, 4, 5, 6, 7, 8, 9, 10, 11, 12])
  (.seq (.reg [.op none (some 169) (.mov (.t 11)),
    .op none (some 170) (.bin .add (.t 169) (.c (.int .i32 131072))),
    .op none (some 171) (.bin .shr (.t 170) (.c (.int .u64 18))),
    .op none (some 11) (.mov (.t 171))] [0, 3, 4, 5, 6, 7, 8, 9, 10, 11, 12])
  (.seq (.reg [.op none (some 172) (.mov (.t 3)),
    .op none (some 173) (.mov (.t 4)),
    .op none (some 174) (.idxS 1 (.t 172) (.c (.int .i64 0))),
    .op none none (.st 1 (.t 174) (.t 173))] [0, 3, 5, 6, 7, 8, 9, 10, 11, 12])
  (.seq (.reg [.op none (some 175) (.mov (.t 3)),
    .op none (some 176) (.mov (.t 11)),
    .op none (some 177) (.idxS 1 (.t 175) (.c (.int .i64 1))),
    .op none none (.st 1 (.t 177) (.t 176))] [0, 3, 5, 6, 7, 8, 9, 10, 12])
  (.seq (.reg [.op none (some 178) (.mov (.t 3)),
    .op none (some 179) (.mov (.t 6)),
    .op none (some 180) (.idxS 1 (.t 178) (.c (.int .i64 2))),
    .op none none (.st 1 (.t 180) (.t 179))] [0, 3, 5, 7, 8, 9, 10, 12])
  (.seq (.reg [.op none (some 181) (.mov (.t 3)),
    .op none (some 182) (.mov (.t 9)),
    .op none (some 183) (.idxS 1 (.t 181) (.c (.int .i64 3))),
    .op none none (.st 1 (.t 183) (.t 182))] [0, 3, 5, 7, 8, 10, 12])
  (.seq (.reg [.op none (some 184) (.mov (.t 3)),
    .op none (some 185) (.mov (.t 5)),
    .op none (some 186) (.idxS 1 (.t 184) (.c (.int .i64 4))),
    .op none none (.st 1 (.t 186) (.t 185))] [0, 3, 7, 8, 10, 12])
  (.seq (.reg [.op none (some 187) (.mov (.t 3)),
    .op none (some 188) (.mov (.t 10)),
    .op none (some 189) (.idxS 1 (.t 187) (.c (.int .i64 5))),
    .op none none (.st 1 (.t 189) (.t 188))] [0, 3, 7, 8, 12])
  (.seq (.reg [.op none (some 190) (.mov (.t 3)),
    .op none (some 191) (.mov (.t 7)),
    .op none (some 192) (.idxS 1 (.t 190) (.c (.int .i64 6))),
    .op none none (.st 1 (.t 192) (.t 191))] [0, 3, 8, 12])
  (.reg [.op none (some 193) (.mov (.t 3)),
    .op none (some 194) (.mov (.t 8)),
    .op none (some 195) (.idxS 1 (.t 193) (.c (.int .i64 7))),
    .op none none (.st 1 (.t 195) (.t 194))] [0, 12]))))))))))))))))))))))))))))))))))))))))))
  (.reg [.op none (some 196) (.bin .add (.t 12) (.c (.int .i64 1))),
    .op none (some 12) (.mov (.t 196))] [0, 12]))))

def c27 : VC := (.seq (.reg [.op none (some 12) (.mov (.c (.int .i64 0)))] [0, 12])
  (.block 0 (.loop c27l0)))

def F27 : VFn := { nt := 197, res := [], body := c27 }
theorem is27 : compFn Try.prog h27 27 = some F27 := by kernel_rfl

/-! loop.example/pub-g03469/pub/jpeg.dctBox -/
def h28 : List (Nat × List Nat) := [(0, [0, 1, 2, 3]), (1, [0, 1, 2, 3, 10]), (2, [0, 2, 3, 8, 10]), (3, [8, 9]), (4, [8, 9])]
def c28 : VC := (.seq (.reg [.op none (some 8) (.mov (.c (.int .i32 0))),
    .op none (some 9) (.mov (.c (.int .i32 0)))] [0, 1, 2, 3])
  (.seq (.reg [.op none (some 11) (.mov (.t 2)),
    .op none (some 12) (.mov (.t 0)),
    .op none (some 13) (.mov (.t 1)),
    .op none (some 14) (.bin .add (.t 12) (.t 13)),
    .op none (some 15) (.bin .mul (.t 11) (.t 14)),
    .op none (some 10) (.mov (.t 15))] [0, 1, 2, 3, 10])
  (.seq (.reg [.op none (some 16) (.mov (.t 10)),
    .op none (some 17) (.mov (.t 3)),
    .op none (some 18) (.mov (.t 2)),
    .op none (some 19) (.bin .sub (.t 17) (.t 18)),
    .op none (some 20) (.mov (.t 1)),
    .op none (some 21) (.bin .mul (.t 19) (.t 20)),
    .op none (some 22) (.bin .add (.t 16) (.t 21)),
    .op none (some 8) (.mov (.t 22))] [0, 2, 3, 8, 10])
  (.seq (.reg [.op none (some 23) (.mov (.t 10)),
    .op none (some 24) (.mov (.t 2)),
    .op none (some 25) (.mov (.t 3)),
    .op none (some 26) (.bin .add (.t 24) (.t 25)),
    .op none (some 27) (.mov (.t 0)),
    .op none (some 28) (.bin .mul (.t 26) (.t 27)),
    .op none (some 29) (.bin .sub (.t 23) (.t 28)),
    .op none (some 9) (.mov (.t 29))] [8, 9])
  (.seq (.reg [.op none (some 30) (.mov (.t 8)),
    .op none (some 31) (.mov (.t 9)),
    .op none (some 8) (.mov (.t 30)),
    .op none (some 9) (.mov (.t 31))] [8, 9])
  .ret)))))

def F28 : VFn := { nt := 32, res := [.tmp 8, .tmp 9], body := c28 }
theorem is28 : compFn Try.prog h28 28 = some F28 := by kernel_rfl

/-! loop.example/pub-g03469/pub/jpeg.c -/
def h29 : List (Nat × List Nat) := [(0, [0, 1]), (1, [4])]
def c29 : VC := (.seq (.reg [.op none (some 4) (.mov (.c (.int .i32 0)))] [0, 1])
  (.seq (.reg [.op none (some 5) (.mov (.t 0)),
    .op none (some 6) (.mov (.t 1)),
    .op none (some 7) (.bin .sub (.c (.int .i64 59)) (.t 6)),
    .op none (some 8) (.bin .shl (.c (.int .u64 1)) (.t 7)),
    .op none (some 9) (.bin .add (.t 5) (.t 8)),
    .op none (some 10) (.mov (.t 1)),
    .op none (some 11) (.bin .sub (.c (.int .i64 60)) (.t 10)),
    .op none (some 12) (.bin .shr (.t 9) (.t 11)),
    .op none (some 13) (.conv .i32 (.t 12)),
    .op none (some 4) (.mov (.t 13))] [4])
  .ret))

def F29 : VFn := { nt := 14, res := [.tmp 4], body := c29 }
theorem is29 : compFn Try.prog h29 29 = some F29 := by kernel_rfl

end Go.VM
