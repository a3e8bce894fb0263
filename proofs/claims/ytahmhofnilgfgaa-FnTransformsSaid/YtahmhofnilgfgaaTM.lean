/-
  A part of a small machine over the model, or of a walk by it, proved right against the model. Proved outright, under no condition but what each theorem names.
-/
import Derived.Test.YtahmhofnilgfgaaVO
import Derived.Test.YtahmhofnilgfgaaChecked
namespace Go.VM
open Go Go.Proofs

/-! loop.example/pub-g03469/laws.blockOf -/
def h4 : List (Nat × List Nat) := [(0, [0, 1, 4]), (1, [0, 1, 4, 5]), (2, [0, 1, 4, 5, 8]), (3, [0, 1, 4, 5, 8, 9]), (4, [0, 1, 4, 5, 6, 8]), (5, [0, 1, 4, 5, 6, 8, 11]), (6, [0, 1, 4, 5, 8]), (7, [0, 1, 4, 5, 8]), (8, [0, 1, 4, 5, 8]), (9, [4])]
def c4l0 : VC := (.seq (.reg [.op none (some 9) (.bin .lss (.t 8) (.c (.int .i64 64)))] [0, 1, 4, 5, 8, 9])
  (.seq (.cond (.t 9) .skip
  (.exit 0))
  (.seq (.block 1 (.seq (.reg [.op none (some 10) (.mov (.t 8)),
    .op none (some 6) (.mov (.t 10))] [0, 1, 4, 5, 6, 8])
  (.seq (.reg [.op none (some 11) (.mov (.t 1))] [0, 1, 4, 5, 6, 8, 11])
  (.cond (.t 11) (.reg [.op none (some 12) (.mov (.t 6)),
    .op none (some 13) (.mov (.t 0)),
    .call (some 14) 9 [(.t 13), (.c (.int .i64 256))],
    .op none (some 15) (.conv .i32 (.t 14)),
    .op none (some 16) (.idxA 64 1 (.t 5) (.t 12)),
    .op none none (.st 1 (.t 16) (.t 15))] [0, 1, 4, 5, 8])
  (.reg [.op none (some 17) (.mov (.t 6)),
    .op none (some 18) (.mov (.t 0)),
    .call (some 19) 10 [(.t 18)],
    .op none (some 20) (.conv .i32 (.t 19)),
    .op none (some 21) (.bin .shr (.t 20) (.c (.int .u64 11))),
    .op none (some 22) (.mov (.t 0)),
    .call (some 23) 9 [(.t 22), (.c (.int .i64 20))],
    .op none (some 24) (.bin .shr (.t 21) (.t 23)),
    .op none (some 25) (.idxA 64 1 (.t 5) (.t 17)),
    .op none none (.st 1 (.t 25) (.t 24))] [0, 1, 4, 5, 8])))))
  (.reg [.op none (some 26) (.bin .add (.t 8) (.c (.int .i64 1))),
    .op none (some 8) (.mov (.t 26))] [0, 1, 4, 5, 8]))))

def c4 : VC := (.seq (.reg [.op none (some 4) (.alloc (.ints .i32 (List.replicate 64 0) 23))] [0, 1, 4])
  (.seq (.reg [.op none (some 7) (.build (.ints .i32 (List.replicate 64 0)) []),
    .op none (some 5) (.alloc (.ints .i32 (List.replicate 64 0) 23)),
    .op none none (.st 64 (.t 5) (.t 7))] [0, 1, 4, 5])
  (.seq (.seq (.reg [.op none (some 8) (.mov (.c (.int .i64 0)))] [0, 1, 4, 5, 8])
  (.block 0 (.loop c4l0)))
  (.seq (.reg [.op none (some 27) (.ldA 64 (.t 5)),
    .op none none (.st 64 (.t 4) (.t 27))] [4])
  .ret))))

def F4 : VFn := { nt := 28, res := [.cells 4 64], body := c4 }
theorem is4 : compFn Try.prog h4 4 = some F4 := by kernel_rfl

/-! loop.example/pub-g03469/impl.Inverse -/
def h5 : List (Nat × List Nat) := [(0, [1, 2]), (1, [1, 2, 5]), (2, [2]), (3, [2])]
def c5 : VC := (.seq (.reg [.op none (some 1) (.box 23 (.t 0)),
    .op none (some 2) (.alloc (.ints .i32 (List.replicate 64 0) 23))] [1, 2])
  (.seq (.seq (.reg [.op none (some 3) (.ldA 64 (.t 1)),
    .call (some 4) 11 [(.t 3)],
    .op none (some 5) (.un .not (.t 4))] [1, 2, 5])
  (.cond (.t 5) (.seq (.reg [.op none (some 6) (.build (.ints .i32 (List.replicate 64 0)) []),
    .op none none (.st 64 (.t 2) (.t 6))] [2])
  .ret)
  .skip))
  (.seq (.reg [.op none (some 7) (.ldA 64 (.t 1)),
    .call (some 8) 12 [(.t 7)],
    .op none none (.st 64 (.t 2) (.t 8))] [2])
  .ret)))

def F5 : VFn := { nt := 9, res := [.cells 2 64], body := c5 }
theorem is5 : compFn Try.prog h5 5 = some F5 := by kernel_rfl

/-! loop.example/pub-g03469/impl.Forward -/
def h7 : List (Nat × List Nat) := [(0, [1, 2]), (1, [1, 2, 5]), (2, [2]), (3, [2])]
def c7 : VC := (.seq (.reg [.op none (some 1) (.box 23 (.t 0)),
    .op none (some 2) (.alloc (.ints .i32 (List.replicate 64 0) 23))] [1, 2])
  (.seq (.seq (.reg [.op none (some 3) (.ldA 64 (.t 1)),
    .call (some 4) 11 [(.t 3)],
    .op none (some 5) (.un .not (.t 4))] [1, 2, 5])
  (.cond (.t 5) (.seq (.reg [.op none (some 6) (.build (.ints .i32 (List.replicate 64 0)) []),
    .op none none (.st 64 (.t 2) (.t 6))] [2])
  .ret)
  .skip))
  (.seq (.reg [.op none (some 7) (.ldA 64 (.t 1)),
    .call (some 8) 16 [(.t 7)],
    .op none none (.st 64 (.t 2) (.t 8))] [2])
  .ret)))

def F7 : VFn := { nt := 9, res := [.cells 2 64], body := c7 }
theorem is7 : compFn Try.prog h7 7 = some F7 := by kernel_rfl

/-! (*loop.example/pub-g03469/laws.mixer).below -/
def h9 : List (Nat × List Nat) := [(0, [0, 1]), (1, [4])]
def c9 : VC := (.seq (.reg [.op none (some 4) (.mov (.c (.int .i64 0)))] [0, 1])
  (.seq (.reg [.op none (some 5) (.mov (.t 0)),
    .call (some 6) 10 [(.t 5)],
    .op none (some 7) (.bin .shr (.t 6) (.c (.int .u64 5))),
    .op none (some 8) (.conv .i64 (.t 7)),
    .op none (some 9) (.mov (.t 1)),
    .op none (some 10) (.bin .rem (.t 8) (.t 9)),
    .op none (some 4) (.mov (.t 10))] [4])
  .ret))

def F9 : VFn := { nt := 11, res := [.tmp 4], body := c9 }
theorem is9 : compFn Try.prog h9 9 = some F9 := by kernel_rfl

/-! (*loop.example/pub-g03469/laws.mixer).next -/
def h10 : List (Nat × List Nat) := [(0, [0]), (1, [0, 3]), (2, [0, 3, 16]), (3, [0, 3]), (4, [3]), (5, [3]), (6, [3]), (7, [2])]
def c10 : VC := (.seq (.reg [.op none (some 2) (.mov (.c (.int .u32 0)))] [0])
  (.seq (.reg [.op none (some 4) (.mov (.t 0)),
    .op none (some 5) (.nilck (.t 4)),
    .op none (some 6) (.fld 1 (.t 5)),
    .op none (some 7) (.ld (.t 6)),
    .op none (some 8) (.conv .u32 (.t 7)),
    .op none (some 9) (.bin .mul (.t 8) (.c (.int .u32 2654435761))),
    .op none (some 10) (.bin .add (.t 9) (.c (.int .u32 12345))),
    .op none (some 3) (.mov (.t 10))] [0, 3])
  (.seq (.seq (.reg [.op none (some 11) (.mov (.t 0)),
    .op none (some 12) (.nilck (.t 11)),
    .op none (some 13) (.fld 0 (.t 12)),
    .op none (some 14) (.ld (.t 13)),
    .op none (some 15) (.len (.t 14)),
    .op none (some 16) (.bin .gtr (.t 15) (.c (.int .i64 0)))] [0, 3, 16])
  (.cond (.t 16) (.drq [.op none (some 17) (.mov (.t 3)),
    .op none (some 18) (.mov (.t 0)),
    .op none (some 19) (.nilck (.t 18)),
    .op none (some 20) (.fld 0 (.t 19)),
    .op none (some 21) (.ld (.t 20)),
    .op none (some 22) (.mov (.t 0)),
    .op none (some 23) (.nilck (.t 22)),
    .op none (some 24) (.fld 1 (.t 23)),
    .op none (some 25) (.ld (.t 24)),
    .op none (some 26) (.mov (.t 0)),
    .op none (some 27) (.nilck (.t 26)),
    .op none (some 28) (.fld 0 (.t 27)),
    .op none (some 29) (.ld (.t 28)),
    .op none (some 30) (.len (.t 29)),
    .op none (some 31) (.bin .rem (.t 25) (.t 30)),
    .op none (some 32) (.idxS 1 (.t 21) (.t 31)),
    .op none (some 33) (.ld (.t 32)),
    .op none (some 34) (.mov (.t 0)),
    .op none (some 35) (.nilck (.t 34)),
    .op none (some 36) (.fld 1 (.t 35)),
    .op none (some 37) (.ld (.t 36)),
    .op none (some 38) (.mov (.t 0)),
    .op none (some 39) (.nilck (.t 38)),
    .op none (some 40) (.fld 0 (.t 39)),
    .op none (some 41) (.ld (.t 40)),
    .op none (some 42) (.len (.t 41)),
    .op none (some 43) (.bin .quo (.t 37) (.t 42)),
    .op none (some 44) (.conv .u32 (.t 43)),
    .op none (some 45) (.bin .mul (.c (.int .u32 2)) (.t 44)),
    .op none (some 46) (.bin .add (.c (.int .u32 40503)) (.t 45)),
    .op none (some 47) (.bin .mul (.t 33) (.t 46)),
    .op none (some 48) (.bin .xor (.t 17) (.t 47)),
    .op none (some 3) (.mov (.t 48))] [0, 3])
  .skip))
  (.seq (.reg [.op none (some 49) (.mov (.t 0)),
    .op none (some 50) (.nilck (.t 49)),
    .op none (some 51) (.fld 1 (.t 50)),
    .op none (some 52) (.ld (.t 51)),
    .op none (some 53) (.bin .add (.t 52) (.c (.int .i64 1))),
    .op none (some 54) (.nilck (.t 49)),
    .op none (some 55) (.fld 1 (.t 54)),
    .op none none (.st 1 (.t 55) (.t 53))] [3])
  (.seq (.reg [.op none (some 56) (.mov (.t 3)),
    .op none (some 57) (.mov (.t 3)),
    .op none (some 58) (.bin .shr (.t 57) (.c (.int .u64 15))),
    .op none (some 59) (.bin .xor (.t 56) (.t 58)),
    .op none (some 3) (.mov (.t 59))] [3])
  (.seq (.reg [.op none (some 60) (.mov (.t 3)),
    .op none (some 61) (.bin .mul (.t 60) (.c (.int .u32 2246822519))),
    .op none (some 3) (.mov (.t 61))] [3])
  (.seq (.reg [.op none (some 62) (.mov (.t 3)),
    .op none (some 63) (.mov (.t 3)),
    .op none (some 64) (.bin .shr (.t 63) (.c (.int .u64 13))),
    .op none (some 65) (.bin .xor (.t 62) (.t 64)),
    .op none (some 2) (.mov (.t 65))] [2])
  .ret)))))))

def F10 : VFn := { nt := 66, res := [.tmp 2], body := c10 }
theorem is10 : compFn Try.prog h10 10 = some F10 := by kernel_rfl

/-! loop.example/pub-g03469/impl.fits -/
def h11 : List (Nat × List Nat) := [(0, [1, 12, 13]), (1, [5, 6, 12, 13]), (2, [5, 6, 7, 12, 13]), (3, [4, 5, 6, 12, 13]), (4, [5, 6, 12, 13, 14]), (5, [2]), (6, [5, 6, 12, 13]), (7, [2])]
def c11l0 : VC := (.seq (.reg [.op none (some 7) (.bin .lss (.t 6) (.c (.int .i64 64)))] [5, 6, 7, 12, 13])
  (.seq (.cond (.t 7) .skip
  (.exit 0))
  (.seq (.block 1 (.seq (.reg [.op none (some 8) (.idxV false 64 1 (.t 5) (.t 6)),
    .op none (some 4) (.mov (.t 8))] [4, 5, 6, 12, 13])
  (.seq (.reg [.op none (some 9) (.mov (.t 4)),
    .op none (some 10) (.bin .lss (.t 9) (.c (.int .i32 (-1048576)))),
    .op none (some 11) (.mov (.t 10)),
    .op (some (11, false)) (some 12) (.mov (.t 4)),
    .op (some (11, false)) (some 13) (.bin .gtr (.t 12) (.c (.int .i32 1048576))),
    .op none (some 14) (.pick (.t 11) (.c (.bool true)) (.t 13))] [5, 6, 12, 13, 14])
  (.cond (.t 14) (.seq (.reg [.op none (some 2) (.mov (.c (.bool false)))] [2])
  .ret)
  .skip))))
  (.reg [.op none (some 15) (.bin .add (.t 6) (.c (.int .i64 1))),
    .op none (some 6) (.mov (.t 15))] [5, 6, 12, 13]))))

def c11 : VC := (.seq (.reg [.op none (some 1) (.box 23 (.t 0)),
    .op none (some 2) (.mov (.c (.bool false)))] [1, 12, 13])
  (.seq (.seq (.reg [.op none (some 5) (.ldA 64 (.t 1)),
    .op none (some 6) (.mov (.c (.int .i64 0)))] [5, 6, 12, 13])
  (.block 0 (.loop c11l0)))
  (.seq (.reg [.op none (some 2) (.mov (.c (.bool true)))] [2])
  .ret)))

def F11 : VFn := { nt := 16, res := [.tmp 2], body := c11 }
theorem is11 : compFn Try.prog h11 11 = some F11 := by kernel_rfl

end Go.VM
