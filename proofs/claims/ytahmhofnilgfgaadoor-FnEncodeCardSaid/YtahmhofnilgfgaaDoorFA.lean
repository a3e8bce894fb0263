/-
  Bounds of the transform of a block, in plain numbers. No condition but what each theorem names.
-/
import Derived.Test.YtahmhofnilgfgaaDoorVUtoBA
set_option linter.unusedVariables false
set_option linter.unusedSimpArgs false
/-
  The forward transform of a block in whole numbers of 32 bits, and bounds: plain facts, no program in sight. No condition.
-/
namespace Go.VM
open Go

abbrev w32 (x : Int) : Int := IntKind.i32.wrap x

def boxA (a b kc kd : Int) : Int := w32 (w32 (kc * w32 (a + b)) + w32 (kd * b))
def boxB (a b kc ke : Int) : Int := w32 (w32 (kc * w32 (a + b)) - w32 (ke * a))

def colW (y0 y1 y2 y3 y4 y5 y6 y7 : Int) : List Int :=
  let a0 := w32 (y0 + y7)
  let a7 := w32 (y0 - y7)
  let a1 := w32 (y1 + y6)
  let a6 := w32 (y1 - y6)
  let a2 := w32 (y2 + y5)
  let a5 := w32 (y2 - y5)
  let a3 := w32 (y3 + y4)
  let a4 := w32 (y3 - y4)
  let b4 := boxA a4 a7 217965 (-72326)
  let b7 := boxB a4 a7 217965 363604
  let b5 := boxA a5 a6 257107 (-205965)
  let b6 := boxB a5 a6 257107 308249
  let c0 := w32 (a0 + a3)
  let c3 := w32 (a0 - a3)
  let c1 := w32 (a1 + a2)
  let c2 := w32 (a1 - a2)
  let d2 := boxA c2 c3 141871 200637
  let d3 := boxB c2 c3 141871 484379
  let d0 := w32 (c0 + c1)
  let d1 := w32 (c0 - c1)
  let e4 := w32 (b4 + b6)
  let e6 := w32 (b4 - b6)
  let e7 := w32 (b7 + b5)
  let e5 := w32 (b7 - b5)
  let f5 := w32 (e5.fdiv 4096 * 5793)
  let f6 := w32 (e6.fdiv 4096 * 5793)
  let g7 := w32 (e7 + e4)
  let g4 := w32 (e7 - e4)
  [w32 (w32 (d0 - 1024) * 262144), g7, d2, f5, w32 (d1 * 262144), f6, d3, g4]

def rowW (y0 y1 y2 y3 y4 y5 y6 y7 : Int) : List Int :=
  let a0 := w32 (y0 + y7)
  let a7 := w32 (y0 - y7)
  let a1 := w32 (y1 + y6)
  let a6 := w32 (y1 - y6)
  let a2 := w32 (y2 + y5)
  let a5 := w32 (y2 - y5)
  let a3 := w32 (y3 + y4)
  let a4 := w32 (y3 - y4)
  let b4 := boxA (a4.fdiv 16384) (a7.fdiv 16384) 13623 (-4521)
  let b7 := boxB (a4.fdiv 16384) (a7.fdiv 16384) 13623 22725
  let b5 := boxA (a5.fdiv 16384) (a6.fdiv 16384) 16069 (-12873)
  let b6 := boxB (a5.fdiv 16384) (a6.fdiv 16384) 16069 19265
  let c0 := w32 (a0 + a3)
  let c3 := w32 (a0 - a3)
  let c1 := w32 (a1 + a2)
  let c2 := w32 (a1 - a2)
  let d2 := boxA (c2.fdiv 16384) (c3.fdiv 16384) 8867 12540
  let d3 := boxB (c2.fdiv 16384) (c3.fdiv 16384) 8867 30274
  let d0 := w32 (c0 + c1)
  let d1 := w32 (c0 - c1)
  let e4 := w32 (b4 + b6)
  let e6 := w32 (b4 - b6)
  let e7 := w32 (b7 + b5)
  let e5 := w32 (b7 - b5)
  let f5 := w32 (e5.fdiv 16384 * 23170)
  let f6 := w32 (e6.fdiv 16384 * 23170)
  let g7 := w32 (e7 + e4)
  let g4 := w32 (e7 - e4)
  [(w32 (d0 + 131072)).fdiv 262144, (w32 (g7 + 131072)).fdiv 262144, (w32 (d2 + 131072)).fdiv 262144, (w32 (f5 + 131072)).fdiv 262144,
   (w32 (d1 + 131072)).fdiv 262144, (w32 (f6 + 131072)).fdiv 262144, (w32 (d3 + 131072)).fdiv 262144, (w32 (g4 + 131072)).fdiv 262144]

theorem w32_id {x : Int} (h1 : -2147483648 ≤ x) (h2 : x ≤ 2147483647) : w32 x = x := wrap_i32_id h1 h2

theorem boxA_id {a b kc kd : Int} (h1 : -2147483648 ≤ a + b ∧ a + b ≤ 2147483647) (h2 : -2147483648 ≤ kc * (a + b) ∧ kc * (a + b) ≤ 2147483647) (h3 : -2147483648 ≤ kd * b ∧ kd * b ≤ 2147483647)
    (h4 : -2147483648 ≤ kc * (a + b) + kd * b ∧ kc * (a + b) + kd * b ≤ 2147483647) : boxA a b kc kd = kc * (a + b) + kd * b := by
  unfold boxA
  rw [w32_id h1.1 h1.2, w32_id h2.1 h2.2, w32_id h3.1 h3.2, w32_id h4.1 h4.2]
theorem boxB_id {a b kc ke : Int} (h1 : -2147483648 ≤ a + b ∧ a + b ≤ 2147483647) (h2 : -2147483648 ≤ kc * (a + b) ∧ kc * (a + b) ≤ 2147483647) (h3 : -2147483648 ≤ ke * a ∧ ke * a ≤ 2147483647)
    (h4 : -2147483648 ≤ kc * (a + b) - ke * a ∧ kc * (a + b) - ke * a ≤ 2147483647) : boxB a b kc ke = kc * (a + b) - ke * a := by
  unfold boxB
  rw [w32_id h1.1 h1.2, w32_id h2.1 h2.2, w32_id h3.1 h3.2, w32_id h4.1 h4.2]

theorem fdiv_4096 (x : Int) : x.fdiv 4096 = x / 4096 := Int.fdiv_eq_ediv_of_nonneg _ (by decide)
theorem fdiv_16384 (x : Int) : x.fdiv 16384 = x / 16384 := Int.fdiv_eq_ediv_of_nonneg _ (by decide)
theorem fdiv_262144 (x : Int) : x.fdiv 262144 = x / 262144 := Int.fdiv_eq_ediv_of_nonneg _ (by decide)

def inB (a b x : Int) : Prop := a ≤ x ∧ x ≤ b

theorem colW_bounds (y0 y1 y2 y3 y4 y5 y6 y7 : Int) (h0 : inB 0 255 y0) (h1 : inB 0 255 y1) (h2 : inB 0 255 y2) (h3 : inB 0 255 y3) (h4 : inB 0 255 y4) (h5 : inB 0 255 y5) (h6 : inB 0 255 y6) (h7 : inB 0 255 y7) :
    ∃ r0 r1 r2 r3 r4 r5 r6 r7, colW y0 y1 y2 y3 y4 y5 y6 y7 = [r0, r1, r2, r3, r4, r5, r6, r7] ∧ inB (-268435456) 266338304 r0 ∧ inB (-267386880) 267386880 r1 ∧ inB (-267386880) 267386880 r2 ∧ inB (-267386880) 267386880 r3 ∧
      inB (-267386880) 267386880 r4 ∧ inB (-267386880) 267386880 r5 ∧ inB (-267386880) 267386880 r6 ∧ inB (-267386880) 267386880 r7 := by
  refine ⟨_, _, _, _, _, _, _, _, rfl, ?_⟩
  unfold inB at *
  have a0 : w32 (y0 + y7) = y0 + y7 := w32_id (by omega) (by omega)
  have a7 : w32 (y0 - y7) = y0 - y7 := w32_id (by omega) (by omega)
  have a1 : w32 (y1 + y6) = y1 + y6 := w32_id (by omega) (by omega)
  have a6 : w32 (y1 - y6) = y1 - y6 := w32_id (by omega) (by omega)
  have a2 : w32 (y2 + y5) = y2 + y5 := w32_id (by omega) (by omega)
  have a5 : w32 (y2 - y5) = y2 - y5 := w32_id (by omega) (by omega)
  have a3 : w32 (y3 + y4) = y3 + y4 := w32_id (by omega) (by omega)
  have a4 : w32 (y3 - y4) = y3 - y4 := w32_id (by omega) (by omega)
  simp only [a0, a1, a2, a3, a4, a5, a6, a7, fdiv_4096]
  have ha4 : -255 ≤ y3 - y4 ∧ y3 - y4 ≤ 255 := by omega
  have ha5 : -255 ≤ y2 - y5 ∧ y2 - y5 ≤ 255 := by omega
  have ha6 : -255 ≤ y1 - y6 ∧ y1 - y6 ≤ 255 := by omega
  have ha7 : -255 ≤ y0 - y7 ∧ y0 - y7 ≤ 255 := by omega
  have ha0 : 0 ≤ y0 + y7 ∧ y0 + y7 ≤ 510 := by omega
  have ha1 : 0 ≤ y1 + y6 ∧ y1 + y6 ≤ 510 := by omega
  have ha2 : 0 ≤ y2 + y5 ∧ y2 + y5 ≤ 510 := by omega
  have ha3 : 0 ≤ y3 + y4 ∧ y3 + y4 ≤ 510 := by omega
  clear a0 a1 a2 a3 a4 a5 a6 a7
  generalize y3 - y4 = p4 at *
  generalize y2 - y5 = p5 at *
  generalize y1 - y6 = p6 at *
  generalize y0 - y7 = p7 at *
  generalize y0 + y7 = p0 at *
  generalize y1 + y6 = p1 at *
  generalize y2 + y5 = p2 at *
  generalize y3 + y4 = p3 at *
  clear h0 h1 h2 h3 h4 h5 h6 h7
  have b4 := @boxA_id p4 p7 217965 (-72326) (by omega) (by omega) (by omega) (by omega)
  have b7 := @boxB_id p4 p7 217965 363604 (by omega) (by omega) (by omega) (by omega)
  have b5 := @boxA_id p5 p6 257107 (-205965) (by omega) (by omega) (by omega) (by omega)
  have b6 := @boxB_id p5 p6 257107 308249 (by omega) (by omega) (by omega) (by omega)
  have c0 : w32 (p0 + p3) = p0 + p3 := w32_id (by omega) (by omega)
  have c3 : w32 (p0 - p3) = p0 - p3 := w32_id (by omega) (by omega)
  have c1 : w32 (p1 + p2) = p1 + p2 := w32_id (by omega) (by omega)
  have c2 : w32 (p1 - p2) = p1 - p2 := w32_id (by omega) (by omega)
  simp only [c0, c1, c2, c3, b4, b5, b6, b7]
  have d2 := @boxA_id (p1 - p2) (p0 - p3) 141871 200637 (by omega) (by omega) (by omega) (by omega)
  have d3 := @boxB_id (p1 - p2) (p0 - p3) 141871 484379 (by omega) (by omega) (by omega) (by omega)
  have d0 : w32 (p0 + p3 + (p1 + p2)) = p0 + p3 + (p1 + p2) := w32_id (by omega) (by omega)
  have d1 : w32 (p0 + p3 - (p1 + p2)) = p0 + p3 - (p1 + p2) := w32_id (by omega) (by omega)
  simp only [d0, d1, d2, d3]
  have e4 : w32 (217965 * (p4 + p7) + -72326 * p7 + (257107 * (p5 + p6) - 308249 * p5)) = 217965 * (p4 + p7) + -72326 * p7 + (257107 * (p5 + p6) - 308249 * p5) := w32_id (by omega) (by omega)
  have e6 : w32 (217965 * (p4 + p7) + -72326 * p7 - (257107 * (p5 + p6) - 308249 * p5)) = 217965 * (p4 + p7) + -72326 * p7 - (257107 * (p5 + p6) - 308249 * p5) := w32_id (by omega) (by omega)
  have e7 : w32 (217965 * (p4 + p7) - 363604 * p4 + (257107 * (p5 + p6) + -205965 * p6)) = 217965 * (p4 + p7) - 363604 * p4 + (257107 * (p5 + p6) + -205965 * p6) := w32_id (by omega) (by omega)
  have e5 : w32 (217965 * (p4 + p7) - 363604 * p4 - (257107 * (p5 + p6) + -205965 * p6)) = 217965 * (p4 + p7) - 363604 * p4 - (257107 * (p5 + p6) + -205965 * p6) := w32_id (by omega) (by omega)
  simp only [e4, e5, e6, e7]
  rw [w32_id (x := p0 + p3 + (p1 + p2) - 1024) (by omega) (by omega), w32_id (x := (p0 + p3 + (p1 + p2) - 1024) * 262144) (by omega) (by omega), w32_id (x := (p0 + p3 - (p1 + p2)) * 262144) (by omega) (by omega)]
  rw [w32_id (x := (217965 * (p4 + p7) - 363604 * p4 - (257107 * (p5 + p6) + -205965 * p6)) / 4096 * 5793) (by omega) (by omega), w32_id (x := (217965 * (p4 + p7) + -72326 * p7 - (257107 * (p5 + p6) - 308249 * p5)) / 4096 * 5793) (by omega) (by omega)]
  rw [w32_id (x := 217965 * (p4 + p7) - 363604 * p4 + (257107 * (p5 + p6) + -205965 * p6) + (217965 * (p4 + p7) + -72326 * p7 + (257107 * (p5 + p6) - 308249 * p5))) (by omega) (by omega)]
  rw [w32_id (x := 217965 * (p4 + p7) - 363604 * p4 + (257107 * (p5 + p6) + -205965 * p6) - (217965 * (p4 + p7) + -72326 * p7 + (257107 * (p5 + p6) - 308249 * p5))) (by omega) (by omega)]
  refine ⟨?_, ?_, ?_, ?_, ?_, ?_, ?_, ?_⟩ <;> constructor <;> omega

set_option maxHeartbeats 1000000 in
theorem rowW_bounds (L y0 y1 y2 y3 y4 y5 y6 y7 : Int) (hL : inB (-268435456) (-267386880) L) (h0 : inB L (L + 534773760) y0) (h1 : inB L (L + 534773760) y1) (h2 : inB L (L + 534773760) y2) (h3 : inB L (L + 534773760) y3)
    (h4 : inB L (L + 534773760) y4) (h5 : inB L (L + 534773760) y5) (h6 : inB L (L + 534773760) y6) (h7 : inB L (L + 534773760) y7) :
    ∃ r0 r1 r2 r3 r4 r5 r6 r7, rowW y0 y1 y2 y3 y4 y5 y6 y7 = [r0, r1, r2, r3, r4, r5, r6, r7] ∧ inB (-8192) 8160 r0 ∧ (L = -267386880 → inB (-8160) 8160 r0) ∧ inB (-8160) 8160 r1 ∧ inB (-8160) 8160 r2 ∧ inB (-8160) 8160 r3 ∧
      inB (-8160) 8160 r4 ∧ inB (-8160) 8160 r5 ∧ inB (-8160) 8160 r6 ∧ inB (-8160) 8160 r7 := by
  refine ⟨_, _, _, _, _, _, _, _, rfl, ?_⟩
  unfold inB at *
  have a0 : w32 (y0 + y7) = y0 + y7 := w32_id (by omega) (by omega)
  have a7 : w32 (y0 - y7) = y0 - y7 := w32_id (by omega) (by omega)
  have a1 : w32 (y1 + y6) = y1 + y6 := w32_id (by omega) (by omega)
  have a6 : w32 (y1 - y6) = y1 - y6 := w32_id (by omega) (by omega)
  have a2 : w32 (y2 + y5) = y2 + y5 := w32_id (by omega) (by omega)
  have a5 : w32 (y2 - y5) = y2 - y5 := w32_id (by omega) (by omega)
  have a3 : w32 (y3 + y4) = y3 + y4 := w32_id (by omega) (by omega)
  have a4 : w32 (y3 - y4) = y3 - y4 := w32_id (by omega) (by omega)
  simp only [a0, a1, a2, a3, a4, a5, a6, a7, fdiv_16384, fdiv_262144]
  have ha4 : -32640 ≤ (y3 - y4) / 16384 ∧ (y3 - y4) / 16384 ≤ 32640 := by omega
  have ha5 : -32640 ≤ (y2 - y5) / 16384 ∧ (y2 - y5) / 16384 ≤ 32640 := by omega
  have ha6 : -32640 ≤ (y1 - y6) / 16384 ∧ (y1 - y6) / 16384 ≤ 32640 := by omega
  have ha7 : -32640 ≤ (y0 - y7) / 16384 ∧ (y0 - y7) / 16384 ≤ 32640 := by omega
  have ha0 : 2 * L ≤ y0 + y7 ∧ y0 + y7 ≤ 2 * L + 1069547520 := by omega
  have ha1 : 2 * L ≤ y1 + y6 ∧ y1 + y6 ≤ 2 * L + 1069547520 := by omega
  have ha2 : 2 * L ≤ y2 + y5 ∧ y2 + y5 ≤ 2 * L + 1069547520 := by omega
  have ha3 : 2 * L ≤ y3 + y4 ∧ y3 + y4 ≤ 2 * L + 1069547520 := by omega
  clear a0 a1 a2 a3 a4 a5 a6 a7
  generalize (y3 - y4) / 16384 = p4 at *
  generalize (y2 - y5) / 16384 = p5 at *
  generalize (y1 - y6) / 16384 = p6 at *
  generalize (y0 - y7) / 16384 = p7 at *
  generalize y0 + y7 = p0 at *
  generalize y1 + y6 = p1 at *
  generalize y2 + y5 = p2 at *
  generalize y3 + y4 = p3 at *
  clear h0 h1 h2 h3 h4 h5 h6 h7
  have b4 := @boxA_id p4 p7 13623 (-4521) (by omega) (by omega) (by omega) (by omega)
  have b7 := @boxB_id p4 p7 13623 22725 (by omega) (by omega) (by omega) (by omega)
  have b5 := @boxA_id p5 p6 16069 (-12873) (by omega) (by omega) (by omega) (by omega)
  have b6 := @boxB_id p5 p6 16069 19265 (by omega) (by omega) (by omega) (by omega)
  have c0 : w32 (p0 + p3) = p0 + p3 := w32_id (by omega) (by omega)
  have c3 : w32 (p0 - p3) = p0 - p3 := w32_id (by omega) (by omega)
  have c1 : w32 (p1 + p2) = p1 + p2 := w32_id (by omega) (by omega)
  have c2 : w32 (p1 - p2) = p1 - p2 := w32_id (by omega) (by omega)
  simp only [c0, c1, c2, c3, b4, b5, b6, b7]
  have hc2 : -65280 ≤ (p1 - p2) / 16384 ∧ (p1 - p2) / 16384 ≤ 65280 := by omega
  have hc3 : -65280 ≤ (p0 - p3) / 16384 ∧ (p0 - p3) / 16384 ≤ 65280 := by omega
  have d0 : w32 (p0 + p3 + (p1 + p2)) = p0 + p3 + (p1 + p2) := w32_id (by omega) (by omega)
  have d1 : w32 (p0 + p3 - (p1 + p2)) = p0 + p3 - (p1 + p2) := w32_id (by omega) (by omega)
  simp only [d0, d1]
  have f0 : w32 (p0 + p3 + (p1 + p2) + 131072) = p0 + p3 + (p1 + p2) + 131072 := w32_id (by omega) (by omega)
  have f1 : w32 (p0 + p3 - (p1 + p2) + 131072) = p0 + p3 - (p1 + p2) + 131072 := w32_id (by omega) (by omega)
  simp only [f0, f1]
  have g0 : -8192 ≤ (p0 + p3 + (p1 + p2) + 131072) / 262144 ∧ (p0 + p3 + (p1 + p2) + 131072) / 262144 ≤ 8160 := by omega
  have g0' : L = -267386880 → -8160 ≤ (p0 + p3 + (p1 + p2) + 131072) / 262144 ∧ (p0 + p3 + (p1 + p2) + 131072) / 262144 ≤ 8160 := by omega
  have g1 : -8160 ≤ (p0 + p3 - (p1 + p2) + 131072) / 262144 ∧ (p0 + p3 - (p1 + p2) + 131072) / 262144 ≤ 8160 := by omega
  refine ⟨g0, g0', ?_⟩
  clear g0 g0' d0 d1 f0 f1 c0 c1 c2 c3 b4 b5 b6 b7
  generalize (p1 - p2) / 16384 = q2 at *
  generalize (p0 - p3) / 16384 = q3 at *
  clear ha0 ha1 ha2 ha3 hL
  have d2 := @boxA_id q2 q3 8867 12540 (by omega) (by omega) (by omega) (by omega)
  have d3 := @boxB_id q2 q3 8867 30274 (by omega) (by omega) (by omega) (by omega)
  simp only [d2, d3]
  have e4 : w32 (13623 * (p4 + p7) + -4521 * p7 + (16069 * (p5 + p6) - 19265 * p5)) = 13623 * (p4 + p7) + -4521 * p7 + (16069 * (p5 + p6) - 19265 * p5) := w32_id (by omega) (by omega)
  have e6 : w32 (13623 * (p4 + p7) + -4521 * p7 - (16069 * (p5 + p6) - 19265 * p5)) = 13623 * (p4 + p7) + -4521 * p7 - (16069 * (p5 + p6) - 19265 * p5) := w32_id (by omega) (by omega)
  have e7 : w32 (13623 * (p4 + p7) - 22725 * p4 + (16069 * (p5 + p6) + -12873 * p6)) = 13623 * (p4 + p7) - 22725 * p4 + (16069 * (p5 + p6) + -12873 * p6) := w32_id (by omega) (by omega)
  have e5 : w32 (13623 * (p4 + p7) - 22725 * p4 - (16069 * (p5 + p6) + -12873 * p6)) = 13623 * (p4 + p7) - 22725 * p4 - (16069 * (p5 + p6) + -12873 * p6) := w32_id (by omega) (by omega)
  simp only [e4, e5, e6, e7]
  have f5 : w32 ((13623 * (p4 + p7) - 22725 * p4 - (16069 * (p5 + p6) + -12873 * p6)) / 16384 * 23170) = (13623 * (p4 + p7) - 22725 * p4 - (16069 * (p5 + p6) + -12873 * p6)) / 16384 * 23170 := w32_id (by omega) (by omega)
  have f6 : w32 ((13623 * (p4 + p7) + -4521 * p7 - (16069 * (p5 + p6) - 19265 * p5)) / 16384 * 23170) = (13623 * (p4 + p7) + -4521 * p7 - (16069 * (p5 + p6) - 19265 * p5)) / 16384 * 23170 := w32_id (by omega) (by omega)
  have g7 : w32 (13623 * (p4 + p7) - 22725 * p4 + (16069 * (p5 + p6) + -12873 * p6) + (13623 * (p4 + p7) + -4521 * p7 + (16069 * (p5 + p6) - 19265 * p5))) = 13623 * (p4 + p7) - 22725 * p4 + (16069 * (p5 + p6) + -12873 * p6) + (13623 * (p4 + p7) + -4521 * p7 + (16069 * (p5 + p6) - 19265 * p5)) := w32_id (by omega) (by omega)
  have g4 : w32 (13623 * (p4 + p7) - 22725 * p4 + (16069 * (p5 + p6) + -12873 * p6) - (13623 * (p4 + p7) + -4521 * p7 + (16069 * (p5 + p6) - 19265 * p5))) = 13623 * (p4 + p7) - 22725 * p4 + (16069 * (p5 + p6) + -12873 * p6) - (13623 * (p4 + p7) + -4521 * p7 + (16069 * (p5 + p6) - 19265 * p5)) := w32_id (by omega) (by omega)
  simp only [f5, f6, g7, g4]
  clear d2 d3 e4 e5 e6 e7 f5 f6 g7 g4
  have H : ∀ x : Int, -2139095040 ≤ x → x ≤ 2139095040 → -8160 ≤ (w32 (x + 131072)) / 262144 ∧ (w32 (x + 131072)) / 262144 ≤ 8160 := by
    intro x hx1 hx2
    rw [w32_id (by omega) (by omega)]
    omega
  refine ⟨H _ (by omega) (by omega), H _ (by omega) (by omega), H _ (by omega) (by omega), g1, H _ (by omega) (by omega), H _ (by omega) (by omega), H _ (by omega) (by omega)⟩
end Go.VM
