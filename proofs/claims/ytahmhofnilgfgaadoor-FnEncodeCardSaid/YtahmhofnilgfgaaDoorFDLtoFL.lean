/-
  A part of a machine over the model and of a walk by it, proved right against the model; proved outright, under no condition but what each theorem names.
-/
import Derived.Test.YtahmhofnilgfgaaDoorVWtoBB
import Derived.Test.YtahmhofnilgfgaaDoorFFtoFJ
set_option linter.unusedVariables false
set_option linter.unusedSimpArgs false
section
namespace Go.VM

/-! The tables of the codes: counts, signs, codes, their lengths; the encoder's. -/
def stC0 : List Int := [0, 0, 1, 5, 1, 1, 1, 1, 1, 1, 0, 0, 0, 0, 0, 0, 0]
def stS0 : List Int := [0, 1, 2, 3, 4, 5, 6, 7, 8, 9, 10, 11]
def stK0 : List Int := [0, 2, 3, 4, 5, 6, 14, 30, 62, 126, 254, 510, 0, 0, 0, 0, 0, 0, 0, 0, 0, 0, 0, 0, 0, 0, 0, 0, 0, 0, 0, 0, 0, 0, 0, 0, 0, 0, 0, 0, 0, 0, 0, 0, 0, 0, 0, 0, 0, 0, 0, 0, 0, 0, 0, 0, 0, 0, 0, 0, 0, 0, 0, 0, 0, 0, 0, 0, 0, 0, 0, 0, 0, 0, 0, 0, 0, 0, 0, 0, 0, 0, 0, 0, 0, 0, 0, 0, 0, 0, 0, 0, 0, 0, 0, 0, 0, 0, 0, 0, 0, 0, 0, 0, 0, 0, 0, 0, 0, 0, 0, 0, 0, 0, 0, 0, 0, 0, 0, 0, 0, 0, 0, 0, 0, 0, 0, 0, 0, 0, 0, 0, 0, 0, 0, 0, 0, 0, 0, 0, 0, 0, 0, 0, 0, 0, 0, 0, 0, 0, 0, 0, 0, 0, 0, 0, 0, 0, 0, 0, 0, 0, 0, 0, 0, 0, 0, 0, 0, 0, 0, 0, 0, 0, 0, 0, 0, 0, 0, 0, 0, 0, 0, 0, 0, 0, 0, 0, 0, 0, 0, 0, 0, 0, 0, 0, 0, 0, 0, 0, 0, 0, 0, 0, 0, 0, 0, 0, 0, 0, 0, 0, 0, 0, 0, 0, 0, 0, 0, 0, 0, 0, 0, 0, 0, 0, 0, 0, 0, 0, 0, 0, 0, 0, 0, 0, 0, 0, 0, 0, 0, 0, 0, 0, 0, 0, 0, 0, 0, 0, 0, 0, 0, 0, 0, 0]
def stW0 : List Int := [2, 3, 3, 3, 3, 3, 4, 5, 6, 7, 8, 9, 0, 0, 0, 0, 0, 0, 0, 0, 0, 0, 0, 0, 0, 0, 0, 0, 0, 0, 0, 0, 0, 0, 0, 0, 0, 0, 0, 0, 0, 0, 0, 0, 0, 0, 0, 0, 0, 0, 0, 0, 0, 0, 0, 0, 0, 0, 0, 0, 0, 0, 0, 0, 0, 0, 0, 0, 0, 0, 0, 0, 0, 0, 0, 0, 0, 0, 0, 0, 0, 0, 0, 0, 0, 0, 0, 0, 0, 0, 0, 0, 0, 0, 0, 0, 0, 0, 0, 0, 0, 0, 0, 0, 0, 0, 0, 0, 0, 0, 0, 0, 0, 0, 0, 0, 0, 0, 0, 0, 0, 0, 0, 0, 0, 0, 0, 0, 0, 0, 0, 0, 0, 0, 0, 0, 0, 0, 0, 0, 0, 0, 0, 0, 0, 0, 0, 0, 0, 0, 0, 0, 0, 0, 0, 0, 0, 0, 0, 0, 0, 0, 0, 0, 0, 0, 0, 0, 0, 0, 0, 0, 0, 0, 0, 0, 0, 0, 0, 0, 0, 0, 0, 0, 0, 0, 0, 0, 0, 0, 0, 0, 0, 0, 0, 0, 0, 0, 0, 0, 0, 0, 0, 0, 0, 0, 0, 0, 0, 0, 0, 0, 0, 0, 0, 0, 0, 0, 0, 0, 0, 0, 0, 0, 0, 0, 0, 0, 0, 0, 0, 0, 0, 0, 0, 0, 0, 0, 0, 0, 0, 0, 0, 0, 0, 0, 0, 0, 0, 0, 0, 0, 0, 0, 0, 0]
def stC1 : List Int := [0, 0, 2, 1, 3, 3, 2, 4, 3, 5, 5, 4, 4, 0, 0, 1, 125]
def stS1 : List Int := [1, 2, 3, 0, 4, 17, 5, 18, 33, 49, 65, 6, 19, 81, 97, 7, 34, 113, 20, 50, 129, 145, 161, 8, 35, 66, 177, 193, 21, 82, 209, 240, 36, 51, 98, 114, 130, 9, 10, 22, 23, 24, 25, 26, 37, 38, 39, 40, 41, 42, 52, 53, 54, 55, 56, 57, 58, 67, 68, 69, 70, 71, 72, 73, 74, 83, 84, 85, 86, 87, 88, 89, 90, 99, 100, 101, 102, 103, 104, 105, 106, 115, 116, 117, 118, 119, 120, 121, 122, 131, 132, 133, 134, 135, 136, 137, 138, 146, 147, 148, 149, 150, 151, 152, 153, 154, 162, 163, 164, 165, 166, 167, 168, 169, 170, 178, 179, 180, 181, 182, 183, 184, 185, 186, 194, 195, 196, 197, 198, 199, 200, 201, 202, 210, 211, 212, 213, 214, 215, 216, 217, 218, 225, 226, 227, 228, 229, 230, 231, 232, 233, 234, 241, 242, 243, 244, 245, 246, 247, 248, 249, 250]
def stK1 : List Int := [10, 0, 1, 4, 11, 26, 120, 248, 1014, 65410, 65411, 0, 0, 0, 0, 0, 0, 12, 27, 121, 502, 2038, 65412, 65413, 65414, 65415, 65416, 0, 0, 0, 0, 0, 0, 28, 249, 1015, 4084, 65417, 65418, 65419, 65420, 65421, 65422, 0, 0, 0, 0, 0, 0, 58, 503, 4085, 65423, 65424, 65425, 65426, 65427, 65428, 65429, 0, 0, 0, 0, 0, 0, 59, 1016, 65430, 65431, 65432, 65433, 65434, 65435, 65436, 65437, 0, 0, 0, 0, 0, 0, 122, 2039, 65438, 65439, 65440, 65441, 65442, 65443, 65444, 65445, 0, 0, 0, 0, 0, 0, 123, 4086, 65446, 65447, 65448, 65449, 65450, 65451, 65452, 65453, 0, 0, 0, 0, 0, 0, 250, 4087, 65454, 65455, 65456, 65457, 65458, 65459, 65460, 65461, 0, 0, 0, 0, 0, 0, 504, 32704, 65462, 65463, 65464, 65465, 65466, 65467, 65468, 65469, 0, 0, 0, 0, 0, 0, 505, 65470, 65471, 65472, 65473, 65474, 65475, 65476, 65477, 65478, 0, 0, 0, 0, 0, 0, 506, 65479, 65480, 65481, 65482, 65483, 65484, 65485, 65486, 65487, 0, 0, 0, 0, 0, 0, 1017, 65488, 65489, 65490, 65491, 65492, 65493, 65494, 65495, 65496, 0, 0, 0, 0, 0, 0, 1018, 65497, 65498, 65499, 65500, 65501, 65502, 65503, 65504, 65505, 0, 0, 0, 0, 0, 0, 2040, 65506, 65507, 65508, 65509, 65510, 65511, 65512, 65513, 65514, 0, 0, 0, 0, 0, 0, 65515, 65516, 65517, 65518, 65519, 65520, 65521, 65522, 65523, 65524, 0, 0, 0, 0, 0, 2041, 65525, 65526, 65527, 65528, 65529, 65530, 65531, 65532, 65533, 65534, 0, 0, 0, 0, 0]
def stW1 : List Int := [4, 2, 2, 3, 4, 5, 7, 8, 10, 16, 16, 0, 0, 0, 0, 0, 0, 4, 5, 7, 9, 11, 16, 16, 16, 16, 16, 0, 0, 0, 0, 0, 0, 5, 8, 10, 12, 16, 16, 16, 16, 16, 16, 0, 0, 0, 0, 0, 0, 6, 9, 12, 16, 16, 16, 16, 16, 16, 16, 0, 0, 0, 0, 0, 0, 6, 10, 16, 16, 16, 16, 16, 16, 16, 16, 0, 0, 0, 0, 0, 0, 7, 11, 16, 16, 16, 16, 16, 16, 16, 16, 0, 0, 0, 0, 0, 0, 7, 12, 16, 16, 16, 16, 16, 16, 16, 16, 0, 0, 0, 0, 0, 0, 8, 12, 16, 16, 16, 16, 16, 16, 16, 16, 0, 0, 0, 0, 0, 0, 9, 15, 16, 16, 16, 16, 16, 16, 16, 16, 0, 0, 0, 0, 0, 0, 9, 16, 16, 16, 16, 16, 16, 16, 16, 16, 0, 0, 0, 0, 0, 0, 9, 16, 16, 16, 16, 16, 16, 16, 16, 16, 0, 0, 0, 0, 0, 0, 10, 16, 16, 16, 16, 16, 16, 16, 16, 16, 0, 0, 0, 0, 0, 0, 10, 16, 16, 16, 16, 16, 16, 16, 16, 16, 0, 0, 0, 0, 0, 0, 11, 16, 16, 16, 16, 16, 16, 16, 16, 16, 0, 0, 0, 0, 0, 0, 16, 16, 16, 16, 16, 16, 16, 16, 16, 16, 0, 0, 0, 0, 0, 11, 16, 16, 16, 16, 16, 16, 16, 16, 16, 16, 0, 0, 0, 0, 0]
def stC2 : List Int := [0, 0, 3, 1, 1, 1, 1, 1, 1, 1, 1, 1, 0, 0, 0, 0, 0]
def stS2 : List Int := [0, 1, 2, 3, 4, 5, 6, 7, 8, 9, 10, 11]
def stK2 : List Int := [0, 1, 2, 6, 14, 30, 62, 126, 254, 510, 1022, 2046, 0, 0, 0, 0, 0, 0, 0, 0, 0, 0, 0, 0, 0, 0, 0, 0, 0, 0, 0, 0, 0, 0, 0, 0, 0, 0, 0, 0, 0, 0, 0, 0, 0, 0, 0, 0, 0, 0, 0, 0, 0, 0, 0, 0, 0, 0, 0, 0, 0, 0, 0, 0, 0, 0, 0, 0, 0, 0, 0, 0, 0, 0, 0, 0, 0, 0, 0, 0, 0, 0, 0, 0, 0, 0, 0, 0, 0, 0, 0, 0, 0, 0, 0, 0, 0, 0, 0, 0, 0, 0, 0, 0, 0, 0, 0, 0, 0, 0, 0, 0, 0, 0, 0, 0, 0, 0, 0, 0, 0, 0, 0, 0, 0, 0, 0, 0, 0, 0, 0, 0, 0, 0, 0, 0, 0, 0, 0, 0, 0, 0, 0, 0, 0, 0, 0, 0, 0, 0, 0, 0, 0, 0, 0, 0, 0, 0, 0, 0, 0, 0, 0, 0, 0, 0, 0, 0, 0, 0, 0, 0, 0, 0, 0, 0, 0, 0, 0, 0, 0, 0, 0, 0, 0, 0, 0, 0, 0, 0, 0, 0, 0, 0, 0, 0, 0, 0, 0, 0, 0, 0, 0, 0, 0, 0, 0, 0, 0, 0, 0, 0, 0, 0, 0, 0, 0, 0, 0, 0, 0, 0, 0, 0, 0, 0, 0, 0, 0, 0, 0, 0, 0, 0, 0, 0, 0, 0, 0, 0, 0, 0, 0, 0, 0, 0, 0, 0, 0, 0, 0, 0, 0, 0, 0, 0]
def stW2 : List Int := [2, 2, 2, 3, 4, 5, 6, 7, 8, 9, 10, 11, 0, 0, 0, 0, 0, 0, 0, 0, 0, 0, 0, 0, 0, 0, 0, 0, 0, 0, 0, 0, 0, 0, 0, 0, 0, 0, 0, 0, 0, 0, 0, 0, 0, 0, 0, 0, 0, 0, 0, 0, 0, 0, 0, 0, 0, 0, 0, 0, 0, 0, 0, 0, 0, 0, 0, 0, 0, 0, 0, 0, 0, 0, 0, 0, 0, 0, 0, 0, 0, 0, 0, 0, 0, 0, 0, 0, 0, 0, 0, 0, 0, 0, 0, 0, 0, 0, 0, 0, 0, 0, 0, 0, 0, 0, 0, 0, 0, 0, 0, 0, 0, 0, 0, 0, 0, 0, 0, 0, 0, 0, 0, 0, 0, 0, 0, 0, 0, 0, 0, 0, 0, 0, 0, 0, 0, 0, 0, 0, 0, 0, 0, 0, 0, 0, 0, 0, 0, 0, 0, 0, 0, 0, 0, 0, 0, 0, 0, 0, 0, 0, 0, 0, 0, 0, 0, 0, 0, 0, 0, 0, 0, 0, 0, 0, 0, 0, 0, 0, 0, 0, 0, 0, 0, 0, 0, 0, 0, 0, 0, 0, 0, 0, 0, 0, 0, 0, 0, 0, 0, 0, 0, 0, 0, 0, 0, 0, 0, 0, 0, 0, 0, 0, 0, 0, 0, 0, 0, 0, 0, 0, 0, 0, 0, 0, 0, 0, 0, 0, 0, 0, 0, 0, 0, 0, 0, 0, 0, 0, 0, 0, 0, 0, 0, 0, 0, 0, 0, 0, 0, 0, 0, 0, 0, 0]
def stC3 : List Int := [0, 0, 2, 1, 2, 4, 4, 3, 4, 7, 5, 4, 4, 0, 1, 2, 119]
def stS3 : List Int := [0, 1, 2, 3, 17, 4, 5, 33, 49, 6, 18, 65, 81, 7, 97, 113, 19, 34, 50, 129, 8, 20, 66, 145, 161, 177, 193, 9, 35, 51, 82, 240, 21, 98, 114, 209, 10, 22, 36, 52, 225, 37, 241, 23, 24, 25, 26, 38, 39, 40, 41, 42, 53, 54, 55, 56, 57, 58, 67, 68, 69, 70, 71, 72, 73, 74, 83, 84, 85, 86, 87, 88, 89, 90, 99, 100, 101, 102, 103, 104, 105, 106, 115, 116, 117, 118, 119, 120, 121, 122, 130, 131, 132, 133, 134, 135, 136, 137, 138, 146, 147, 148, 149, 150, 151, 152, 153, 154, 162, 163, 164, 165, 166, 167, 168, 169, 170, 178, 179, 180, 181, 182, 183, 184, 185, 186, 194, 195, 196, 197, 198, 199, 200, 201, 202, 210, 211, 212, 213, 214, 215, 216, 217, 218, 226, 227, 228, 229, 230, 231, 232, 233, 234, 242, 243, 244, 245, 246, 247, 248, 249, 250]
def stK3 : List Int := [0, 1, 4, 10, 24, 25, 56, 120, 500, 1014, 4084, 0, 0, 0, 0, 0, 0, 11, 57, 246, 501, 2038, 4085, 65416, 65417, 65418, 65419, 0, 0, 0, 0, 0, 0, 26, 247, 1015, 4086, 32706, 65420, 65421, 65422, 65423, 65424, 0, 0, 0, 0, 0, 0, 27, 248, 1016, 4087, 65425, 65426, 65427, 65428, 65429, 65430, 0, 0, 0, 0, 0, 0, 58, 502, 65431, 65432, 65433, 65434, 65435, 65436, 65437, 65438, 0, 0, 0, 0, 0, 0, 59, 1017, 65439, 65440, 65441, 65442, 65443, 65444, 65445, 65446, 0, 0, 0, 0, 0, 0, 121, 2039, 65447, 65448, 65449, 65450, 65451, 65452, 65453, 65454, 0, 0, 0, 0, 0, 0, 122, 2040, 65455, 65456, 65457, 65458, 65459, 65460, 65461, 65462, 0, 0, 0, 0, 0, 0, 249, 65463, 65464, 65465, 65466, 65467, 65468, 65469, 65470, 65471, 0, 0, 0, 0, 0, 0, 503, 65472, 65473, 65474, 65475, 65476, 65477, 65478, 65479, 65480, 0, 0, 0, 0, 0, 0, 504, 65481, 65482, 65483, 65484, 65485, 65486, 65487, 65488, 65489, 0, 0, 0, 0, 0, 0, 505, 65490, 65491, 65492, 65493, 65494, 65495, 65496, 65497, 65498, 0, 0, 0, 0, 0, 0, 506, 65499, 65500, 65501, 65502, 65503, 65504, 65505, 65506, 65507, 0, 0, 0, 0, 0, 0, 2041, 65508, 65509, 65510, 65511, 65512, 65513, 65514, 65515, 65516, 0, 0, 0, 0, 0, 0, 16352, 65517, 65518, 65519, 65520, 65521, 65522, 65523, 65524, 65525, 0, 0, 0, 0, 0, 1018, 32707, 65526, 65527, 65528, 65529, 65530, 65531, 65532, 65533, 65534, 0, 0, 0, 0, 0]
def stW3 : List Int := [2, 2, 3, 4, 5, 5, 6, 7, 9, 10, 12, 0, 0, 0, 0, 0, 0, 4, 6, 8, 9, 11, 12, 16, 16, 16, 16, 0, 0, 0, 0, 0, 0, 5, 8, 10, 12, 15, 16, 16, 16, 16, 16, 0, 0, 0, 0, 0, 0, 5, 8, 10, 12, 16, 16, 16, 16, 16, 16, 0, 0, 0, 0, 0, 0, 6, 9, 16, 16, 16, 16, 16, 16, 16, 16, 0, 0, 0, 0, 0, 0, 6, 10, 16, 16, 16, 16, 16, 16, 16, 16, 0, 0, 0, 0, 0, 0, 7, 11, 16, 16, 16, 16, 16, 16, 16, 16, 0, 0, 0, 0, 0, 0, 7, 11, 16, 16, 16, 16, 16, 16, 16, 16, 0, 0, 0, 0, 0, 0, 8, 16, 16, 16, 16, 16, 16, 16, 16, 16, 0, 0, 0, 0, 0, 0, 9, 16, 16, 16, 16, 16, 16, 16, 16, 16, 0, 0, 0, 0, 0, 0, 9, 16, 16, 16, 16, 16, 16, 16, 16, 16, 0, 0, 0, 0, 0, 0, 9, 16, 16, 16, 16, 16, 16, 16, 16, 16, 0, 0, 0, 0, 0, 0, 9, 16, 16, 16, 16, 16, 16, 16, 16, 16, 0, 0, 0, 0, 0, 0, 11, 16, 16, 16, 16, 16, 16, 16, 16, 16, 0, 0, 0, 0, 0, 0, 14, 16, 16, 16, 16, 16, 16, 16, 16, 16, 0, 0, 0, 0, 0, 10, 15, 16, 16, 16, 16, 16, 16, 16, 16, 16, 0, 0, 0, 0, 0]
def lutL0 : List Int := [33554432, 50331650, 50331651, 50331652, 50331653, 50331654, 67108878, 83886110, 100663358, 117440638, 134217982, 150995454]
def lutL1 : List Int := [67108874, 33554432, 33554433, 50331652, 67108875, 83886106, 117440632, 134217976, 167773174, 268500866, 268500867, 0, 0, 0, 0, 0, 0, 67108876, 83886107, 117440633, 150995446, 184551414, 268500868, 268500869, 268500870, 268500871, 268500872, 0, 0, 0, 0, 0, 0, 83886108, 134217977, 167773175, 201330676, 268500873, 268500874, 268500875, 268500876, 268500877, 268500878, 0, 0, 0, 0, 0, 0, 100663354, 150995447, 201330677, 268500879, 268500880, 268500881, 268500882, 268500883, 268500884, 268500885, 0, 0, 0, 0, 0, 0, 100663355, 167773176, 268500886, 268500887, 268500888, 268500889, 268500890, 268500891, 268500892, 268500893, 0, 0, 0, 0, 0, 0, 117440634, 184551415, 268500894, 268500895, 268500896, 268500897, 268500898, 268500899, 268500900, 268500901, 0, 0, 0, 0, 0, 0, 117440635, 201330678, 268500902, 268500903, 268500904, 268500905, 268500906, 268500907, 268500908, 268500909, 0, 0, 0, 0, 0, 0, 134217978, 201330679, 268500910, 268500911, 268500912, 268500913, 268500914, 268500915, 268500916, 268500917, 0, 0, 0, 0, 0, 0, 150995448, 251690944, 268500918, 268500919, 268500920, 268500921, 268500922, 268500923, 268500924, 268500925, 0, 0, 0, 0, 0, 0, 150995449, 268500926, 268500927, 268500928, 268500929, 268500930, 268500931, 268500932, 268500933, 268500934, 0, 0, 0, 0, 0, 0, 150995450, 268500935, 268500936, 268500937, 268500938, 268500939, 268500940, 268500941, 268500942, 268500943, 0, 0, 0, 0, 0, 0, 167773177, 268500944, 268500945, 268500946, 268500947, 268500948, 268500949, 268500950, 268500951, 268500952, 0, 0, 0, 0, 0, 0, 167773178, 268500953, 268500954, 268500955, 268500956, 268500957, 268500958, 268500959, 268500960, 268500961, 0, 0, 0, 0, 0, 0, 184551416, 268500962, 268500963, 268500964, 268500965, 268500966, 268500967, 268500968, 268500969, 268500970, 0, 0, 0, 0, 0, 0, 268500971, 268500972, 268500973, 268500974, 268500975, 268500976, 268500977, 268500978, 268500979, 268500980, 0, 0, 0, 0, 0, 184551417, 268500981, 268500982, 268500983, 268500984, 268500985, 268500986, 268500987, 268500988, 268500989, 268500990]
def lutL2 : List Int := [33554432, 33554433, 33554434, 50331654, 67108878, 83886110, 100663358, 117440638, 134217982, 150995454, 167773182, 184551422]
def lutL3 : List Int := [33554432, 33554433, 50331652, 67108874, 83886104, 83886105, 100663352, 117440632, 150995444, 167773174, 201330676, 0, 0, 0, 0, 0, 0, 67108875, 100663353, 134217974, 150995445, 184551414, 201330677, 268500872, 268500873, 268500874, 268500875, 0, 0, 0, 0, 0, 0, 83886106, 134217975, 167773175, 201330678, 251690946, 268500876, 268500877, 268500878, 268500879, 268500880, 0, 0, 0, 0, 0, 0, 83886107, 134217976, 167773176, 201330679, 268500881, 268500882, 268500883, 268500884, 268500885, 268500886, 0, 0, 0, 0, 0, 0, 100663354, 150995446, 268500887, 268500888, 268500889, 268500890, 268500891, 268500892, 268500893, 268500894, 0, 0, 0, 0, 0, 0, 100663355, 167773177, 268500895, 268500896, 268500897, 268500898, 268500899, 268500900, 268500901, 268500902, 0, 0, 0, 0, 0, 0, 117440633, 184551415, 268500903, 268500904, 268500905, 268500906, 268500907, 268500908, 268500909, 268500910, 0, 0, 0, 0, 0, 0, 117440634, 184551416, 268500911, 268500912, 268500913, 268500914, 268500915, 268500916, 268500917, 268500918, 0, 0, 0, 0, 0, 0, 134217977, 268500919, 268500920, 268500921, 268500922, 268500923, 268500924, 268500925, 268500926, 268500927, 0, 0, 0, 0, 0, 0, 150995447, 268500928, 268500929, 268500930, 268500931, 268500932, 268500933, 268500934, 268500935, 268500936, 0, 0, 0, 0, 0, 0, 150995448, 268500937, 268500938, 268500939, 268500940, 268500941, 268500942, 268500943, 268500944, 268500945, 0, 0, 0, 0, 0, 0, 150995449, 268500946, 268500947, 268500948, 268500949, 268500950, 268500951, 268500952, 268500953, 268500954, 0, 0, 0, 0, 0, 0, 150995450, 268500955, 268500956, 268500957, 268500958, 268500959, 268500960, 268500961, 268500962, 268500963, 0, 0, 0, 0, 0, 0, 184551417, 268500964, 268500965, 268500966, 268500967, 268500968, 268500969, 268500970, 268500971, 268500972, 0, 0, 0, 0, 0, 0, 234897376, 268500973, 268500974, 268500975, 268500976, 268500977, 268500978, 268500979, 268500980, 268500981, 0, 0, 0, 0, 0, 167773178, 251690947, 268500982, 268500983, 268500984, 268500985, 268500986, 268500987, 268500988, 268500989, 268500990]
end Go.VM
end

section
set_option linter.unusedSimpArgs false
namespace Go.VM
open Go Go.Proofs Go.Bits

/-! A block's bits: plain; the encoder's writeBlock. -/
def tabK : Nat → List Int
  | 0 => stK0
  | 1 => stK1
  | 2 => stK2
  | _ => stK3
def tabW : Nat → List Int
  | 0 => stW0
  | 1 => stW1
  | 2 => stW2
  | _ => stW3
def tabL : Nat → List Int
  | 0 => lutL0
  | 1 => lutL1
  | 2 => lutL2
  | _ => lutL3
def entK (t s : Nat) : Nat := (gI (tabK t) s).toNat
def entW (t s : Nat) : Nat := (gI (tabW t) s).toNat
/-- the code of a sign -/
def ent (t s : Nat) : List Bool := bitsOf (entK t s) (entW t s)
def numB (n : Int) : List Bool := bitsOf (codedN n) (blen n.natAbs)

theorem tab_check : ((List.range 4).all fun t => (List.range 256).all fun s => decide (0 ≤ gI (tabK t) s ∧ 0 ≤ gI (tabW t) s ∧ entW t s ≤ 16 ∧ entK t s < 2 ^ entW t s)) = true := by kernel_rfl
theorem lut_check : ((List.range 4).all fun t => (List.range (tabL t).length).all fun s => decide ((tabL t)[s]? = some ((entK t s + 16777216 * entW t s : Nat) : Int))) = true := by kernel_rfl
theorem ent_le (t s : Nat) (ht : t < 4) (hs : s < 256) : entW t s ≤ 16 ∧ entK t s < 2 ^ entW t s := by
  have := List.all_eq_true.1 (List.all_eq_true.1 tab_check t (by simpa using ht)) s (by simpa using hs)
  exact (of_decide_eq_true this).2.2
theorem ent_nn (t s : Nat) (ht : t < 4) (hs : s < 256) : gI (tabK t) s = (entK t s : Int) ∧ gI (tabW t) s = (entW t s : Int) := by
  have := List.all_eq_true.1 (List.all_eq_true.1 tab_check t (by simpa using ht)) s (by simpa using hs)
  have h := of_decide_eq_true this
  exact ⟨(Int.toNat_of_nonneg h.1).symm, (Int.toNat_of_nonneg h.2.1).symm⟩
theorem lut_get (t s : Nat) (ht : t < 4) (hs : s < (tabL t).length) : (tabL t)[s]? = some ((entK t s + 16777216 * entW t s : Nat) : Int) := by
  have := List.all_eq_true.1 (List.all_eq_true.1 lut_check t (by simpa using ht)) s (by simpa using hs)
  exact of_decide_eq_true this
theorem len_check : ((List.range 4).all fun t => decide ((tabL t).length = if t % 2 = 0 then 12 else 251)) = true := by kernel_rfl
theorem tabL_len (t : Nat) (ht : t < 4) : (tabL t).length = if t % 2 = 0 then 12 else 251 :=
  of_decide_eq_true (List.all_eq_true.1 len_check t (by simpa using ht))

/-- runs of noughts, then a number -/
def acX (t r : Nat) (x : Int) : List Bool := (List.replicate (r / 16) (ent t 240)).flatten ++ (ent t (r % 16 * 16 + blen x.natAbs) ++ numB x)
def acGo (t : Nat) (f : Nat → Int) : Nat → Nat → Nat → List Bool × Nat
  | 0, _, r => ([], r)
  | d + 1, j, r => if f j = 0 then acGo t f d (j + 1) (r + 1) else (acX t r (f j) ++ (acGo t f d (j + 1) 0).1, (acGo t f d (j + 1) 0).2)
def eob (t r : Nat) : List Bool := if r = 0 then [] else ent t 0
def dcX (t : Nat) (n : Int) : List Bool := ent t (blen n.natAbs) ++ numB n
def blkBits (c : Nat) (prev : Int) (f : Nat → Int) : List Bool :=
  dcX (2 * c) (f 0 - prev) ++ ((acGo (2 * c + 1) f 63 1 0).1 ++ eob (2 * c + 1) (acGo (2 * c + 1) f 63 1 0).2)

theorem ent_len (t s : Nat) (ht : t < 4) (hs : s < 256) : (ent t s).length ≤ 16 := by
  rw [ent, bitsOf_length]; exact (ent_le t s ht hs).1
theorem rep_len (t k : Nat) (ht : t < 4) : ((List.replicate k (ent t 240)).flatten).length ≤ 16 * k := by
  induction k with
  | zero => simp
  | succ k ih =>
    have := ent_len t 240 ht (by omega)
    simp only [List.replicate_succ, List.flatten_cons, List.length_append]
    omega
theorem numB_len (x : Int) (h : x.natAbs < 2 ^ 15) : (numB x).length ≤ 15 := by
  rw [numB, bitsOf_length]; exact blen_le h
theorem acX_len (t r : Nat) (x : Int) (ht : t < 4) (hr : r < 64) (hx : x.natAbs < 1024) : (acX t r x).length ≤ 80 := by
  have h1 := rep_len t (r / 16) ht
  have hb : blen x.natAbs ≤ 10 := blen_le (by omega)
  have h2 := ent_len t (r % 16 * 16 + blen x.natAbs) ht (by omega)
  have h3 := numB_len x (by omega)
  simp only [acX, List.length_append]
  omega
theorem acGo_len (t : Nat) (f : Nat → Int) (ht : t < 4) : ∀ (d j r : Nat), r + d < 64 → (∀ i, j ≤ i → i < j + d → (f i).natAbs < 1024) → (acGo t f d j r).1.length ≤ 80 * d ∧ (acGo t f d j r).2 < 64
  | 0, j, r, hr, _ => by simp [acGo]; omega
  | d + 1, j, r, hr, hf => by
    simp only [acGo]
    split
    · have := acGo_len t f ht d (j + 1) (r + 1) (by omega) (fun i h1 h2 => hf i (by omega) (by omega))
      omega
    · have := acGo_len t f ht d (j + 1) 0 (by omega) (fun i h1 h2 => hf i (by omega) (by omega))
      have h2 := acX_len t r (f j) ht (by omega) (hf j (by omega) (by omega))
      simp only [List.length_append]
      omega
theorem eob_len (t r : Nat) (ht : t < 4) : (eob t r).length ≤ 16 := by
  unfold eob
  split
  · simp
  · exact ent_len t 0 ht (by omega)
theorem blkBits_len (c : Nat) (prev : Int) (f : Nat → Int) (hc : c < 2) (h0 : (f 0 - prev).natAbs < 2048) (hf : ∀ i, 1 ≤ i → i < 64 → (f i).natAbs < 1024) : (blkBits c prev f).length ≤ 6000 := by
  have hb : blen (f 0 - prev).natAbs ≤ 11 := blen_le (by omega)
  have h1 := ent_len (2 * c) (blen (f 0 - prev).natAbs) (by omega) (by omega)
  have h2 := numB_len (f 0 - prev) (by omega)
  have h3 := (acGo_len (2 * c + 1) f (by omega) 63 1 0 (by omega) (fun i h1 h2 => hf i h1 (by omega))).1
  have h4 := eob_len (2 * c + 1) (acGo (2 * c + 1) f 63 1 0).2 (by omega)
  simp only [blkBits, dcX, List.length_append]
  omega

/-- the encoder's tables are the standard's -/
structure EncOk (K : EncK) : Prop where
  t : ∀ h, h < 4 → K.tab h = tabL h
  q : ∀ i, i < 128 → 1 ≤ gI K.q i ∧ gI K.q i ≤ 255

structure GlobE (C : Ctx) : Prop extends GlobB C where
  zz : ∀ j, j < 64 → C.ext ⟨1, j, none⟩ = some (.int .i64 (gI zzL j))

theorem zz_check : ((List.range 64).all fun j => decide (0 ≤ gI zzL j ∧ gI zzL j < 64 ∧ (j = 0 ↔ gI zzL j = 0))) = true := by kernel_rfl
theorem zz_le (j : Nat) (hj : j < 64) : 0 ≤ gI zzL j ∧ gI zzL j < 64 ∧ (j = 0 ↔ gI zzL j = 0) := of_decide_eq_true (List.all_eq_true.1 zz_check j (by simpa using hj))

/-- a block's numbers by a table, in zigzag order -/
def quantF (ys q : List Int) (c : Nat) (j : Nat) : Int := rnd (gI ys (gI zzL j).toNat) (8 * gI q (64 * c + j))

theorem rnd_le (a b : Int) (m : Int) (hb : 8 ≤ b) (hm : 0 ≤ m) (h1 : -(8 * m) - 3 ≤ a) (h2 : a ≤ 8 * m + 3) : -m ≤ rnd a b ∧ rnd a b ≤ m := by
  have key : ∀ x : Int, 0 ≤ x → x ≤ 8 * m + 3 → 0 ≤ (x + b / 2) / b ∧ (x + b / 2) / b ≤ m := by
    intro x hx1 hx2
    refine ⟨Int.ediv_nonneg (by omega) (by omega), ?_⟩
    apply Int.le_of_lt_add_one
    apply Int.ediv_lt_of_lt_mul (by omega)
    have hmb : 8 * m + b ≤ m * b + b := by
      have : m * 8 ≤ m * b := Int.mul_le_mul_of_nonneg_left hb hm
      omega
    have : (m + 1) * b = m * b + b := by rw [Int.add_mul, Int.one_mul]
    omega
  unfold rnd
  split
  · have := key (-a) (by omega) (by omega)
    omega
  · have := key a (by omega) (by omega)
    omega

theorem quantF_le (xs q : List Int) (c : Nat) (hc : c < 2) (hx : ∀ i, i < 64 → inB 0 255 (gI xs i)) (hq : ∀ i, i < 128 → 1 ≤ gI q i ∧ gI q i ≤ 255) (j : Nat) (hj : j < 64) :
    -1024 ≤ quantF (fwd xs) q c j ∧ quantF (fwd xs) q c j ≤ 1020 ∧ (j ≠ 0 → -1020 ≤ quantF (fwd xs) q c j) := by
  obtain ⟨z1, z2, z3⟩ := zz_le j hj
  obtain ⟨b1, b2⟩ := fwd_bounds xs hx (gI zzL j).toNat (by omega)
  obtain ⟨q1, q2⟩ := hq (64 * c + j) (by omega)
  unfold quantF
  by_cases h0 : j = 0
  · have r1 := rnd_le (gI (fwd xs) (gI zzL j).toNat) (8 * gI q (64 * c + j)) 1024 (by omega) (by omega) (by have := b1.1; omega) (by have := b1.2; omega)
    have r2 : rnd (gI (fwd xs) (gI zzL j).toNat) (8 * gI q (64 * c + j)) ≤ 1020 := by
      unfold rnd
      have hb2 := b1.2
      split
      · have := Int.ediv_nonneg (a := -gI (fwd xs) (gI zzL j).toNat + 8 * gI q (64 * c + j) / 2) (b := 8 * gI q (64 * c + j)) (by omega) (by omega)
        omega
      · rename_i hn
        have r3 := rnd_le (gI (fwd xs) (gI zzL j).toNat) (8 * gI q (64 * c + j)) 1020 (by omega) (by omega) (by omega) (by omega)
        unfold rnd at r3
        rw [if_neg hn] at r3
        exact r3.2
    exact ⟨r1.1, r2, fun h => absurd h0 h⟩
  · have b3 := b2 (by intro hh; exact h0 (z3.2 (by omega)))
    have r1 := rnd_le (gI (fwd xs) (gI zzL j).toNat) (8 * gI q (64 * c + j)) 1020 (by omega) (by omega) (by have := b3.1; omega) (by have := b3.2; omega)
    exact ⟨by omega, r1.2, fun _ => r1.1⟩
end Go.VM
end

section
set_option linter.unusedSimpArgs false
namespace Go.VM
open Go Go.Proofs Go.Bits

section
variable {K : EncK} {buf : List Int} {p : List Bool} {out : List Int} {R : Mem} {B : Blk}
theorem encP_0 : (encP K buf p out ++ R)[0]? = some (encBlk K buf ((val p * 2 ^ (32 - p.length) : Nat) : Int) (p.length : Nat)) := rfl
theorem encP_7 : (encP K buf p out ++ (B :: R))[7]? = some B := rfl
theorem encP_len : (encP K buf p out).length = 7 := rfl
theorem encP_len8 : (encP K buf p out ++ [B]).length = 8 := rfl
theorem enc_q (hb : buf.length = 16) {bits nb : Int} (i : Nat) (hi : i < 128) : cellB (some (encBlk K buf bits nb)) (20 + i) = some (.int .u8 (gI K.q i)) := by
  have h := encCells_get (K := K) (bits := bits) (nb := nb) hb (2 + i)
  simp only [encBlk, cellB]
  rw [show 20 + i = 18 + (2 + i) by omega, h, List.getElem?_append_right (by simp), List.getElem?_append_left (by simp [intVs_length, K.hq]; omega)]
  simp only [List.length_cons, List.length_nil, intVs, List.getElem?_map]
  rw [show 2 + i - (0 + 1 + 1) = i by omega, List.getElem?_eq_getElem (by rw [K.hq]; exact hi)]
  simp [gI, K.hq, hi]
end

/-- the code of a sign is written -/
theorem huff_spec (C : Ctx) (hP : C.P = Tryd.prog) (K : EncK) (hK : EncOk K) (buf : List Int) (hb : buf.length = 16) (p : List Bool) (hp : p.length < 8) (out : List Int) (ho : out.length ≤ 14000000) (h : Nat) (hh : h < 4) (v : Nat) (hv : v < (tabL h).length) (hv2 : v < 256) :
    VCalls C 72 [.ptr 0 0, .int .i64 h, .int .i32 v] (encP K buf p out) [2] (fun u M' => u = .tup [] ∧ M' = encP K buf (feed (p, out) (ent h v)).1 (feed (p, out) (ent h v)).2) :=
  emitHuff_spec C hP K buf hb p hp out ho h hh v (entK h v) (entW h v) (by rw [hK.t h hh]; exact lut_get h v hh hv) (ent_le h v hh hv2).1 (ent_le h v hh hv2).2

section
variable (C : Ctx) (hP : C.P = Tryd.prog) (hG : GlobE C) (K : EncK) (hK : EncOk K) (buf : List Int) (hb : buf.length = 16) (ys : List Int) (T : Nat) (hys : ys.length = 64)

include hP hK hb in
theorem zrl_loop (h : Nat) (hh : h < 4) (ht : h % 2 = 1) (Q : VX → Env → Mem → Prop) : ∀ (d r : Nat) (p : List Bool) (out : List Int) (e : Env), p.length < 8 → out.length + 32 * d ≤ 13000000 → r / 16 = d → r < 1000 → e.get 0 = .ptr 0 0 → e.get 10 = .int .i64 h → e.get 11 = .int .i32 r →
    (∀ e' : Env, (∀ k, k ∈ [0, 1, 2, 9, 10, 12, 13] → e'.get k = e.get k) → e'.get 11 = .int .i32 (r % 16 : Nat) →
      Q (.exit 2) e' (encP K buf (feed (p, out) (List.replicate d (ent h 240)).flatten).1 (feed (p, out) (List.replicate d (ent h 240)).flatten).2 ++ [.ints .i32 ys T])) →
    (e.get 1).drops [2] = e.get 1 → (e.get 2).drops [2] = e.get 2 → (e.get 9).drops [2] = e.get 9 → (e.get 12).drops [2] = e.get 12 → (e.get 13).drops [2] = e.get 13 →
    VRounds 8 (VWp C 8 [2] c62l0) (d + 1) e (encP K buf p out ++ [.ints .i32 ys T]) Q := by
  intro d
  induction d with
  | zero =>
    intro r p out e hp ho hr hr2 g0 g10 g11 hQ k1 k2 k9 k12 k13
    refine round_gen fun K1 hK1 => ?_
    have hd : decide ((15 : Int) < (r : Int)) = false := by simp; omega
    simp -implicitDefEqProofs only [vms, ↓reduceIte, Nat.reduceEqDiff, reduceCtorEq, c62l0, g11, hd]
    rw [hK1]
    refine hQ _ ?_ ?_
    · intro k hk
      simp only [List.mem_cons, List.not_mem_nil, or_false] at hk
      rcases hk with rfl | rfl | rfl | rfl | rfl | rfl | rfl <;> simp -implicitDefEqProofs only [vms, ↓reduceIte, Nat.reduceEqDiff, reduceCtorEq]
    · simp -implicitDefEqProofs only [vms, ↓reduceIte, Nat.reduceEqDiff, reduceCtorEq]
      rw [show r % 16 = r by omega]
  | succ d ih =>
    intro r p out e hp ho hr hr2 g0 g10 g11 hQ k1 k2 k9 k12 k13
    refine round_gen fun K1 hK1 => ?_
    have hd : decide ((15 : Int) < (r : Int)) = true := by simp; omega
    have hw : IntKind.i32.wrap ((r : Int) - 16) = ((r - 16 : Nat) : Int) := by rw [wrap_i32_id (by omega) (by omega)]; omega
    simp -implicitDefEqProofs only [vms, ↓reduceIte, Nat.reduceEqDiff, reduceCtorEq, c62l0, g0, g10, g11, hd]
    refine callK_pre [.ints .i32 ys T] (huff_spec C hP K hK buf hb p hp out (by omega) h hh 240 (by rw [tabL_len h hh, ht]; decide) (by omega)) rfl rfl encM_cl encM_cl rfl rfl (by simp) rfl rfl ?_
    have hfl := feed_lt (ent h 240) (s := (p, out)) hp
    have hol := feed_len (ent h 240) (p, out)
    have hel := ent_len h 240 hh (by omega)
    simp only at hol
    simp -implicitDefEqProofs only [vms, ↓reduceIte, Nat.reduceEqDiff, reduceCtorEq, callC, Nat.reduceBEq, hw, k1, k2, k9, k12, k13]
    rw [hK1, roundK_normal]
    refine ih (r - 16) _ _ _ hfl (by omega) (by omega) (by omega) ?_ ?_ ?_ ?_ ?_ ?_ ?_ ?_ ?_
    · simp -implicitDefEqProofs only [vms, ↓reduceIte, reduceCtorEq]
    · simp -implicitDefEqProofs only [vms, ↓reduceIte, Nat.reduceEqDiff, reduceCtorEq]
    · simp -implicitDefEqProofs only [vms, ↓reduceIte, Nat.reduceEqDiff, reduceCtorEq]
    · intro e' h1 h2
      have := hQ e' (fun k hk => ?_) (by rw [h2]; congr 2; omega)
      · simpa only [List.replicate_succ, List.flatten_cons, feed_append] using this
      · rw [h1 k hk]
        simp only [List.mem_cons, List.not_mem_nil, or_false] at hk
        rcases hk with rfl | rfl | rfl | rfl | rfl | rfl | rfl <;> simp -implicitDefEqProofs only [vms, ↓reduceIte, Nat.reduceEqDiff, reduceCtorEq, g0, g10]
    all_goals simp -implicitDefEqProofs only [vms, ↓reduceIte, Nat.reduceEqDiff, reduceCtorEq, k1, k2, k9, k12, k13]

include hP hG hK hb hys in
theorem ac_loop (c : Nat) (hc : c < 2) (hy : ∀ i, i < 64 → -1000000 ≤ gI ys i ∧ gI ys i ≤ 1000000) (hf : ∀ i, 1 ≤ i → i < 64 → (quantF ys K.q c i).natAbs < 1024) (dcv : Int) (Q : VX → Env → Mem → Prop) :
    ∀ (d j r : Nat) (p : List Bool) (out : List Int) (e : Env), j + d = 64 → 1 ≤ j → r < j → p.length < 8 → out.length + 200 * d ≤ 12500000 → e.get 0 = .ptr 0 0 → e.get 1 = .ptr 7 0 → e.get 2 = .int .i64 c → e.get 9 = .int .i32 dcv → e.get 10 = .int .i64 (2 * c + 1 : Nat) → e.get 11 = .int .i32 r → e.get 12 = .int .i64 j →
    (∀ e' : Env, e'.get 0 = .ptr 0 0 → e'.get 9 = .int .i32 dcv → e'.get 10 = .int .i64 (2 * c + 1 : Nat) → e'.get 11 = .int .i32 ((acGo (2 * c + 1) (quantF ys K.q c) d j r).2 : Nat) →
      Q (.exit 0) e' (encP K buf (feed (p, out) (acGo (2 * c + 1) (quantF ys K.q c) d j r).1).1 (feed (p, out) (acGo (2 * c + 1) (quantF ys K.q c) d j r).1).2 ++ [.ints .i32 ys T])) →
    VRounds 8 (VWp C 8 [2] c62l1) (d + 1) e (encP K buf p out ++ [.ints .i32 ys T]) Q := by
  intro d
  induction d with
  | zero =>
    intro j r p out e hj h1 hr hp ho g0 g1 g2 g9 g10 g11 g12 hQ
    refine round_gen fun K1 hK1 => ?_
    have hj' : j = 64 := by omega
    subst hj'
    have hd : decide (((64 : Nat) : Int) < 64) = false := by decide
    simp -implicitDefEqProofs only [vms, ↓reduceIte, Nat.reduceEqDiff, reduceCtorEq, natCast_lit, Int.reduceLT, c62l1, g12]
    rw [hK1]
    refine hQ _ ?_ ?_ ?_ ?_ <;> simp -implicitDefEqProofs only [vms, ↓reduceIte, Nat.reduceEqDiff, reduceCtorEq, g0, g9, g10, g11]
    rfl
  | succ d ih =>
    intro j r p out e hj h1 hr hp ho g0 g1 g2 g9 g10 g11 g12 hQ
    refine round_gen fun K1 hK1 => ?_
    have hd : decide ((j : Int) < 64) = true := by simp; omega
    have hwj : IntKind.i64.wrap ((j : Int) + 1) = ((j + 1 : Nat) : Int) := by rw [wrap_i64_id (by omega) (by omega)]; rfl
    have hwr : IntKind.i32.wrap ((r : Int) + 1) = ((r + 1 : Nat) : Int) := by rw [wrap_i32_id (by omega) (by omega)]; rfl
    obtain ⟨z1, z2, z3⟩ := zz_le j (by omega)
    obtain ⟨q1, q2⟩ := hK.q (64 * c + j) (by omega)
    have i1 : vidxA 64 1 (.raw (.pointer (some ⟨1, 0, none⟩))) (.int .i64 j) = some (.raw (.pointer (some ⟨1, j, none⟩))) := by
      rw [vidxA_raw (by omega) (by omega), Addr.add_lit]; simp
    have i2 : ∀ M, vld C M (.raw (.pointer (some ⟨1, j, none⟩))) = some (.int .i64 (gI zzL j)) := fun M => by
      rw [vld_raw (hG.zz j (by omega))]; rfl
    have i3 : vidxA 64 1 (.ptr 7 0) (.int .i64 (gI zzL j)) = some (.ptr 7 (gI zzL j).toNat) := by
      rw [vidxA_ptr z1 (by omega)]; simp
    have ld : cellB (some (.ints .i32 ys T)) (gI zzL j).toNat = some (.int .i32 (gI ys (gI zzL j).toNat)) := cellB_ints (gI_get ys _ (by omega))
    have i4 : vidxA 2 64 (.ptr 0 20) (.int .i64 (c : Int)) = some (.ptr 0 (20 + 64 * c)) := by
      rw [vidxA_ptr (by omega) (by omega)]; congr 2; simp; omega
    have i5 : vidxA 64 1 (.ptr 0 (20 + 64 * c)) (.int .i64 (j : Int)) = some (.ptr 0 (20 + (64 * c + j))) := by
      rw [vidxA_ptr (by omega) (by omega)]; congr 2; simp; omega
    have ldq := enc_q (K := K) hb (bits := ((val p * 2 ^ (32 - p.length) : Nat) : Int)) (nb := (p.length : Nat)) (64 * c + j) (by omega)
    have hwq : IntKind.i32.wrap (gI K.q (64 * c + j)) = gI K.q (64 * c + j) := wrap_i32_id (by omega) (by omega)
    have hw8 : IntKind.i32.wrap (8 * gI K.q (64 * c + j)) = 8 * gI K.q (64 * c + j) := wrap_i32_id (by omega) (by omega)
    simp -implicitDefEqProofs only [vms, ↓reduceIte, Nat.reduceEqDiff, reduceCtorEq, c62l1, g0, g1, g2, g9, g10, g11, g12, hd, i1, i2, i3, encP_7, encP_0, ld, i4, i5, ldq, hwq, hw8]
    refine callK_of [] rfl (by simp) (div_spec C hP _ (gI ys (gI zzL j).toNat) (8 * gI K.q (64 * c + j)) (hy _ (by omega)) (by omega)) ?_
    rintro _ _ ⟨rfl, rfl⟩
    have hfj := hf j h1 (by omega)
    have hx : rnd (gI ys (gI zzL j).toNat) (8 * gI K.q (64 * c + j)) = quantF ys K.q c j := rfl
    rw [hx]
    generalize hX : quantF ys K.q c j = x at *
    by_cases h0 : x = 0
    · have hd0 : decide (x = 0) = true := by simp [h0]
      simp -implicitDefEqProofs only [vms, ↓reduceIte, Nat.reduceEqDiff, reduceCtorEq, callC, hd0, hwr, hwj]
      rw [hK1, roundK_normal]
      have hgo : acGo (2 * c + 1) (quantF ys K.q c) (d + 1) j r = acGo (2 * c + 1) (quantF ys K.q c) d (j + 1) (r + 1) := by
        simp only [acGo, hX, h0, if_true]
      rw [hgo] at hQ
      refine ih (j + 1) (r + 1) p out _ (by omega) (by omega) (by omega) hp (by omega) ?_ ?_ ?_ ?_ ?_ ?_ ?_ hQ <;> simp -implicitDefEqProofs only [vms, ↓reduceIte, Nat.reduceEqDiff, reduceCtorEq]
    · have hd0 : decide (x = 0) = false := by simp [h0]
      have hgo : acGo (2 * c + 1) (quantF ys K.q c) (d + 1) j r = (acX (2 * c + 1) r x ++ (acGo (2 * c + 1) (quantF ys K.q c) d (j + 1) 0).1, (acGo (2 * c + 1) (quantF ys K.q c) d (j + 1) 0).2) := by
        simp only [acGo, hX, h0, if_false]
      rw [hgo] at hQ
      simp -implicitDefEqProofs only [vms, ↓reduceIte, Nat.reduceEqDiff, reduceCtorEq, callC, hd0]
      apply VWp_loop_of (k := r / 16 + 1)
      refine zrl_loop C hP K hK buf hb ys T (2 * c + 1) (by omega) (by omega) _ (r / 16) r p out _ hp (by omega) rfl (by omega) ?_ ?_ ?_ ?_ ?_ ?_ ?_ ?_ ?_
      · simp -implicitDefEqProofs only [vms, ↓reduceIte, reduceCtorEq]
      · simp -implicitDefEqProofs only [vms, ↓reduceIte, Nat.reduceEqDiff, reduceCtorEq]
      · simp -implicitDefEqProofs only [vms, ↓reduceIte, Nat.reduceEqDiff, reduceCtorEq]
      · intro e' k1 k11
        have k0 : e'.get 0 = .ptr 0 0 := by rw [k1 0 (by simp)]; (simp -implicitDefEqProofs only [vms, ↓reduceIte, reduceCtorEq]; try rfl)
        have kk1 : e'.get 1 = .ptr 7 0 := by rw [k1 1 (by simp)]; (simp -implicitDefEqProofs only [vms, ↓reduceIte, Nat.reduceEqDiff, reduceCtorEq]; try rfl)
        have k2 : e'.get 2 = .int .i64 c := by rw [k1 2 (by simp)]; (simp -implicitDefEqProofs only [vms, ↓reduceIte, Nat.reduceEqDiff, reduceCtorEq]; try rfl)
        have k9 : e'.get 9 = .int .i32 dcv := by rw [k1 9 (by simp)]; (simp -implicitDefEqProofs only [vms, ↓reduceIte, Nat.reduceEqDiff, reduceCtorEq]; try rfl)
        have k10 : e'.get 10 = .int .i64 (2 * c + 1 : Nat) := by rw [k1 10 (by simp)]; (simp -implicitDefEqProofs only [vms, ↓reduceIte, Nat.reduceEqDiff, reduceCtorEq]; try rfl)
        have k12 : e'.get 12 = .int .i64 j := by rw [k1 12 (by simp)]; (simp -implicitDefEqProofs only [vms, ↓reduceIte, Nat.reduceEqDiff, reduceCtorEq]; try rfl)
        have k13 : e'.get 13 = .int .i32 x := by rw [k1 13 (by simp)]; (simp -implicitDefEqProofs only [vms, ↓reduceIte, Nat.reduceEqDiff, reduceCtorEq]; try rfl)
        have hfl := feed_lt (List.replicate (r / 16) (ent (2 * c + 1) 240)).flatten (s := (p, out)) hp
        have hol := feed_len (List.replicate (r / 16) (ent (2 * c + 1) 240)).flatten (p, out)
        have hrl := rep_len (2 * c + 1) (r / 16) (by omega)
        simp only at hol
        have hbl : blen x.natAbs ≤ 10 := blen_le (by omega)
        have hidx : r % 16 * 16 + blen x.natAbs < (tabL (2 * c + 1)).length := by
          rw [tabL_len _ (by omega), if_neg (by omega)]; omega
        have hen := ent_le (2 * c + 1) (r % 16 * 16 + blen x.natAbs) (by omega) (by omega)
        simp -implicitDefEqProofs only [vms, ↓reduceIte, Nat.reduceEqDiff, k0, k10, k13, k11]
        refine callK_pre [.ints .i32 ys T] (emitHuffRLE_spec C hP hG.toGlobB K buf hb _ hfl _ (by omega) (2 * c + 1) (by omega) (r % 16) (by omega) x (by omega) (by omega) (entK (2 * c + 1) (r % 16 * 16 + blen x.natAbs)) (entW (2 * c + 1) (r % 16 * 16 + blen x.natAbs))
          (by rw [hK.t _ (by omega)]; exact lut_get _ _ (by omega) hidx) hen.1 hen.2) rfl rfl encM_cl encM_cl rfl rfl (by simp) rfl rfl ?_
        have m0 : (e'.erases [2]).get 0 = .ptr 0 0 := by rw [get_erases_eq, k0]; rfl
        have m1 : (e'.erases [2]).get 1 = .ptr 7 0 := by rw [get_erases_eq, kk1]; rfl
        have m2 : (e'.erases [2]).get 2 = .int .i64 c := by rw [get_erases_eq, k2]; rfl
        have m9 : (e'.erases [2]).get 9 = .int .i32 dcv := by rw [get_erases_eq, k9]; rfl
        have m10 : (e'.erases [2]).get 10 = .int .i64 (2 * c + 1 : Nat) := by rw [get_erases_eq, k10]; rfl
        have m12 : (e'.erases [2]).get 12 = .int .i64 j := by rw [get_erases_eq, k12]; rfl
        simp -implicitDefEqProofs only [vms, ↓reduceIte, Nat.reduceEqDiff, reduceCtorEq, callC, Nat.reduceBEq, m0, m1, m2, m9, m10, m12, hwj]
        rw [hK1, roundK_normal]
        have hfeed : feed (feed (p, out) (List.replicate (r / 16) (ent (2 * c + 1) 240)).flatten) (bitsOf (entK (2 * c + 1) (r % 16 * 16 + blen x.natAbs)) (entW (2 * c + 1) (r % 16 * 16 + blen x.natAbs)) ++ bitsOf (codedN x) (blen x.natAbs)) = feed (p, out) (acX (2 * c + 1) r x) := by
          rw [← feed_append]; rfl
        have hfl2 := feed_lt (acX (2 * c + 1) r x) (s := (p, out)) hp
        have hol2 := feed_len (acX (2 * c + 1) r x) (p, out)
        have hal := acX_len (2 * c + 1) r x (by omega) (by omega) (by omega)
        simp only at hol2
        rw [hfeed]
        refine ih (j + 1) 0 _ _ _ (by omega) (by omega) (by omega) hfl2 (by omega) ?_ ?_ ?_ ?_ ?_ ?_ ?_ ?_
        · simp -implicitDefEqProofs only [vms, ↓reduceIte, reduceCtorEq]
        · simp -implicitDefEqProofs only [vms, ↓reduceIte, Nat.reduceEqDiff, reduceCtorEq]
        · simp -implicitDefEqProofs only [vms, ↓reduceIte, Nat.reduceEqDiff, reduceCtorEq]
        · simp -implicitDefEqProofs only [vms, ↓reduceIte, Nat.reduceEqDiff, reduceCtorEq]
        · simp -implicitDefEqProofs only [vms, ↓reduceIte, Nat.reduceEqDiff, reduceCtorEq]
        · (simp -implicitDefEqProofs only [vms, ↓reduceIte, Nat.reduceEqDiff, reduceCtorEq, natCast_lit]; try rfl)
        · simp -implicitDefEqProofs only [vms, ↓reduceIte, Nat.reduceEqDiff, reduceCtorEq]
        · simpa only [feed_append] using hQ
      all_goals simp -implicitDefEqProofs only [vms, ↓reduceIte, Nat.reduceEqDiff, reduceCtorEq, Nat.reduceBEq]
end

theorem writeBlock_spec (C : Ctx) (hP : C.P = Tryd.prog) (hG : GlobE C) (K : EncK) (hK : EncOk K) (buf : List Int) (hb : buf.length = 16) (xs : List Int) (T : Nat) (hxs : xs.length = 64) (hx : ∀ i, i < 64 → inB 0 255 (gI xs i)) (c : Nat) (hc : c < 2)
    (prev : Int) (hp1 : -1024 ≤ prev) (hp2 : prev ≤ 1020) (p : List Bool) (hp : p.length < 8) (out : List Int) (ho : out.length ≤ 12000000) :
    VCalls C 62 [.ptr 0 0, .ptr 7 0, .int .i64 c, .int .i32 prev] (encP K buf p out ++ [.ints .i32 xs T]) [2]
      (fun v M' => v = .int .i32 (quantF (fwd xs) K.q c 0) ∧ M' = encP K buf (feed (p, out) (blkBits c prev (quantF (fwd xs) K.q c))).1 (feed (p, out) (blkBits c prev (quantF (fwd xs) K.q c))).2 ++ [.ints .i32 (fwd xs) T]) := by
  refine VCalls.of_fn (hs := h62) (F := F62) (by rw [hP]; exact is62) (by simp [F62]) ?_
  obtain ⟨f1, f2, -⟩ := quantF_le xs K.q c hc hx hK.q 0 (by omega)
  have hy : ∀ i, i < 64 → -1000000 ≤ gI (fwd xs) i ∧ gI (fwd xs) i ≤ 1000000 := by
    intro i hi
    have := (fwd_bounds xs hx i hi).1
    unfold inB at this
    omega
  have hf : ∀ i, 1 ≤ i → i < 64 → (quantF (fwd xs) K.q c i).natAbs < 1024 := by
    intro i h1 h2
    obtain ⟨g1, g2, -⟩ := quantF_le xs K.q c hc hx hK.q i h2
    have := (quantF_le xs K.q c hc hx hK.q i h2).2.2 (by omega)
    omega
  obtain ⟨q1, q2⟩ := hK.q (64 * c) (by omega)
  have hcl : clB 1 [0] = true := rfl
  have mg : merge (encP K buf p out ++ [.ints .i32 xs T]) [7] [.ints .i32 (fwd xs) T] = encP K buf p out ++ [.ints .i32 (fwd xs) T] := rfl
  simp -implicitDefEqProofs only [vms, ↓reduceIte, Nat.reduceEqDiff, Nat.reduceAdd, reduceCtorEq, F62, c62, encP_len8]
  refine callK_fr [7] (fdct_spec C hP xs T hxs) rfl (by simp) rfl ⟨rfl, trivial⟩ rfl rfl rfl ?_
  rintro _ _ ⟨rfl, rfl⟩ -
  rw [mg]
  have ld : cellB (some (.ints .i32 (fwd xs) T)) 0 = some (.int .i32 (gI (fwd xs) 0)) := cellB_ints (gI_get _ 0 (by rw [fwd_len]; omega))
  have i4 : vidxA 2 64 (.ptr 0 20) (.int .i64 (c : Int)) = some (.ptr 0 (20 + 64 * c)) := by
    rw [vidxA_ptr (by omega) (by omega)]; congr 2; simp; omega
  have ldq := enc_q (K := K) hb (bits := ((val p * 2 ^ (32 - p.length) : Nat) : Int)) (nb := (p.length : Nat)) (64 * c) (by omega)
  have hwq : IntKind.i32.wrap (gI K.q (64 * c)) = gI K.q (64 * c) := wrap_i32_id (by omega) (by omega)
  have hw8 : IntKind.i32.wrap (8 * gI K.q (64 * c)) = 8 * gI K.q (64 * c) := wrap_i32_id (by omega) (by omega)
  have e1 : IntKind.i64.wrap (2 * (c : Int)) = ((2 * c : Nat) : Int) := by rw [wrap_i64_id (by omega) (by omega)]; omega
  have e2 : IntKind.i64.wrap (((2 * c : Nat) : Int) + 0) = ((2 * c : Nat) : Int) := by rw [wrap_i64_id (by omega) (by omega)]; omega
  have e3 : IntKind.i64.wrap (((2 * c : Nat) : Int) + 1) = ((2 * c + 1 : Nat) : Int) := by rw [wrap_i64_id (by omega) (by omega)]; omega
  simp -implicitDefEqProofs only [vms, ↓reduceIte, Nat.reduceEqDiff, reduceCtorEq, Int.reduceToNat, Int.reduceLE, callC, Nat.reduceLT, vidxA_lit, Nat.reduceMul, encP_7, encP_0, ld, i4, ldq, hwq, hw8]
  refine callK_of [] rfl (by simp) (div_spec C hP _ (gI (fwd xs) 0) (8 * gI K.q (64 * c)) (hy _ (by omega)) (by omega)) ?_
  rintro _ _ ⟨rfl, rfl⟩
  have hX0 : rnd (gI (fwd xs) 0) (8 * gI K.q (64 * c)) = quantF (fwd xs) K.q c 0 := rfl
  rw [hX0]
  have hacB : ∀ x, blkBits c prev (quantF (fwd xs) K.q c) = x → x = dcX (2 * c) (quantF (fwd xs) K.q c 0 - prev) ++ ((acGo (2 * c + 1) (quantF (fwd xs) K.q c) 63 1 0).1 ++ eob (2 * c + 1) (acGo (2 * c + 1) (quantF (fwd xs) K.q c) 63 1 0).2) := fun x hx => hx.symm
  rw [hacB _ rfl]
  have hal := acGo_len (2 * c + 1) (quantF (fwd xs) K.q c) (by omega) 63 1 0 (by omega) (fun i h1 h2 => hf i h1 (by omega))
  have hac := ac_loop C hP hG K hK buf hb (fwd xs) T (fwd_len xs) c hc hy hf (quantF (fwd xs) K.q c 0)
  generalize hX : quantF (fwd xs) K.q c 0 = x at *
  have hwd : IntKind.i32.wrap (x - prev) = x - prev := wrap_i32_id (by omega) (by omega)
  have hbl : blen (x - prev).natAbs ≤ 11 := blen_le (by omega)
  have hidx : 0 * 16 + blen (x - prev).natAbs < (tabL (2 * c)).length := by
    rw [tabL_len _ (by omega), if_pos (by omega)]; omega
  have hen := ent_le (2 * c) (0 * 16 + blen (x - prev).natAbs) (by omega) (by omega)
  simp -implicitDefEqProofs only [vms, ↓reduceIte, Nat.reduceEqDiff, reduceCtorEq, callC, e1, e2, hwd]
  refine callK_pre [.ints .i32 (fwd xs) T] (emitHuffRLE_spec C hP hG.toGlobB K buf hb p hp out (by omega) (2 * c) (by omega) 0 (by omega) (x - prev) (by omega) (by omega) (entK (2 * c) (0 * 16 + blen (x - prev).natAbs)) (entW (2 * c) (0 * 16 + blen (x - prev).natAbs))
    (by rw [hK.t _ (by omega)]; exact lut_get _ _ (by omega) hidx) hen.1 hen.2) rfl rfl encM_cl encM_cl rfl rfl (by simp) rfl rfl ?_
  have hfeed : feed (p, out) (bitsOf (entK (2 * c) (0 * 16 + blen (x - prev).natAbs)) (entW (2 * c) (0 * 16 + blen (x - prev).natAbs)) ++ bitsOf (codedN (x - prev)) (blen (x - prev).natAbs)) = feed (p, out) (dcX (2 * c) (x - prev)) := by
    rw [Nat.zero_mul, Nat.zero_add]; rfl
  rw [hfeed]
  have hfl := feed_lt (dcX (2 * c) (x - prev)) (s := (p, out)) hp
  have hol := feed_len (dcX (2 * c) (x - prev)) (p, out)
  have hdl : (dcX (2 * c) (x - prev)).length ≤ 31 := by
    have h1 := ent_len (2 * c) (blen (x - prev).natAbs) (by omega) (by omega)
    have h2 := numB_len (x - prev) (by omega)
    simp only [dcX, List.length_append]
    omega
  simp only at hol
  simp -implicitDefEqProofs only [vms, ↓reduceIte, Nat.reduceEqDiff, reduceCtorEq, callC, Nat.reduceBEq, e1, e3]
  apply VWp_loop_of (k := 64)
  refine hac _ 63 1 0 _ _ _ rfl (by omega) (by omega) hfl (by omega) ?_ ?_ ?_ ?_ ?_ ?_ ?_ ?_
  · simp -implicitDefEqProofs only [vms, ↓reduceIte, reduceCtorEq]
  · simp -implicitDefEqProofs only [vms, ↓reduceIte, Nat.reduceEqDiff, reduceCtorEq]
  · simp -implicitDefEqProofs only [vms, ↓reduceIte, Nat.reduceEqDiff, reduceCtorEq]
  · simp -implicitDefEqProofs only [vms, ↓reduceIte, Nat.reduceEqDiff, reduceCtorEq]
  · simp -implicitDefEqProofs only [vms, ↓reduceIte, Nat.reduceEqDiff, reduceCtorEq]
  · (simp -implicitDefEqProofs only [vms, ↓reduceIte, Nat.reduceEqDiff, reduceCtorEq, natCast_lit]; try rfl)
  · (simp -implicitDefEqProofs only [vms, ↓reduceIte, Nat.reduceEqDiff, reduceCtorEq, natCast_lit]; try rfl)
  · intro e' g0 g9 g10 g11
    have hol2 : (feed ((feed (p, out) (dcX (2 * c) (x - prev))).1, (feed (p, out) (dcX (2 * c) (x - prev))).2) (acGo (2 * c + 1) (quantF (fwd xs) K.q c) 63 1 0).1).2.length ≤ (feed (p, out) (dcX (2 * c) (x - prev))).2.length + 2 * (acGo (2 * c + 1) (quantF (fwd xs) K.q c) 63 1 0).1.length := feed_len _ _
    have hfl2 := feed_lt (acGo (2 * c + 1) (quantF (fwd xs) K.q c) 63 1 0).1 (s := feed (p, out) (dcX (2 * c) (x - prev))) hfl
    generalize acGo (2 * c + 1) (quantF (fwd xs) K.q c) 63 1 0 = G at *
    have e4 : ∀ S : List Bool × List Int, (S.1, S.2) = S := fun S => rfl
    by_cases h0 : G.2 = 0
    · have hd : decide ((0 : Int) < ((G.2 : Nat) : Int)) = false := by simp [h0]
      simp -implicitDefEqProofs only [vms, ↓reduceIte, Nat.reduceEqDiff, reduceCtorEq, g0, g9, g10, g11, hd]
      refine retGo_refl ⟨rfl, ?_⟩
      simp only [eob, h0, if_true, List.append_nil, feed_append]
    · have hd : decide ((0 : Int) < ((G.2 : Nat) : Int)) = true := by simp; omega
      simp -implicitDefEqProofs only [vms, ↓reduceIte, Nat.reduceEqDiff, reduceCtorEq, g0, g9, g10, g11, hd]
      refine callK_pre [.ints .i32 (fwd xs) T] (huff_spec C hP K hK buf hb _ hfl2 _ (by omega) (2 * c + 1) (by omega) 0 (by rw [tabL_len _ (by omega), if_neg (by omega)]; omega) (by omega)) rfl rfl encM_cl encM_cl rfl rfl (by simp) rfl rfl ?_
      have m9 : (e'.erases [2]).get 9 = .int .i32 x := by rw [get_erases_eq, g9]; rfl
      simp -implicitDefEqProofs only [vms, ↓reduceIte, Nat.reduceEqDiff, reduceCtorEq, callC, Nat.reduceBEq]
      refine retGo_refl ⟨rfl, ?_⟩
      simp only [eob, h0, if_false, feed_append]
end Go.VM
end
