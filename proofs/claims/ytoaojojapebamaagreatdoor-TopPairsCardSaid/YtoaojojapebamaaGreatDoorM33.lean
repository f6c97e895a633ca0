/- PLAIN: wansung's table, as a closed list (printed by gwan.py); PLAIN: wansung's rows: what its table finds, forwards and backwards -/
import Derived.Test.YtoaojojapebamaaGreatDoorM20
import Derived.Test.YtoaojojapebamaaGreatDoorM07
import Derived.Test.YtoaojojapebamaaGreatDoorM16
namespace Go.Proofs.Dia

def wanP : List UInt8 := [227, 128, 128, 227, 128, 129, 227, 128, 130, 194, 183, 226, 128, 165, 226, 128, 166, 194, 168, 227, 128, 131, 194, 173, 226, 128, 149, 226, 136, 165, 239, 188, 188, 226, 136, 188, 226, 128, 152, 226, 128, 153, 226, 128, 156, 226, 128, 157, 227, 128, 148, 227, 128, 149, 227, 128, 136, 227, 128, 137, 227, 128, 138, 227, 128, 139, 227, 128, 140, 227, 128, 141, 227, 128, 142, 227, 128, 143, 227, 128, 144, 227, 128, 145, 194, 177, 195, 151, 195, 183, 226, 137, 160, 226, 137, 164, 226, 137, 165, 226, 136, 158, 226, 136, 180, 194, 176, 226, 128, 178, 226, 128, 179, 226, 132, 131, 226, 132, 171, 239, 191, 160, 239, 191, 161, 239, 191, 165, 226, 153, 130, 226, 153, 128, 226, 136, 160, 226, 138, 165, 226, 140, 146, 226, 136, 130, 226, 136, 135, 226, 137, 161, 226, 137, 146, 194, 167, 226, 128, 187, 226, 152, 134, 226, 152, 133, 226, 151, 139, 226, 151, 143, 226, 151, 142, 226, 151, 135, 226, 151, 134, 226, 150, 161, 226, 150, 160, 226, 150, 179, 226, 150, 178, 226, 150, 189, 226, 150, 188, 226, 134, 146, 226, 134, 144, 226, 134, 145, 226, 134, 147, 226, 134, 148, 227, 128, 147, 226, 137, 170, 226, 137, 171, 226, 136, 154, 226, 136, 189, 226, 136, 157, 226, 136, 181, 226, 136, 171, 226, 136, 172, 226, 136, 136, 226, 136, 139, 226, 138, 134, 226, 138, 135, 226, 138, 130, 226, 138, 131, 226, 136, 170, 226, 136, 169, 226, 136, 167, 226, 136, 168, 239, 191, 162]
def wanPS : List Int := [12288, 12289, 12290, 183, 8229, 8230, 168, 12291, 173, 8213, 8741, 65340, 8764, 8216, 8217, 8220, 8221, 12308, 12309, 12296, 12297, 12298, 12299, 12300, 12301, 12302, 12303, 12304, 12305, 177, 215, 247, 8800, 8804, 8805, 8734, 8756, 176, 8242, 8243, 8451, 8491, 65504, 65505, 65509, 9794, 9792, 8736, 8869, 8978, 8706, 8711, 8801, 8786, 167, 8251, 9734, 9733, 9675, 9679, 9678, 9671, 9670, 9633, 9632, 9651, 9650, 9661, 9660, 8594, 8592, 8593, 8595, 8596, 12307, 8810, 8811, 8730, 8765, 8733, 8757, 8747, 8748, 8712, 8715, 8838, 8839, 8834, 8835, 8746, 8745, 8743, 8744, 65506]
set_option maxRecDepth 100000 in
theorem wanP_pts : pts wanP = (wanPS, -1) := by decide +kernel
def wanM : List UInt8 := [226, 135, 146, 226, 135, 148, 226, 136, 128, 226, 136, 131, 194, 180, 239, 189, 158, 203, 135, 203, 152, 203, 157, 203, 154, 203, 153, 194, 184, 203, 155, 194, 161, 194, 191, 203, 144, 226, 136, 174, 226, 136, 145, 226, 136, 143, 194, 164, 226, 132, 137, 226, 128, 176, 226, 151, 129, 226, 151, 128, 226, 150, 183, 226, 150, 182, 226, 153, 164, 226, 153, 160, 226, 153, 161, 226, 153, 165, 226, 153, 167, 226, 153, 163, 226, 138, 153, 226, 151, 136, 226, 150, 163, 226, 151, 144, 226, 151, 145, 226, 150, 146, 226, 150, 164, 226, 150, 165, 226, 150, 168, 226, 150, 167, 226, 150, 166, 226, 150, 169, 226, 153, 168, 226, 152, 143, 226, 152, 142, 226, 152, 156, 226, 152, 158, 194, 182, 226, 128, 160, 226, 128, 161, 226, 134, 149, 226, 134, 151, 226, 134, 153, 226, 134, 150, 226, 134, 152, 226, 153, 173, 226, 153, 169, 226, 153, 170, 226, 153, 172, 227, 137, 191, 227, 136, 156, 226, 132, 150, 227, 143, 135, 226, 132, 162, 227, 143, 130, 227, 143, 152, 226, 132, 161, 226, 130, 172, 194, 174]
def wanMS : List Int := [8658, 8660, 8704, 8707, 180, 65374, 711, 728, 733, 730, 729, 184, 731, 161, 191, 720, 8750, 8721, 8719, 164, 8457, 8240, 9665, 9664, 9655, 9654, 9828, 9824, 9825, 9829, 9831, 9827, 8857, 9672, 9635, 9680, 9681, 9618, 9636, 9637, 9640, 9639, 9638, 9641, 9832, 9743, 9742, 9756, 9758, 182, 8224, 8225, 8597, 8599, 8601, 8598, 8600, 9837, 9833, 9834, 9836, 12927, 12828, 8470, 13255, 8482, 13250, 13272, 8481, 8364, 174]
set_option maxRecDepth 100000 in
theorem wanM_pts : pts wanM = (wanMS, -1) := by decide +kernel
def wanF : List UInt8 := [226, 148, 128, 226, 148, 130, 226, 148, 140, 226, 148, 144, 226, 148, 152, 226, 148, 148, 226, 148, 156, 226, 148, 172, 226, 148, 164, 226, 148, 180, 226, 148, 188, 226, 148, 129, 226, 148, 131, 226, 148, 143, 226, 148, 147, 226, 148, 155, 226, 148, 151, 226, 148, 163, 226, 148, 179, 226, 148, 171, 226, 148, 187, 226, 149, 139, 226, 148, 160, 226, 148, 175, 226, 148, 168, 226, 148, 183, 226, 148, 191, 226, 148, 157, 226, 148, 176, 226, 148, 165, 226, 148, 184, 226, 149, 130, 226, 148, 146, 226, 148, 145, 226, 148, 154, 226, 148, 153, 226, 148, 150, 226, 148, 149, 226, 148, 142, 226, 148, 141, 226, 148, 158, 226, 148, 159, 226, 148, 161, 226, 148, 162, 226, 148, 166, 226, 148, 167, 226, 148, 169, 226, 148, 170, 226, 148, 173, 226, 148, 174, 226, 148, 177, 226, 148, 178, 226, 148, 181, 226, 148, 182, 226, 148, 185, 226, 148, 186, 226, 148, 189, 226, 148, 190, 226, 149, 128, 226, 149, 129, 226, 149, 131, 226, 149, 132, 226, 149, 133, 226, 149, 134, 226, 149, 135, 226, 149, 136, 226, 149, 137, 226, 149, 138]
def wanFS : List Int := [9472, 9474, 9484, 9488, 9496, 9492, 9500, 9516, 9508, 9524, 9532, 9473, 9475, 9487, 9491, 9499, 9495, 9507, 9523, 9515, 9531, 9547, 9504, 9519, 9512, 9527, 9535, 9501, 9520, 9509, 9528, 9538, 9490, 9489, 9498, 9497, 9494, 9493, 9486, 9485, 9502, 9503, 9505, 9506, 9510, 9511, 9513, 9514, 9517, 9518, 9521, 9522, 9525, 9526, 9529, 9530, 9533, 9534, 9536, 9537, 9539, 9540, 9541, 9542, 9543, 9544, 9545, 9546]
set_option maxRecDepth 100000 in
theorem wanF_pts : pts wanF = (wanFS, -1) := by decide +kernel
def wanPs : List Piece := [⟨0, 0, 0, wanP⟩, ⟨94, 0, 0, wanM⟩, ⟨188, 65281, 59, []⟩, ⟨247, 65510, 1, []⟩, ⟨248, 65341, 33, []⟩, ⟨281, 65507, 1, []⟩, ⟨282, 12593, 94, []⟩, ⟨376, 8560, 10, []⟩, ⟨391, 8544, 10, []⟩, ⟨408, 913, 17, []⟩, ⟨425, 931, 7, []⟩, ⟨440, 945, 17, []⟩, ⟨457, 963, 7, []⟩, ⟨470, 0, 0, wanF⟩, ⟨846, 12353, 83, []⟩, ⟨940, 12449, 86, []⟩, ⟨1034, 1040, 6, []⟩, ⟨1040, 1025, 1, []⟩, ⟨1041, 1046, 26, []⟩, ⟨1082, 1072, 6, []⟩, ⟨1088, 1105, 1, []⟩, ⟨1089, 1078, 26, []⟩]
/-- the twelve rows; 0: none -/
def wanW : List (List Int) := [[12288, 12289, 12290, 183, 8229, 8230, 168, 12291, 173, 8213, 8741, 65340, 8764, 8216, 8217, 8220, 8221, 12308, 12309, 12296, 12297, 12298, 12299, 12300, 12301, 12302, 12303, 12304, 12305, 177, 215, 247, 8800, 8804, 8805, 8734, 8756, 176, 8242, 8243, 8451, 8491, 65504, 65505, 65509, 9794, 9792, 8736, 8869, 8978, 8706, 8711, 8801, 8786, 167, 8251, 9734, 9733, 9675, 9679, 9678, 9671, 9670, 9633, 9632, 9651, 9650, 9661, 9660, 8594, 8592, 8593, 8595, 8596, 12307, 8810, 8811, 8730, 8765, 8733, 8757, 8747, 8748, 8712, 8715, 8838, 8839, 8834, 8835, 8746, 8745, 8743, 8744, 65506],
  [8658, 8660, 8704, 8707, 180, 65374, 711, 728, 733, 730, 729, 184, 731, 161, 191, 720, 8750, 8721, 8719, 164, 8457, 8240, 9665, 9664, 9655, 9654, 9828, 9824, 9825, 9829, 9831, 9827, 8857, 9672, 9635, 9680, 9681, 9618, 9636, 9637, 9640, 9639, 9638, 9641, 9832, 9743, 9742, 9756, 9758, 182, 8224, 8225, 8597, 8599, 8601, 8598, 8600, 9837, 9833, 9834, 9836, 12927, 12828, 8470, 13255, 8482, 13250, 13272, 8481, 8364, 174, 0, 0, 0, 0, 0, 0, 0, 0, 0, 0, 0, 0, 0, 0, 0, 0, 0, 0, 0, 0, 0, 0, 0],
  [65281, 65282, 65283, 65284, 65285, 65286, 65287, 65288, 65289, 65290, 65291, 65292, 65293, 65294, 65295, 65296, 65297, 65298, 65299, 65300, 65301, 65302, 65303, 65304, 65305, 65306, 65307, 65308, 65309, 65310, 65311, 65312, 65313, 65314, 65315, 65316, 65317, 65318, 65319, 65320, 65321, 65322, 65323, 65324, 65325, 65326, 65327, 65328, 65329, 65330, 65331, 65332, 65333, 65334, 65335, 65336, 65337, 65338, 65339, 65510, 65341, 65342, 65343, 65344, 65345, 65346, 65347, 65348, 65349, 65350, 65351, 65352, 65353, 65354, 65355, 65356, 65357, 65358, 65359, 65360, 65361, 65362, 65363, 65364, 65365, 65366, 65367, 65368, 65369, 65370, 65371, 65372, 65373, 65507],
  [12593, 12594, 12595, 12596, 12597, 12598, 12599, 12600, 12601, 12602, 12603, 12604, 12605, 12606, 12607, 12608, 12609, 12610, 12611, 12612, 12613, 12614, 12615, 12616, 12617, 12618, 12619, 12620, 12621, 12622, 12623, 12624, 12625, 12626, 12627, 12628, 12629, 12630, 12631, 12632, 12633, 12634, 12635, 12636, 12637, 12638, 12639, 12640, 12641, 12642, 12643, 12644, 12645, 12646, 12647, 12648, 12649, 12650, 12651, 12652, 12653, 12654, 12655, 12656, 12657, 12658, 12659, 12660, 12661, 12662, 12663, 12664, 12665, 12666, 12667, 12668, 12669, 12670, 12671, 12672, 12673, 12674, 12675, 12676, 12677, 12678, 12679, 12680, 12681, 12682, 12683, 12684, 12685, 12686],
  [8560, 8561, 8562, 8563, 8564, 8565, 8566, 8567, 8568, 8569, 0, 0, 0, 0, 0, 8544, 8545, 8546, 8547, 8548, 8549, 8550, 8551, 8552, 8553, 0, 0, 0, 0, 0, 0, 0, 913, 914, 915, 916, 917, 918, 919, 920, 921, 922, 923, 924, 925, 926, 927, 928, 929, 931, 932, 933, 934, 935, 936, 937, 0, 0, 0, 0, 0, 0, 0, 0, 945, 946, 947, 948, 949, 950, 951, 952, 953, 954, 955, 956, 957, 958, 959, 960, 961, 963, 964, 965, 966, 967, 968, 969, 0, 0, 0, 0, 0, 0],
  [9472, 9474, 9484, 9488, 9496, 9492, 9500, 9516, 9508, 9524, 9532, 9473, 9475, 9487, 9491, 9499, 9495, 9507, 9523, 9515, 9531, 9547, 9504, 9519, 9512, 9527, 9535, 9501, 9520, 9509, 9528, 9538, 9490, 9489, 9498, 9497, 9494, 9493, 9486, 9485, 9502, 9503, 9505, 9506, 9510, 9511, 9513, 9514, 9517, 9518, 9521, 9522, 9525, 9526, 9529, 9530, 9533, 9534, 9536, 9537, 9539, 9540, 9541, 9542, 9543, 9544, 9545, 9546, 0, 0, 0, 0, 0, 0, 0, 0, 0, 0, 0, 0, 0, 0, 0, 0, 0, 0, 0, 0, 0, 0, 0, 0, 0, 0],
  [0, 0, 0, 0, 0, 0, 0, 0, 0, 0, 0, 0, 0, 0, 0, 0, 0, 0, 0, 0, 0, 0, 0, 0, 0, 0, 0, 0, 0, 0, 0, 0, 0, 0, 0, 0, 0, 0, 0, 0, 0, 0, 0, 0, 0, 0, 0, 0, 0, 0, 0, 0, 0, 0, 0, 0, 0, 0, 0, 0, 0, 0, 0, 0, 0, 0, 0, 0, 0, 0, 0, 0, 0, 0, 0, 0, 0, 0, 0, 0, 0, 0, 0, 0, 0, 0, 0, 0, 0, 0, 0, 0, 0, 0],
  [0, 0, 0, 0, 0, 0, 0, 0, 0, 0, 0, 0, 0, 0, 0, 0, 0, 0, 0, 0, 0, 0, 0, 0, 0, 0, 0, 0, 0, 0, 0, 0, 0, 0, 0, 0, 0, 0, 0, 0, 0, 0, 0, 0, 0, 0, 0, 0, 0, 0, 0, 0, 0, 0, 0, 0, 0, 0, 0, 0, 0, 0, 0, 0, 0, 0, 0, 0, 0, 0, 0, 0, 0, 0, 0, 0, 0, 0, 0, 0, 0, 0, 0, 0, 0, 0, 0, 0, 0, 0, 0, 0, 0, 0],
  [0, 0, 0, 0, 0, 0, 0, 0, 0, 0, 0, 0, 0, 0, 0, 0, 0, 0, 0, 0, 0, 0, 0, 0, 0, 0, 0, 0, 0, 0, 0, 0, 0, 0, 0, 0, 0, 0, 0, 0, 0, 0, 0, 0, 0, 0, 0, 0, 0, 0, 0, 0, 0, 0, 0, 0, 0, 0, 0, 0, 0, 0, 0, 0, 0, 0, 0, 0, 0, 0, 0, 0, 0, 0, 0, 0, 0, 0, 0, 0, 0, 0, 0, 0, 0, 0, 0, 0, 0, 0, 0, 0, 0, 0],
  [12353, 12354, 12355, 12356, 12357, 12358, 12359, 12360, 12361, 12362, 12363, 12364, 12365, 12366, 12367, 12368, 12369, 12370, 12371, 12372, 12373, 12374, 12375, 12376, 12377, 12378, 12379, 12380, 12381, 12382, 12383, 12384, 12385, 12386, 12387, 12388, 12389, 12390, 12391, 12392, 12393, 12394, 12395, 12396, 12397, 12398, 12399, 12400, 12401, 12402, 12403, 12404, 12405, 12406, 12407, 12408, 12409, 12410, 12411, 12412, 12413, 12414, 12415, 12416, 12417, 12418, 12419, 12420, 12421, 12422, 12423, 12424, 12425, 12426, 12427, 12428, 12429, 12430, 12431, 12432, 12433, 12434, 12435, 0, 0, 0, 0, 0, 0, 0, 0, 0, 0, 0],
  [12449, 12450, 12451, 12452, 12453, 12454, 12455, 12456, 12457, 12458, 12459, 12460, 12461, 12462, 12463, 12464, 12465, 12466, 12467, 12468, 12469, 12470, 12471, 12472, 12473, 12474, 12475, 12476, 12477, 12478, 12479, 12480, 12481, 12482, 12483, 12484, 12485, 12486, 12487, 12488, 12489, 12490, 12491, 12492, 12493, 12494, 12495, 12496, 12497, 12498, 12499, 12500, 12501, 12502, 12503, 12504, 12505, 12506, 12507, 12508, 12509, 12510, 12511, 12512, 12513, 12514, 12515, 12516, 12517, 12518, 12519, 12520, 12521, 12522, 12523, 12524, 12525, 12526, 12527, 12528, 12529, 12530, 12531, 12532, 12533, 12534, 0, 0, 0, 0, 0, 0, 0, 0],
  [1040, 1041, 1042, 1043, 1044, 1045, 1025, 1046, 1047, 1048, 1049, 1050, 1051, 1052, 1053, 1054, 1055, 1056, 1057, 1058, 1059, 1060, 1061, 1062, 1063, 1064, 1065, 1066, 1067, 1068, 1069, 1070, 1071, 0, 0, 0, 0, 0, 0, 0, 0, 0, 0, 0, 0, 0, 0, 0, 1072, 1073, 1074, 1075, 1076, 1077, 1105, 1078, 1079, 1080, 1081, 1082, 1083, 1084, 1085, 1086, 1087, 1088, 1089, 1090, 1091, 1092, 1093, 1094, 1095, 1096, 1097, 1098, 1099, 1100, 1101, 1102, 1103, 0, 0, 0, 0, 0, 0, 0, 0, 0, 0, 0, 0, 0]]
/-- a row's pairs, from a place on: what isn't 0 -/
def zRow : Int → List Int → List (Int × Int)
  | _, [] => []
  | k, p :: l => if p = 0 then zRow (k + 1) l else (k, p) :: zRow (k + 1) l
def zAll : Int → List (List Int) → List (Int × Int)
  | _, [] => []
  | i, r :: rs => zRow (i * 94) r ++ zAll (i + 1) rs
def wanL : List (Int × Int) := zAll 0 wanW
set_option maxRecDepth 100000 in
theorem wan_new : prs (lv (newL [] 0 wanPs)) = wanL := by decide +kernel
set_option maxRecDepth 100000 in
theorem wan_new2 : (newL [] 0 wanPs).2 = -1 := by decide +kernel
set_option maxRecDepth 100000 in
theorem wan_rise : Rise wanL := rise_of_b (by decide +kernel)
theorem wan_made : madeL [] 0 wanPs = (wanL, -1) := by
  obtain ⟨h1, _, h2⟩ := made_ok wanPs
  rw [wan_new2] at h1
  have h3 : (madeL [] 0 wanPs).1 = wanL := rise_unique h2.1 wan_rise (by rw [← wan_new]; exact h2.2)
  exact Prod.ext h3 h1
theorem wan_len : wanL.length = 724 := by decide +kernel
end Go.Proofs.Dia
namespace Go.Proofs.Dia

/-- the sign of a row's place; 0: none -/
def wAt (i j : Nat) : Int := (wanW.getD i []).getD j 0
theorem wanW_len : wanW.length = 12 ∧ ∀ r ∈ wanW, r.length = 94 := by decide +kernel
theorem zRow_none (c : Int) : ∀ (l : List Int) (k : Int), (c < k ∨ k + l.length ≤ c) → (zRow k l).find? (fun q => q.1 == c) = none
  | [], _, _ => rfl
  | p :: l, k, h => by
    have ih := zRow_none c l (k + 1) (by simp at h; omega)
    unfold zRow
    split
    · exact ih
    · rw [List.find?_cons]
      have : (k == c) = false := by simp at h ⊢; omega
      simp only [this]
      exact ih
theorem zRow_at : ∀ (l : List Int) (k : Int) (j : Nat), (zRow k l).find? (fun q => q.1 == k + (j : Int)) = if l.getD j 0 = 0 then none else some (k + (j : Int), l.getD j 0)
  | [], k, j => by simp [zRow]
  | p :: l, k, 0 => by
    have h0 := zRow_none (k + ((0 : Nat) : Int)) l (k + 1) (by omega)
    unfold zRow
    by_cases hp : p = 0
    · rw [if_pos hp, h0]; simp [hp]
    · rw [if_neg hp, List.find?_cons]; simp [hp]
  | p :: l, k, j + 1 => by
    have ih := zRow_at l (k + 1) j
    have e : k + 1 + (j : Int) = k + ((j + 1 : Nat) : Int) := by omega
    rw [e] at ih
    have hk : (k == k + ((j + 1 : Nat) : Int)) = false := by simp; omega
    unfold zRow
    by_cases hp : p = 0
    · rw [if_pos hp, ih]; simp
    · rw [if_neg hp, List.find?_cons]
      simp only [hk]
      rw [ih]; simp
theorem zAll_none (c : Int) : ∀ (rs : List (List Int)) (i : Int), (∀ r ∈ rs, r.length = 94) → c < i * 94 → (zAll i rs).find? (fun q => q.1 == c) = none
  | [], _, _, _ => rfl
  | r :: rs, i, h, hc => by
    unfold zAll
    rw [List.find?_append, zRow_none c r (i * 94) (.inl hc), zAll_none c rs (i + 1) (fun x hx => h x (by simp [hx])) (by omega)]
    rfl
theorem zAll_at : ∀ (rs : List (List Int)) (i : Int) (m j : Nat), (∀ r ∈ rs, r.length = 94) → j < 94 →
    (zAll i rs).find? (fun q => q.1 == (i + m) * 94 + (j : Int)) = if (rs.getD m []).getD j 0 = 0 then none else some ((i + m) * 94 + (j : Int), (rs.getD m []).getD j 0)
  | [], _, _, _, _, _ => by simp [zAll]
  | r :: rs, i, 0, j, h, hj => by
    unfold zAll
    have e : (i + ((0 : Nat) : Int)) * 94 + (j : Int) = i * 94 + (j : Int) := by omega
    rw [e, List.find?_append, zRow_at]
    have h2 := zAll_none (i * 94 + (j : Int)) rs (i + 1) (fun x hx => h x (by simp [hx])) (by omega)
    rw [h2]
    simp
  | r :: rs, i, m + 1, j, h, hj => by
    unfold zAll
    have hr : r.length = 94 := h r (by simp)
    have e : (i + ((m + 1 : Nat) : Int)) * 94 + (j : Int) = (i + 1 + (m : Int)) * 94 + (j : Int) := by omega
    rw [e, List.find?_append, zRow_none _ r (i * 94) (.inr (by omega)), zAll_at rs (i + 1) m j (fun x hx => h x (by simp [hx])) hj]
    simp
theorem wan_fwd (m j : Nat) (hj : j < 94) : fwdl wanL ((m : Int) * 94 + j) = if wAt m j = 0 then (0, false) else (wAt m j, true) := by
  have h := zAll_at wanW 0 m j wanW_len.2 hj
  have e : ((0 : Int) + (m : Int)) * 94 + (j : Int) = (m : Int) * 94 + j := by omega
  rw [e] at h
  unfold fwdl wanL
  rw [h]
  show (match (if wAt m j = 0 then none else some ((m : Int) * 94 + (j : Int), wAt m j)) with | some q => (q.2, true) | none => (0, false)) = _
  by_cases hz : wAt m j = 0
  · rw [if_pos hz, if_pos hz]
  · rw [if_neg hz, if_neg hz]

/-- the first place of a sign in a row's rest, in the rows -/
def zScan (p : Int) : Nat → List Int → Option Nat
  | _, [] => none
  | j, x :: l => if x = p then some j else zScan p (j + 1) l
def zScanA (p : Int) : Nat → List (List Int) → Option Nat
  | _, [] => none
  | i, r :: rs => match zScan p 0 r with | some j => some (i * 94 + j) | none => zScanA p (i + 1) rs
theorem zScan_bd (p : Int) : ∀ (l : List Int) (n i : Nat), zScan p n l = some i → n ≤ i ∧ i < n + l.length
  | [], _, _, h => by simp [zScan] at h
  | x :: l, n, i, h => by
    unfold zScan at h
    split at h
    · simp at h; subst h; simp
    · have := zScan_bd p l (n + 1) i h
      simp; omega
theorem zRow_rev (p k : Int) (hp : p ≠ 0) : ∀ (l : List Int) (n : Nat), (zRow (k + n) l).find? (fun q => q.2 == p) = (zScan p n l).map fun (i : Nat) => (k + (i : Int), p)
  | [], _ => rfl
  | x :: l, n => by
    have ih := zRow_rev p k hp l (n + 1)
    have e : k + (n : Int) + 1 = k + ((n + 1 : Nat) : Int) := by omega
    unfold zRow zScan
    rw [e]
    by_cases hx : x = 0
    · have hne : ¬ x = p := by rw [hx]; exact fun h => hp h.symm
      rw [if_pos hx, if_neg hne, ih]
    · rw [if_neg hx, List.find?_cons]
      by_cases h : x = p
      · subst h
        rw [if_pos rfl]
        simp
      · have hb : (x == p) = false := by simpa using h
        rw [if_neg h]
        simp only [hb]
        exact ih
theorem zAll_rev (p : Int) (hp : p ≠ 0) : ∀ (rs : List (List Int)) (i : Nat), (zAll i rs).find? (fun q => q.2 == p) = (zScanA p i rs).map fun (k : Nat) => ((k : Int), p)
  | [], _ => rfl
  | r :: rs, i => by
    have ih := zAll_rev p hp rs (i + 1)
    have h := zRow_rev p ((i : Int) * 94) hp r 0
    have z : (i : Int) * 94 + ((0 : Nat) : Int) = (i : Int) * 94 := by omega
    have e : (i : Int) + 1 = ((i + 1 : Nat) : Int) := by omega
    rw [z] at h
    unfold zAll zScanA
    rw [List.find?_append, h, e, ih]
    cases zScan p 0 r with
    | none => rfl
    | some j => simp
theorem wan_rev (p : Int) (hp : p ≠ 0) : revl wanL p = match zScanA p 0 wanW with | some k => ((k : Int), true) | none => (0, false) := by
  have h := zAll_rev p hp wanW 0
  unfold revl wanL
  rw [show (0 : Int) = ((0 : Nat) : Int) from rfl, h]
  cases zScanA p 0 wanW <;> rfl
theorem zScanA_bd (p : Int) : ∀ (rs : List (List Int)) (i k : Nat), (∀ r ∈ rs, r.length = 94) → zScanA p i rs = some k → k < (i + rs.length) * 94
  | [], _, _, _, h => by simp [zScanA] at h
  | r :: rs, i, k, hr, h => by
    unfold zScanA at h
    cases hs : zScan p 0 r with
    | some j =>
      rw [hs] at h
      simp at h
      have := zScan_bd p r 0 j hs
      have h2 := hr r (by simp)
      simp only [List.length_cons]
      omega
    | none =>
      rw [hs] at h
      have := zScanA_bd p rs (i + 1) k (fun x hx => hr x (by simp [hx])) h
      simp only [List.length_cons]
      omega
/-- are they all different? by a number's bits -/
def nodupB : List Nat → Nat → Bool
  | [], _ => true
  | x :: l, acc => !acc.testBit x && nodupB l (acc ||| 2 ^ x)
theorem nodup_of_b : ∀ (l : List Nat) (acc : Nat), nodupB l acc = true → l.Nodup ∧ ∀ x ∈ l, acc.testBit x = false
  | [], _, _ => ⟨List.nodup_nil, fun _ h => by cases h⟩
  | x :: l, acc, h => by
    unfold nodupB at h
    rw [Bool.and_eq_true, Bool.not_eq_true'] at h
    obtain ⟨h1, h2⟩ := nodup_of_b l _ h.2
    have h3 : ∀ y ∈ l, acc.testBit y = false ∧ x ≠ y := fun y hy => by
      have := h2 y hy
      rw [Nat.testBit_or, Bool.or_eq_false_iff] at this
      refine ⟨this.1, fun e => ?_⟩
      subst e
      rw [Nat.testBit_two_pow_self] at this
      exact absurd this.2 (by decide)
    refine ⟨List.nodup_cons.2 ⟨fun hx => (h3 x hx).2 rfl, h1⟩, fun y hy => ?_⟩
    rcases List.mem_cons.1 hy with rfl | hy
    · exact h.1
    · exact (h3 y hy).1
set_option maxRecDepth 100000 in
theorem wanL_nodupB : nodupB (wanL.map fun q => q.2.toNat) 0 = true := by decide +kernel
theorem wanL_nodup : (wanL.map Prod.snd).Nodup := by
  have h := (nodup_of_b _ _ wanL_nodupB).1
  unfold List.Nodup at *
  rw [List.pairwise_map] at *
  exact h.imp fun {a b} hn e => hn (by rw [e])
theorem wanL_sc : ∀ q ∈ wanL, 0 < q.2 ∧ q.2 < 65536 ∧ ¬ (44032 ≤ q.2 ∧ q.2 ≤ 55203) := by decide +kernel
theorem wfwd_rev {L : List (Int × Int)} (hn : (L.map Prod.snd).Nodup) (k p : Int) (h : fwdl L k = (p, true)) : revl L p = (k, true) := by
  unfold fwdl at h
  cases hf : L.find? (fun q => q.1 == k) with
  | none => rw [hf] at h; simp at h
  | some q =>
    rw [hf] at h
    simp only [Prod.mk.injEq, and_true] at h
    have hq : q ∈ L := List.mem_of_find?_eq_some hf
    have hk : q.1 = k := by simpa using List.find?_some hf
    unfold revl
    cases hg : L.find? (fun q => q.2 == p) with
    | none =>
      have := List.find?_eq_none.1 hg q hq
      simp [h] at this
    | some r =>
      have hr : r ∈ L := List.mem_of_find?_eq_some hg
      have hp : r.2 = p := by simpa using List.find?_some hg
      obtain ⟨i, hi, ei⟩ := List.getElem_of_mem hq
      obtain ⟨j, hj, ej⟩ := List.getElem_of_mem hr
      have hij : i = j := (List.getElem_inj (h₀ := by simpa using hi) (h₁ := by simpa using hj) hn).1 (by rw [List.getElem_map, List.getElem_map, ei, ej, h, hp])
      subst hij
      have : q = r := by rw [← ei, ← ej]
      rw [← this]
      exact congrArg (fun x => (x, true)) hk
end Go.Proofs.Dia
