/- PLAIN: single's tables, as closed lists (printed by gsin.py); PLAIN: single, decoding and encoding -/
import Derived.Test.YtoaojojapebamaaGreatDoorM07
import Derived.Test.YtoaojojapebamaaGreatDoorM16
namespace Go.Proofs.Dia

def sinR : List UInt8 := [226, 148, 128, 226, 148, 130, 226, 148, 140, 226, 148, 144, 226, 148, 148, 226, 148, 152, 226, 148, 156, 226, 148, 164, 226, 148, 172, 226, 148, 180, 226, 148, 188, 226, 150, 128, 226, 150, 132, 226, 150, 136, 226, 150, 140, 226, 150, 144, 226, 150, 145, 226, 150, 146, 226, 150, 147, 226, 140, 160, 226, 150, 160, 226, 136, 153, 226, 136, 154, 226, 137, 136, 226, 137, 164, 226, 137, 165, 194, 160, 226, 140, 161, 194, 176, 194, 178, 194, 183, 195, 183, 226, 149, 144, 226, 149, 145, 226, 149, 146, 209, 145, 226, 149, 147, 226, 149, 148, 226, 149, 149, 226, 149, 150, 226, 149, 151, 226, 149, 152, 226, 149, 153, 226, 149, 154, 226, 149, 155, 226, 149, 156, 226, 149, 157, 226, 149, 158, 226, 149, 159, 226, 149, 160, 226, 149, 161, 208, 129, 226, 149, 162, 226, 149, 163, 226, 149, 164, 226, 149, 165, 226, 149, 166, 226, 149, 167, 226, 149, 168, 226, 149, 169, 226, 149, 170, 226, 149, 171, 226, 149, 172, 194, 169, 209, 142, 208, 176, 208, 177, 209, 134, 208, 180, 208, 181, 209, 132, 208, 179, 209, 133, 208, 184, 208, 185, 208, 186, 208, 187, 208, 188, 208, 189, 208, 190, 208, 191, 209, 143, 209, 128, 209, 129, 209, 130, 209, 131, 208, 182, 208, 178, 209, 140, 209, 139, 208, 183, 209, 136, 209, 141, 209, 137, 209, 135, 209, 138, 208, 174, 208, 144, 208, 145, 208, 166, 208, 148, 208, 149, 208, 164, 208, 147, 208, 165, 208, 152, 208, 153, 208, 154, 208, 155, 208, 156, 208, 157, 208, 158, 208, 159, 208, 175, 208, 160, 208, 161, 208, 162, 208, 163, 208, 150, 208, 146, 208, 172, 208, 171, 208, 151, 208, 168, 208, 173, 208, 169, 208, 167, 208, 170]
def sinRS : List Int := [9472, 9474, 9484, 9488, 9492, 9496, 9500, 9508, 9516, 9524, 9532, 9600, 9604, 9608, 9612, 9616, 9617, 9618, 9619, 8992, 9632, 8729, 8730, 8776, 8804, 8805, 160, 8993, 176, 178, 183, 247, 9552, 9553, 9554, 1105, 9555, 9556, 9557, 9558, 9559, 9560, 9561, 9562, 9563, 9564, 9565, 9566, 9567, 9568, 9569, 1025, 9570, 9571, 9572, 9573, 9574, 9575, 9576, 9577, 9578, 9579, 9580, 169, 1102, 1072, 1073, 1094, 1076, 1077, 1092, 1075, 1093, 1080, 1081, 1082, 1083, 1084, 1085, 1086, 1087, 1103, 1088, 1089, 1090, 1091, 1078, 1074, 1100, 1099, 1079, 1096, 1101, 1097, 1095, 1098, 1070, 1040, 1041, 1062, 1044, 1045, 1060, 1043, 1061, 1048, 1049, 1050, 1051, 1052, 1053, 1054, 1055, 1071, 1056, 1057, 1058, 1059, 1046, 1042, 1068, 1067, 1047, 1064, 1069, 1065, 1063, 1066]
set_option maxRecDepth 100000 in
theorem sinR_pts : pts sinR = (sinRS, -1) := by decide +kernel
def sinF : List UInt8 := [226, 150, 145, 226, 150, 146, 226, 150, 147, 226, 148, 130, 226, 148, 164, 226, 149, 161, 226, 149, 162, 226, 149, 150, 226, 149, 149, 226, 149, 163, 226, 149, 145, 226, 149, 151, 226, 149, 157, 226, 149, 156, 226, 149, 155, 226, 148, 144, 226, 148, 148, 226, 148, 180, 226, 148, 172, 226, 148, 156, 226, 148, 128, 226, 148, 188, 226, 149, 158, 226, 149, 159, 226, 149, 154, 226, 149, 148, 226, 149, 169, 226, 149, 166, 226, 149, 160, 226, 149, 144, 226, 149, 172, 226, 149, 167, 226, 149, 168, 226, 149, 164, 226, 149, 165, 226, 149, 153, 226, 149, 152, 226, 149, 146, 226, 149, 147, 226, 149, 171, 226, 149, 170, 226, 148, 152, 226, 148, 140, 226, 150, 136, 226, 150, 132, 226, 150, 140, 226, 150, 144, 226, 150, 128]
def sinFS : List Int := [9617, 9618, 9619, 9474, 9508, 9569, 9570, 9558, 9557, 9571, 9553, 9559, 9565, 9564, 9563, 9488, 9492, 9524, 9516, 9500, 9472, 9532, 9566, 9567, 9562, 9556, 9577, 9574, 9568, 9552, 9580, 9575, 9576, 9572, 9573, 9561, 9560, 9554, 9555, 9579, 9578, 9496, 9484, 9608, 9604, 9612, 9616, 9600]
set_option maxRecDepth 100000 in
theorem sinF_pts : pts sinF = (sinFS, -1) := by decide +kernel
def sinO : List UInt8 := [208, 129, 209, 145, 208, 132, 209, 148, 208, 135, 209, 151, 208, 142, 209, 158, 194, 176, 226, 136, 153, 194, 183, 226, 136, 154, 226, 132, 150, 194, 164, 226, 150, 160, 194, 160]
def sinOS : List Int := [1025, 1105, 1028, 1108, 1031, 1111, 1038, 1118, 176, 8729, 183, 8730, 8470, 164, 9632, 160]
set_option maxRecDepth 100000 in
theorem sinO_pts : pts sinO = (sinOS, -1) := by decide +kernel
def sinP0 : List Piece := [⟨0, 0, 256, []⟩]
def sinP1 : List Piece := [⟨0, 0, 128, []⟩, ⟨128, 0, 0, sinR⟩]
def sinPU : List Piece := [⟨164, 0, 0, [209, 148]⟩, ⟨166, 0, 0, [209, 150, 209, 151]⟩, ⟨173, 0, 0, [210, 145]⟩, ⟨180, 0, 0, [208, 132]⟩, ⟨182, 0, 0, [208, 134, 208, 135]⟩, ⟨189, 0, 0, [210, 144]⟩]
def sinP3 : List Piece := [⟨0, 0, 128, []⟩, ⟨128, 1040, 48, []⟩, ⟨176, 0, 0, sinF⟩, ⟨224, 1088, 16, []⟩, ⟨240, 0, 0, sinO⟩]
def sinS0 : List Int := [0, 1, 2, 3, 4, 5, 6, 7, 8, 9, 10, 11, 12, 13, 14, 15, 16, 17, 18, 19, 20, 21, 22, 23, 24, 25, 26, 27, 28, 29, 30, 31, 32, 33, 34, 35, 36, 37, 38, 39, 40, 41, 42, 43, 44, 45, 46, 47, 48, 49, 50, 51, 52, 53, 54, 55, 56, 57, 58, 59, 60, 61, 62, 63, 64, 65, 66, 67, 68, 69, 70, 71, 72, 73, 74, 75, 76, 77, 78, 79, 80, 81, 82, 83, 84, 85, 86, 87, 88, 89, 90, 91, 92, 93, 94, 95, 96, 97, 98, 99, 100, 101, 102, 103, 104, 105, 106, 107, 108, 109, 110, 111, 112, 113, 114, 115, 116, 117, 118, 119, 120, 121, 122, 123, 124, 125, 126, 127, 128, 129, 130, 131, 132, 133, 134, 135, 136, 137, 138, 139, 140, 141, 142, 143, 144, 145, 146, 147, 148, 149, 150, 151, 152, 153, 154, 155, 156, 157, 158, 159, 160, 161, 162, 163, 164, 165, 166, 167, 168, 169, 170, 171, 172, 173, 174, 175, 176, 177, 178, 179, 180, 181, 182, 183, 184, 185, 186, 187, 188, 189, 190, 191, 192, 193, 194, 195, 196, 197, 198, 199, 200, 201, 202, 203, 204, 205, 206, 207, 208, 209, 210, 211, 212, 213, 214, 215, 216, 217, 218, 219, 220, 221, 222, 223, 224, 225, 226, 227, 228, 229, 230, 231, 232, 233, 234, 235, 236, 237, 238, 239, 240, 241, 242, 243, 244, 245, 246, 247, 248, 249, 250, 251, 252, 253, 254, 255]
def sinS1 : List Int := [0, 1, 2, 3, 4, 5, 6, 7, 8, 9, 10, 11, 12, 13, 14, 15, 16, 17, 18, 19, 20, 21, 22, 23, 24, 25, 26, 27, 28, 29, 30, 31, 32, 33, 34, 35, 36, 37, 38, 39, 40, 41, 42, 43, 44, 45, 46, 47, 48, 49, 50, 51, 52, 53, 54, 55, 56, 57, 58, 59, 60, 61, 62, 63, 64, 65, 66, 67, 68, 69, 70, 71, 72, 73, 74, 75, 76, 77, 78, 79, 80, 81, 82, 83, 84, 85, 86, 87, 88, 89, 90, 91, 92, 93, 94, 95, 96, 97, 98, 99, 100, 101, 102, 103, 104, 105, 106, 107, 108, 109, 110, 111, 112, 113, 114, 115, 116, 117, 118, 119, 120, 121, 122, 123, 124, 125, 126, 127, 9472, 9474, 9484, 9488, 9492, 9496, 9500, 9508, 9516, 9524, 9532, 9600, 9604, 9608, 9612, 9616, 9617, 9618, 9619, 8992, 9632, 8729, 8730, 8776, 8804, 8805, 160, 8993, 176, 178, 183, 247, 9552, 9553, 9554, 1105, 9555, 9556, 9557, 9558, 9559, 9560, 9561, 9562, 9563, 9564, 9565, 9566, 9567, 9568, 9569, 1025, 9570, 9571, 9572, 9573, 9574, 9575, 9576, 9577, 9578, 9579, 9580, 169, 1102, 1072, 1073, 1094, 1076, 1077, 1092, 1075, 1093, 1080, 1081, 1082, 1083, 1084, 1085, 1086, 1087, 1103, 1088, 1089, 1090, 1091, 1078, 1074, 1100, 1099, 1079, 1096, 1101, 1097, 1095, 1098, 1070, 1040, 1041, 1062, 1044, 1045, 1060, 1043, 1061, 1048, 1049, 1050, 1051, 1052, 1053, 1054, 1055, 1071, 1056, 1057, 1058, 1059, 1046, 1042, 1068, 1067, 1047, 1064, 1069, 1065, 1063, 1066]
def sinS2 : List Int := [0, 1, 2, 3, 4, 5, 6, 7, 8, 9, 10, 11, 12, 13, 14, 15, 16, 17, 18, 19, 20, 21, 22, 23, 24, 25, 26, 27, 28, 29, 30, 31, 32, 33, 34, 35, 36, 37, 38, 39, 40, 41, 42, 43, 44, 45, 46, 47, 48, 49, 50, 51, 52, 53, 54, 55, 56, 57, 58, 59, 60, 61, 62, 63, 64, 65, 66, 67, 68, 69, 70, 71, 72, 73, 74, 75, 76, 77, 78, 79, 80, 81, 82, 83, 84, 85, 86, 87, 88, 89, 90, 91, 92, 93, 94, 95, 96, 97, 98, 99, 100, 101, 102, 103, 104, 105, 106, 107, 108, 109, 110, 111, 112, 113, 114, 115, 116, 117, 118, 119, 120, 121, 122, 123, 124, 125, 126, 127, 9472, 9474, 9484, 9488, 9492, 9496, 9500, 9508, 9516, 9524, 9532, 9600, 9604, 9608, 9612, 9616, 9617, 9618, 9619, 8992, 9632, 8729, 8730, 8776, 8804, 8805, 160, 8993, 176, 178, 183, 247, 9552, 9553, 9554, 1105, 1108, 9556, 1110, 1111, 9559, 9560, 9561, 9562, 9563, 1169, 9565, 9566, 9567, 9568, 9569, 1025, 1028, 9571, 1030, 1031, 9574, 9575, 9576, 9577, 9578, 1168, 9580, 169, 1102, 1072, 1073, 1094, 1076, 1077, 1092, 1075, 1093, 1080, 1081, 1082, 1083, 1084, 1085, 1086, 1087, 1103, 1088, 1089, 1090, 1091, 1078, 1074, 1100, 1099, 1079, 1096, 1101, 1097, 1095, 1098, 1070, 1040, 1041, 1062, 1044, 1045, 1060, 1043, 1061, 1048, 1049, 1050, 1051, 1052, 1053, 1054, 1055, 1071, 1056, 1057, 1058, 1059, 1046, 1042, 1068, 1067, 1047, 1064, 1069, 1065, 1063, 1066]
def sinS3 : List Int := [0, 1, 2, 3, 4, 5, 6, 7, 8, 9, 10, 11, 12, 13, 14, 15, 16, 17, 18, 19, 20, 21, 22, 23, 24, 25, 26, 27, 28, 29, 30, 31, 32, 33, 34, 35, 36, 37, 38, 39, 40, 41, 42, 43, 44, 45, 46, 47, 48, 49, 50, 51, 52, 53, 54, 55, 56, 57, 58, 59, 60, 61, 62, 63, 64, 65, 66, 67, 68, 69, 70, 71, 72, 73, 74, 75, 76, 77, 78, 79, 80, 81, 82, 83, 84, 85, 86, 87, 88, 89, 90, 91, 92, 93, 94, 95, 96, 97, 98, 99, 100, 101, 102, 103, 104, 105, 106, 107, 108, 109, 110, 111, 112, 113, 114, 115, 116, 117, 118, 119, 120, 121, 122, 123, 124, 125, 126, 127, 1040, 1041, 1042, 1043, 1044, 1045, 1046, 1047, 1048, 1049, 1050, 1051, 1052, 1053, 1054, 1055, 1056, 1057, 1058, 1059, 1060, 1061, 1062, 1063, 1064, 1065, 1066, 1067, 1068, 1069, 1070, 1071, 1072, 1073, 1074, 1075, 1076, 1077, 1078, 1079, 1080, 1081, 1082, 1083, 1084, 1085, 1086, 1087, 9617, 9618, 9619, 9474, 9508, 9569, 9570, 9558, 9557, 9571, 9553, 9559, 9565, 9564, 9563, 9488, 9492, 9524, 9516, 9500, 9472, 9532, 9566, 9567, 9562, 9556, 9577, 9574, 9568, 9552, 9580, 9575, 9576, 9572, 9573, 9561, 9560, 9554, 9555, 9579, 9578, 9496, 9484, 9608, 9604, 9612, 9616, 9600, 1088, 1089, 1090, 1091, 1092, 1093, 1094, 1095, 1096, 1097, 1098, 1099, 1100, 1101, 1102, 1103, 1025, 1105, 1028, 1108, 1031, 1111, 1038, 1118, 176, 8729, 183, 8730, 8470, 164, 9632, 160]
/-- the signs of a charset's 256 bytes -/
def sinS (c : Int) : List Int := if c = 0 then sinS0 else if c = 1 then sinS1 else if c = 2 then sinS2 else if c = 3 then sinS3 else []
/-- signs from a code on, as pairs -/
def pairsF : Int → List Int → List (Int × Int)
  | _, [] => []
  | k, p :: l => (k, p) :: pairsF (k + 1) l
def sinL (c : Int) : List (Int × Int) := pairsF 0 (sinS c)
def sinLU : List (Int × Int) := [(164, 1108), (166, 1110), (167, 1111), (173, 1169), (180, 1028), (182, 1030), (183, 1031), (189, 1168)]
def riseb : List (Int × Int) → Bool
  | [] => true
  | [_] => true
  | a :: b :: l => decide (a.1 < b.1) && riseb (b :: l)
theorem rise_of_b : ∀ {l : List (Int × Int)}, riseb l = true → Rise l
  | [], _ => List.Pairwise.nil
  | [_], _ => List.pairwise_singleton _ _
  | a :: b :: l, h => by
    unfold riseb at h
    rw [Bool.and_eq_true, decide_eq_true_eq] at h
    have h2 := rise_of_b h.2
    refine List.Pairwise.cons ?_ h2
    intro c hc
    rcases List.mem_cons.1 hc with rfl | hc
    · exact h.1
    · exact Int.lt_trans h.1 (List.rel_of_pairwise_cons h2 hc)
theorem made_of (ps : List Piece) (l : List (Int × Int)) (h1 : prs (lv (newL [] 0 ps)) = l) (h2 : (newL [] 0 ps).2 = -1) (h3 : riseb l = true) : madeL [] 0 ps = (l, -1) := by
  obtain ⟨g1, _, g2⟩ := made_ok ps
  rw [h2] at g1
  have h4 : (madeL [] 0 ps).1 = l := rise_unique g2.1 (rise_of_b h3) (by rw [← h1]; exact g2.2)
  exact Prod.ext h4 g1
set_option maxRecDepth 100000 in
theorem sin_made0 : madeL [] 0 sinP0 = (sinL 0, -1) := made_of _ _ (by decide +kernel) (by decide +kernel) (by decide +kernel)
set_option maxRecDepth 100000 in
theorem sin_made1 : madeL [] 0 sinP1 = (sinL 1, -1) := made_of _ _ (by decide +kernel) (by decide +kernel) (by decide +kernel)
set_option maxRecDepth 100000 in
theorem sin_madeU : madeL [] 0 sinPU = (sinLU, -1) := made_of _ _ (by decide +kernel) (by decide +kernel) (by decide +kernel)
set_option maxRecDepth 100000 in
theorem sin_made3 : madeL [] 0 sinP3 = (sinL 3, -1) := made_of _ _ (by decide +kernel) (by decide +kernel) (by decide +kernel)
set_option maxRecDepth 100000 in
theorem sin_over : rover sinLU (sinL 1) = sinL 2 := by decide +kernel
theorem sinS_len (c : Int) (h : 0 ≤ c ∧ c ≤ 3) : (sinS c).length = 256 := by
  have : c = 0 ∨ c = 1 ∨ c = 2 ∨ c = 3 := by omega
  rcases this with rfl | rfl | rfl | rfl <;> decide +kernel
theorem pairsF_len : ∀ (l : List Int) (k : Int), (pairsF k l).length = l.length
  | [], _ => rfl
  | p :: l, k => by unfold pairsF; rw [List.length_cons, List.length_cons, pairsF_len l]
theorem pairsF_get : ∀ (l : List Int) (k : Int) (n : Nat), (pairsF k l)[n]? = (l[n]?).map fun p => (k + (n : Int), p)
  | [], _, _ => rfl
  | p :: l, k, 0 => by simp [pairsF]
  | p :: l, k, n + 1 => by
    unfold pairsF
    rw [List.getElem?_cons_succ, List.getElem?_cons_succ, pairsF_get l (k + 1) n]
    congr 1
    funext q
    congr 1
    omega
theorem sinS_sc (c : Int) : ∀ p ∈ sinS c, sc p = true ∧ 0 ≤ p := by
  have h0 : ∀ p ∈ sinS0, sc p = true ∧ 0 ≤ p := by decide +kernel
  have h1 : ∀ p ∈ sinS1, sc p = true ∧ 0 ≤ p := by decide +kernel
  have h2 : ∀ p ∈ sinS2, sc p = true ∧ 0 ≤ p := by decide +kernel
  have h3 : ∀ p ∈ sinS3, sc p = true ∧ 0 ≤ p := by decide +kernel
  unfold sinS
  repeat' split
  all_goals first | assumption | simp
end Go.Proofs.Dia
namespace Go.Proofs.Dia
theorem fwd_pairs : ∀ (l : List Int) (k : Int) (n : Nat), n < l.length → fwdl (pairsF k l) (k + (n : Int)) = (l.getD n 0, true)
  | p :: l, k, 0, _ => by simp [pairsF, fwdl]
  | p :: l, k, n + 1, h => by
    have ih := fwd_pairs l (k + 1) n (by simpa using h)
    have e : k + 1 + (n : Int) = k + ((n + 1 : Nat) : Int) := by omega
    rw [e] at ih
    have hne : ((k, p).1 == k + ((n + 1 : Nat) : Int)) = false := by simp; omega
    unfold fwdl at ih ⊢
    rw [pairsF, List.find?_cons]
    simp only [hne]
    rw [ih]
    simp
def idxB (l : List Int) (p : Int) : Int := match l.findIdx? (fun q => q == p) with | some n => (n : Int) | none => -1
theorem rev_pairs : ∀ (l : List Int) (k : Int) (p : Int), revl (pairsF k l) p = if 0 ≤ idxB l p then (k + idxB l p, true) else (0, false)
  | [], _, _ => by simp [pairsF, revl, idxB]
  | q :: l, k, p => by
    have ih := rev_pairs l (k + 1) p
    unfold revl at ih ⊢
    unfold idxB at ih ⊢
    rw [pairsF, List.find?_cons, List.findIdx?_cons]
    by_cases h : q = p
    · subst h
      simp
    · have hne : (q == p) = false := by simpa using h
      simp only [hne]
      rw [ih]
      cases hx : l.findIdx? (fun q => q == p) with
      | none => simp
      | some n =>
        have e1 : (0 : Int) ≤ (n : Int) := by omega
        have e2 : (0 : Int) ≤ ((n + 1 : Nat) : Int) := by omega
        simp only [Option.map_some]
        rw [if_pos e1]
        show _ = if (0 : Int) ≤ ((n + 1 : Nat) : Int) then (k + ((n + 1 : Nat) : Int), true) else (0, false)
        rw [if_pos e2]
        congr 1
        omega
theorem idxB_lt (l : List Int) (p : Int) : idxB l p < l.length ∨ idxB l p = -1 := by
  unfold idxB
  cases hx : l.findIdx? (fun q => q == p) with
  | none => exact .inr rfl
  | some n =>
    rw [List.findIdx?_eq_some_iff_getElem] at hx
    obtain ⟨h, _⟩ := hx
    left
    show (n : Int) < _
    omega
theorem idxB_get {l : List Int} {p : Int} (h : 0 ≤ idxB l p) : l.getD (idxB l p).toNat 0 = p := by
  unfold idxB at h ⊢
  cases hx : l.findIdx? (fun q => q == p) with
  | none => rw [hx] at h; simp at h
  | some n =>
    rw [List.findIdx?_eq_some_iff_getElem] at hx
    obtain ⟨h1, h2, _⟩ := hx
    show l.getD (n : Int).toNat 0 = p
    rw [Int.toNat_natCast, List.getD_eq_getElem?_getD, List.getElem?_eq_getElem h1]
    simpa using h2
theorem idxB_nodup {l : List Int} (hnd : l.Nodup) {n : Nat} (hn : n < l.length) : idxB l (l.getD n 0) = n := by
  have e : l.getD n 0 = l[n] := by rw [List.getD_eq_getElem?_getD, List.getElem?_eq_getElem hn]; rfl
  rw [e]
  unfold idxB
  have hx : l.findIdx? (fun q => q == l[n]) = some n := by
    rw [List.findIdx?_eq_some_iff_getElem]
    refine ⟨hn, by simp, fun j hj => ?_⟩
    intro hc
    have h2 : l[j] = l[n] := by simpa using hc
    have := (List.getElem_inj hnd).1 h2
    omega
  rw [hx]
def sinB (c p : Int) : Int := idxB (sinS c) p
def sinAt (c : Int) (b : UInt8) : Int := (sinS c).getD b.toNat 0
theorem sin_fwd {c : Int} (h : 0 ≤ c ∧ c ≤ 3) (b : UInt8) : fwdl (sinL c) b.toNat = (sinAt c b, true) := by
  have h1 := fwd_pairs (sinS c) 0 b.toNat (by rw [sinS_len c h]; exact b.toNat_lt)
  rw [Int.zero_add] at h1
  exact h1
theorem sin_rev (c p : Int) : revl (sinL c) p = if 0 ≤ sinB c p then (sinB c p, true) else (0, false) := by
  have h1 := rev_pairs (sinS c) 0 p
  rw [Int.zero_add] at h1
  exact h1
theorem sinB_lt {c : Int} (h : 0 ≤ c ∧ c ≤ 3) (p : Int) : -1 ≤ sinB c p ∧ sinB c p < 256 := by
  have := idxB_lt (sinS c) p
  rw [sinS_len c h] at this
  unfold sinB
  have h2 : -1 ≤ idxB (sinS c) p := by unfold idxB; split <;> omega
  omega
def nodupL : List Int → Bool
  | [] => true
  | p :: l => l.all (fun q => q != p) && nodupL l
theorem nodup_of_L : ∀ {l : List Int}, nodupL l = true → l.Nodup
  | [], _ => List.nodup_nil
  | p :: l, h => by
    unfold nodupL at h
    rw [Bool.and_eq_true, List.all_eq_true] at h
    rw [List.nodup_cons]
    refine ⟨fun hm => ?_, nodup_of_L h.2⟩
    have := h.1 p hm
    simp at this
set_option maxRecDepth 100000 in
theorem sinS_nodup {c : Int} (h : 0 ≤ c ∧ c ≤ 3) : (sinS c).Nodup := by
  have : c = 0 ∨ c = 1 ∨ c = 2 ∨ c = 3 := by omega
  rcases this with rfl | rfl | rfl | rfl <;> exact nodup_of_L (by decide +kernel)
theorem sinAt_sc (c : Int) (h : 0 ≤ c ∧ c ≤ 3) (b : UInt8) : sc (sinAt c b) = true := by
  have hn : b.toNat < (sinS c).length := by rw [sinS_len c h]; exact b.toNat_lt
  refine (sinS_sc c _ ?_).1
  unfold sinAt
  rw [List.getD_eq_getElem?_getD, List.getElem?_eq_getElem hn]
  exact List.getElem_mem hn
theorem sinB_at {c : Int} (h : 0 ≤ c ∧ c ≤ 3) (b : UInt8) : sinB c (sinAt c b) = b.toNat :=
  idxB_nodup (sinS_nodup h) (by rw [sinS_len c h]; exact b.toNat_lt)
theorem sinAt_B {c p : Int} (h : 0 ≤ c ∧ c ≤ 3) (hp : 0 ≤ sinB c p) : sinAt c (sinB c p).toNat.toUInt8 = p := by
  have h1 := sinB_lt h p
  unfold sinAt
  rw [u8 _ (by omega)]
  exact idxB_get hp
/-- the signs of bytes -/
def sinD (c : Int) (b : List UInt8) : List Int := b.map (sinAt c)
theorem sinD_sc (c : Int) (h : 0 ≤ c ∧ c ≤ 3) (b : List UInt8) : ∀ p ∈ sinD c b, sc p = true := by
  intro p hp
  obtain ⟨x, _, rfl⟩ := List.mem_map.1 hp
  exact sinAt_sc c h x
/-- the bytes of signs (by what each sign's byte is); the place in the text of the first that has none -/
def encO (B : Int → Int) (l : List Int) : List UInt8 × Int :=
  if l.all (fun p => decide (0 ≤ B p)) then (l.map (fun p => (B p).toNat.toUInt8), -1) else ([], ((encs (l.takeWhile (fun p => decide (0 ≤ B p)))).length : Int))
theorem encO_ok {B : Int → Int} {l : List Int} (h : ∀ p ∈ l, 0 ≤ B p) : encO B l = (l.map (fun p => (B p).toNat.toUInt8), -1) := by
  unfold encO
  rw [if_pos (List.all_eq_true.2 fun p hp => decide_eq_true (h p hp))]
theorem takeWhile_at {α : Type} (f : α → Bool) : ∀ (l : List α) (k : Nat) (hk : k < l.length), (∀ p ∈ l.take k, f p = true) → f l[k] = false → l.takeWhile f = l.take k
  | p :: l, 0, _, _, h => by
    have h' : f p = false := h
    rw [List.takeWhile_cons]
    simp [h']
  | p :: l, k + 1, hk, h0, h => by
    have hp : f p = true := h0 p (by simp)
    have ih := takeWhile_at f l k (by simpa using hk) (fun q hq => h0 q (by simp [hq])) (by simpa using h)
    rw [List.takeWhile_cons]
    simp [hp, ih]
theorem encO_bad {B : Int → Int} {l : List Int} {k : Nat} (hk : k < l.length) (h0 : ∀ p ∈ l.take k, 0 ≤ B p) (h : ¬ 0 ≤ B l[k]) : encO B l = ([], ((encs (l.take k)).length : Int)) := by
  unfold encO
  rw [if_neg (by
    intro hc
    rw [List.all_eq_true] at hc
    exact h (of_decide_eq_true (hc _ (List.getElem_mem hk)))), takeWhile_at _ l k hk (fun p hp => decide_eq_true (h0 p hp)) (decide_eq_false h)]
theorem sin_back {c : Int} (h : 0 ≤ c ∧ c ≤ 3) (b : List UInt8) : encO (sinB c) (sinD c b) = (b, -1) := by
  rw [encO_ok (fun p hp => by
    obtain ⟨x, _, rfl⟩ := List.mem_map.1 hp
    rw [sinB_at h]; omega)]
  unfold sinD
  rw [List.map_map]
  congr 1
  conv => rhs; rw [← List.map_id b]
  refine List.map_congr_left fun x _ => ?_
  show (sinB c (sinAt c x)).toNat.toUInt8 = x
  rw [sinB_at h]
  simp
theorem sin_forth {c : Int} (h : 0 ≤ c ∧ c ≤ 3) {l : List Int} {b : List UInt8} (he : encO (sinB c) l = (b, -1)) : sinD c b = l := by
  by_cases hall : ∀ p ∈ l, 0 ≤ sinB c p
  · rw [encO_ok hall] at he
    have e := congrArg Prod.fst he
    simp only at e
    rw [← e]
    unfold sinD
    rw [List.map_map]
    conv => rhs; rw [← List.map_id l]
    refine List.map_congr_left fun p hp => ?_
    exact sinAt_B h (hall p hp)
  · exfalso
    unfold encO at he
    rw [if_neg (by
      intro hc
      exact hall fun p hp => of_decide_eq_true (List.all_eq_true.1 hc p hp))] at he
    have := congrArg Prod.snd he
    simp only at this
    omega
theorem encO_len (B : Int → Int) (l : List Int) : (encO B l).1.length ≤ l.length := by
  unfold encO
  split <;> simp
theorem sinD_len (c : Int) (b : List UInt8) : (sinD c b).length = b.length := by simp [sinD]
theorem sinD_app (c : Int) (a b : List UInt8) : sinD c (a ++ b) = sinD c a ++ sinD c b := by simp [sinD]
theorem sinD_take (c : Int) (b : List UInt8) (k : Nat) (h : k < b.length) : sinD c (b.take (k + 1)) = sinD c (b.take k) ++ [sinAt c b[k]] := by
  rw [take_snoc b k h, sinD_app]
  rfl
end Go.Proofs.Dia
