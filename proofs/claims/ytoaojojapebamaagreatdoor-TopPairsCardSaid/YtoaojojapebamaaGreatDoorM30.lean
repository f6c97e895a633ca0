/- wansung: counts (plain); walks of before, kth, Rank, Place, Extra; walks of wansung: kth, Place, Extra; walks of wansung: Place, Extra, Rank -/
import Derived.Test.YtoaojojapebamaaGreatDoorM18
namespace Go.Proofs
open Go.RowKit

namespace Dia
/-- how many syllables ahead of one are in the rows -/
def CI : Nat → Nat
  | 0 => 0
  | n + 1 => CI n + (if inB n then 1 else 0)
def bef : Nat → Nat
  | 0 => 0
  | g + 1 => bef g + cnt (maskN g) 28
theorem inB_group (g j : Nat) (hj : j < 28) : inB (28 * g + j) = decide (maskN g / 2 ^ j % 2 = 1) := by
  unfold inB
  have e1 : (28 * g + j) / 28 = g := by omega
  have e2 : (28 * g + j) % 28 = j := by omega
  rw [e1, e2]
theorem CI_group (g : Nat) : ∀ j, j ≤ 28 → CI (28 * g + j) = CI (28 * g) + cnt (maskN g) j
  | 0, _ => rfl
  | j + 1, h => by
    have ih := CI_group g j (by omega)
    show CI (28 * g + j) + (if inB (28 * g + j) then 1 else 0) = CI (28 * g) + (cnt (maskN g) j + maskN g / 2 ^ j % 2)
    rw [ih, inB_group g j (by omega)]
    by_cases hb : maskN g / 2 ^ j % 2 = 1
    · rw [hb]; simp; omega
    · have : maskN g / 2 ^ j % 2 = 0 := by omega
      rw [this]; simp
theorem CI_bef : ∀ g, CI (28 * g) = bef g
  | 0 => rfl
  | g + 1 => by
    have e : 28 * (g + 1) = 28 * g + 28 := by omega
    rw [e, CI_group g 28 (Nat.le_refl _), CI_bef g]
    rfl
theorem CI_le : ∀ n, CI n ≤ n
  | 0 => Nat.le_refl _
  | n + 1 => by
    have := CI_le n
    unfold CI
    split <;> omega
/-- how many ahead of one are in the rows, or aren't -/
def CB (b : Bool) (n : Nat) : Nat := if b then CI n else n - CI n
theorem CB_succ (b : Bool) (n : Nat) : CB b (n + 1) = CB b n + (if inB n = b then 1 else 0) := by
  have := CI_le n
  have e : CI (n + 1) = CI n + (if inB n then 1 else 0) := rfl
  unfold CB
  rw [e]
  cases b <;> cases inB n <;> simp <;> omega
theorem CB_mono (b : Bool) {m n : Nat} (h : m ≤ n) : CB b m ≤ CB b n := by
  obtain ⟨d, rfl⟩ := Nat.exists_eq_add_of_le h
  induction d with
  | zero => exact Nat.le_refl _
  | succ d ih =>
    rw [← Nat.add_assoc, CB_succ]
    have := ih (by omega)
    omega
theorem cnt_step (M d k : Nat) (hd : d < 16) : cnt (M * 16 + d) (4 + k) = cnt M k + cnt d 4 := by
  have e1 : (M * 16 + d) / 2 ^ 4 = M := by simp only [Nat.reducePow]; omega
  have e2 : (M * 16 + d) % 2 ^ 4 = d := by simp only [Nat.reducePow]; omega
  have h := cnt_mod (M * 16 + d) 4 4 (Nat.le_refl _)
  rw [e2] at h
  rw [cnt_add, e1, h]
  omega
def digC (c : UInt8) : Nat := cnt (dig c) 4
theorem cnt_digits (g : Nat) : ∀ k, 7 * g + k ≤ 2793 → cnt (maskK g k) (4 * k) = (((mem.drop (7 * g)).take k).map digC).sum
  | 0, _ => rfl
  | k + 1, h => by
    have ih := cnt_digits g k (by omega)
    have hl : k < (mem.drop (7 * g)).length := by rw [List.length_drop, mem_len]; omega
    have e : 4 * (k + 1) = 4 + 4 * k := by omega
    have hd : dg g k = dig (mem.drop (7 * g))[k] := by
      unfold dg
      rw [List.getElem_drop, List.getD_eq_getElem?_getD, List.getElem?_eq_getElem (by rw [mem_len]; omega)]
      rfl
    rw [e]
    show cnt (maskK g k * 16 + dg g k) (4 + 4 * k) = _
    rw [cnt_step _ _ _ (dg_lt g k (by omega)), ih, List.take_succ_eq_append_getElem hl, List.map_append, List.sum_append, hd]
    simp [digC]
theorem bef_sum : ∀ g, 7 * g ≤ 2793 → bef g = ((mem.take (7 * g)).map digC).sum
  | 0, _ => rfl
  | g + 1, h => by
    have ih := bef_sum g (by omega)
    have e : 7 * (g + 1) = 7 * g + 7 := by omega
    show bef g + cnt (maskN g) (4 * 7) = _
    unfold maskN
    rw [ih, cnt_digits g 7 (by omega), e, List.take_add, List.map_append, List.sum_append]
set_option maxRecDepth 100000 in
theorem mem_sum : (mem.map digC).sum = 2350 := by decide +kernel
theorem bef_all : bef 399 = 2350 := by
  rw [bef_sum 399 (by decide), List.take_of_length_le (by rw [mem_len]; decide), mem_sum]
theorem CI_all : CI 11172 = 2350 := by
  have := CI_bef 399
  rw [bef_all] at this
  exact this
/-- the syllable of a number -/
def KthIs (k : Nat) (b : Bool) (p : Int) : Prop := (∃ N : Nat, N < 11172 ∧ inB N = b ∧ CB b N = k ∧ p = 44032 + (N : Int)) ∨ (CB b 11172 ≤ k ∧ p = 0)
theorem KthIs.lt {k : Nat} {b : Bool} {N : Nat} (h : N < 11172) (h1 : inB N = b) (h2 : CB b N = k) : k < CB b 11172 := by
  have := CB_mono b (show N + 1 ≤ 11172 by omega)
  rw [CB_succ, if_pos h1] at this
  omega
theorem KthIs.uniq {k : Nat} {b : Bool} {p q : Int} (h1 : KthIs k b p) (h2 : KthIs k b q) : p = q := by
  rcases h1 with ⟨N, n0, n1, n2, rfl⟩ | ⟨n0, rfl⟩ <;> rcases h2 with ⟨M, m0, m1, m2, rfl⟩ | ⟨m0, rfl⟩
  · have : N = M := by
      rcases Nat.lt_trichotomy N M with h | h | h
      · have := CB_mono b (show N + 1 ≤ M by omega)
        rw [CB_succ, if_pos n1] at this
        omega
      · exact h
      · have := CB_mono b (show M + 1 ≤ N by omega)
        rw [CB_succ, if_pos m1] at this
        omega
    rw [this]
  · have := KthIs.lt n0 n1 n2; omega
  · have := KthIs.lt m0 m1 m2; omega
  · rfl
/-- the mask of those that are meant -/
def maskB (b : Bool) (g : Nat) : Nat := if b then maskN g else compl (maskN g)
theorem maskB_lt (b : Bool) (g : Nat) (h : g < 399) : maskB b g < 2 ^ 28 := by
  unfold maskB
  cases b
  · exact compl_lt _
  · exact maskN_lt g h
theorem maskB_cnt (b : Bool) (g j : Nat) (h : g < 399) (hj : j ≤ 28) : CB b (28 * g + j) = CB b (28 * g) + cnt (maskB b g) j := by
  have h1 := CI_group g j hj
  have h2 := CI_le (28 * g)
  have h3 := cnt_le (maskN g) j
  unfold CB maskB
  cases b
  · simp only [Bool.false_eq_true, if_false]
    rw [compl_cnt _ (maskN_lt g h) j hj]
    omega
  · simp only [if_true]
    exact h1
theorem maskB_bit (b : Bool) (g j : Nat) (h : g < 399) (hj : j < 28) (hb : maskB b g / 2 ^ j % 2 = 1) : inB (28 * g + j) = b := by
  rw [inB_group g j hj]
  unfold maskB at hb
  cases b
  · simp only [Bool.false_eq_true, if_false] at hb
    rw [compl_bit _ _ (maskN_lt g h) hj] at hb
    simp; omega
  · simp only [if_true] at hb
    simp [hb]
end Dia
set_option maxRecDepth 100000 in
set_option maxHeartbeats 1000000 in
theorem Tryz.c_before (g : Nat) (w : World) (hg : g < 399) :
    Calls Tryz.prog 103 #[.int .i64 g] w fun e w' => e = .returned (.int .i64 (Dia.CI (28 * g))) ∧ Below w.heap.size w w' := by
  go_enter Tryz.func103, Tryz.ntmps103
  go_wp2_with fail
  go_loopw [3, 4, 6] (fun n _ i wr => ∃ k : Nat, k ≤ g ∧ i = .int .i64 k ∧ n = .int .i64 (Dia.CI (28 * k)) ∧ Below w.heap.size w wr) (fun _ _ i _ => g - (intOf i).toNat)
  case atStart => exact ⟨0, Nat.zero_le _, rfl, rfl, Below.refl _ _⟩
  case round =>
    obtain ⟨k, hk, rfl, rfl, hb⟩ := hrel
    by_cases hlt : k < g
    · have HM := Aid.Hid2.mk (Tryz.c_mask k wr (by omega))
      have hml := Dia.maskN_lt k (by omega)
      have h28 := Dia.cnt_le (Dia.maskN k) 28
      have HO : Aid.Hid2 (∀ w1, Calls Tryz.prog 104 #[.int .u32 (Dia.maskN k)] w1 fun e w' => e = .returned (.int .i64 (Dia.cnt (Dia.maskN k) 28)) ∧ Below w1.heap.size w1 w') := ⟨fun w1 => by
        have := Tryz.c_Ones (Dia.maskN k) w1 (by omega)
        rw [Dia.cnt_all _ 28 32 hml (by decide)] at this
        exact this⟩
      have HC : Aid.Hid2 (Dia.CI (28 * (k + 1)) = Dia.CI (28 * k) + Dia.cnt (Dia.maskN k) 28) := ⟨Dia.CI_group k 28 (Nat.le_refl _)⟩
      have hle := Dia.CI_le (28 * k)
      generalize Dia.cnt (Dia.maskN k) 28 = c at *
      generalize Dia.maskN k = m at *
      generalize Dia.CI (28 * k) = n at *
      go_wp2_with fail
      refine HM.out.mono ?_
      rintro e w1 ⟨rfl, hb1⟩
      go_wp2_with fail
      refine (HO.out _).mono ?_
      rintro e w2 ⟨rfl, hb2⟩
      go_wp2
      go_roundw
      case rel => exact ⟨k + 1, by omega, by go_num, by rw [HC.out]; go_num, Aid.bt (Aid.bt hb hb1) hb2⟩
      case measure => simp [intOf]; omega
    · obtain rfl : k = g := by omega
      go_wp2
      go_ret
      exact ⟨rfl, hb⟩
end Go.Proofs
namespace Go.Proofs
open Go.RowKit

theorem Dia.KthIs.bd {k : Nat} {b : Bool} {p : Int} (h : Dia.KthIs k b p) : 0 ≤ p ∧ p ≤ 55203 := by
  rcases h with ⟨N, n0, _, _, rfl⟩ | ⟨_, rfl⟩
  · omega
  · omega
theorem Dia.compl_and (m : Nat) (h : m < 2 ^ 28) : (4294967295 ^^^ m) &&& 268435455 = Dia.compl m := by
  have e : Dia.compl m = 2 ^ 28 - (m + 1) := by unfold Dia.compl; omega
  apply Nat.eq_of_testBit_eq
  intro i
  rw [e, Nat.testBit_two_pow_sub_succ h, Nat.testBit_and, Nat.testBit_xor]
  rw [show (4294967295 : Nat) = 2 ^ 32 - 1 from rfl, show (268435455 : Nat) = 2 ^ 28 - 1 from rfl, Nat.testBit_two_pow_sub_one, Nat.testBit_two_pow_sub_one]
  by_cases hi : i < 28
  · have h2 : i < 32 := by omega
    simp [hi, h2]
  · simp [hi]
theorem Dia.xor_u32 (m : Nat) (h : m < 4294967296) : bits .xor .u32 IntKind.u32.max (m : Int) = ((4294967295 ^^^ m : Nat) : Int) := by
  have hx : 4294967295 ^^^ m < 2 ^ 32 := Nat.xor_lt_two_pow (by decide) (by omega)
  have h1 : (BitVec.ofInt 32 IntKind.u32.max).toNat = 4294967295 := by decide
  have h2 : (BitVec.ofInt 32 (m : Int)).toNat = m := by
    rw [BitVec.ofInt_natCast, BitVec.toNat_ofNat]; exact Nat.mod_eq_of_lt (by omega)
  show IntKind.u32.wrap ((BitVec.ofInt 32 IntKind.u32.max ^^^ BitVec.ofInt 32 (m : Int)).toNat : Int) = _
  rw [BitVec.toNat_xor, h1, h2, wrap_u32']
  omega
theorem Dia.compl_u32 (m : Nat) (h : m < 2 ^ 28) : bits .and .u32 (bits .xor .u32 IntKind.u32.max (m : Int)) 268435455 = ((Dia.compl m : Nat) : Int) := by
  rw [Dia.xor_u32 m (by omega)]
  have := bits_and_u32_nat (4294967295 ^^^ m) 268435455 (Nat.xor_lt_two_pow (n := 32) (by decide) (by omega)) (by decide)
  rw [Dia.compl_and m h] at this
  exact this
set_option maxRecDepth 100000 in
set_option maxHeartbeats 1000000 in
theorem Tryz.c_kth (k : Nat) (b : Bool) (w : World) (hk : k ≤ 100000) (hT : Tryz.Tab32 w) :
    Calls Tryz.prog 101 #[.int .i64 k, .bool b] w fun e w' => ∃ p : Int, Dia.KthIs k b p ∧ e = .returned (.int .i32 p) ∧ Below w.heap.size w w' := by
  have HM : Aid.Hid2 (∀ (g : Nat) (w1 : World), g < 399 → Calls Tryz.prog 102 #[.int .i64 g] w1 fun e w' => e = .returned (.int .u32 (Dia.maskN g)) ∧ Below w1.heap.size w1 w') := ⟨fun g w1 h => Tryz.c_mask g w1 h⟩
  have HO : Aid.Hid2 (∀ (m : Nat) (w1 : World), m < 2 ^ 28 → Calls Tryz.prog 104 #[.int .u32 m] w1 fun e w' => e = .returned (.int .i64 (Dia.cnt m 28)) ∧ Below w1.heap.size w1 w') := ⟨fun m w1 h => by
    have := Tryz.c_Ones m w1 (by omega)
    rw [Dia.cnt_all _ 28 32 h (by decide)] at this
    exact this⟩
  cases b with
  | false =>
    go_enter Tryz.func101, Tryz.ntmps101
    go_wp2_with fail
    go_loopw [0, 5, 6, 7, 8] (fun vk _ _ _ vg wr => ∃ (g j : Nat), g ≤ 399 ∧ j ≤ k ∧ vg = .int .i64 g ∧ vk = .int .i64 j ∧ Aid.Hid2 (j + Dia.CB false (28 * g) = k) ∧ Below w.heap.size w wr)
      (fun _ _ _ _ vg _ => 399 - (intOf vg).toNat)
    case atStart => exact ⟨0, k, by omega, Nat.le_refl _, rfl, rfl, ⟨rfl⟩, Below.refl _ _⟩
    case round =>
      obtain ⟨g, j, hg, hj, rfl, rfl, HJ, hb⟩ := hrel
      by_cases hlt : g < 399
      · have hml := Dia.maskB_lt false g hlt
        have h28 := Dia.cnt_le (Dia.maskB false g) 28
        have HM1 := Aid.Hid2.mk (HM.out g wr hlt)
        have HO1 : Aid.Hid2 (∀ w1, _) := ⟨fun w1 => HO.out (Dia.maskB false g) w1 hml⟩
        have HCB : Aid.Hid2 (Dia.CB false (28 * (g + 1)) = Dia.CB false (28 * g) + Dia.cnt (Dia.maskB false g) 28) := ⟨Dia.maskB_cnt false g 28 hlt (Nat.le_refl _)⟩
        have HN : Aid.Hid2 (∀ w1, Below w.heap.size w w1 → j < Dia.cnt (Dia.maskB false g) 28 → Calls Tryz.prog 122 #[.int .u32 (Dia.maskB false g), .int .i64 j] w1 fun e w' => e = .returned (.int .i64 (Lib.ctz 32 (Dia.clrK (Dia.maskB false g) j))) ∧ w1 = w') := ⟨fun w1 hb h => Tryz.c_wnth _ j w1 hml h (hT.below hb)⟩
        have HK : Aid.Hid2 (j < Dia.cnt (Dia.maskB false g) 28 → Lib.ctz 32 (Dia.clrK (Dia.maskB false g) j) < 28 ∧ Dia.KthIs k false (44032 + (g : Int) * 28 + (Lib.ctz 32 (Dia.clrK (Dia.maskB false g) j) : Nat))) := ⟨fun h => by
          obtain ⟨_, _, g2, g3, g4⟩ := Dia.nth_bit j _ hml h
          refine ⟨g2, .inl ⟨28 * g + Lib.ctz 32 (Dia.clrK (Dia.maskB false g) j), by omega, Dia.maskB_bit false g _ hlt g2 g3, ?_, by omega⟩⟩
          rw [Dia.maskB_cnt false g _ hlt (by omega), g4]
          have := HJ.out
          omega⟩
        generalize Lib.ctz 32 (Dia.clrK (Dia.maskB false g) j) = z at *
        generalize Dia.cnt (Dia.maskB false g) 28 = c at *
        have e1 := Dia.compl_u32 (Dia.maskN g) (Dia.maskN_lt g hlt)
        have e0 : Dia.compl (Dia.maskN g) = Dia.maskB false g := rfl
        rw [e0] at e1
        clear e0
        generalize Dia.maskB false g = m at *
        generalize Dia.maskN g = m0 at *
        by_cases hjc : j < c
        · obtain ⟨z28, hk2⟩ := HK.out hjc
          have HKK := Aid.Hid2.mk hk2
          have HNN := Aid.Hid2.mk (fun w1 hb => HN.out w1 hb hjc)
          clear hk2 HK HN
          go_wp2_with fail
          refine HM1.out.mono ?_
          rintro e w1 ⟨rfl, hb1⟩
          go_wp2_with fail
          refine (HO1.out _).mono ?_
          rintro e w2 ⟨rfl, hb2⟩
          go_wp2_with fail
          refine (HNN.out _ (Aid.bt (Aid.bt hb hb1) hb2)).mono ?_
          rintro e w3 ⟨rfl, rfl⟩
          go_wp2
          go_ret
          exact ⟨_, HKK.out, by go_num, Aid.bt (Aid.bt hb hb1) hb2⟩
        · have HJ2 : Aid.Hid2 (j - c + Dia.CB false (28 * (g + 1)) = k) := ⟨by rw [HCB.out]; have := HJ.out; omega⟩
          clear HK HN HJ HCB
          go_wp2_with fail
          refine HM1.out.mono ?_
          rintro e w1 ⟨rfl, hb1⟩
          go_wp2_with fail
          refine (HO1.out _).mono ?_
          rintro e w2 ⟨rfl, hb2⟩
          go_wp2
          go_roundw
          case rel => exact ⟨g + 1, j - c, by omega, by omega, by go_num, by go_num, HJ2, Aid.bt (Aid.bt hb hb1) hb2⟩
          case measure => simp [intOf]; omega
      · obtain rfl : g = 399 := by omega
        have HP : Aid.Hid2 (Dia.KthIs k false 0) := ⟨.inr ⟨by have h := HJ.out; rw [show 28 * 399 = 11172 from rfl] at h; omega, rfl⟩⟩
        clear HJ
        go_wp2
        go_ret
        exact ⟨0, HP.out, rfl, hb⟩
  | true =>
    go_enter Tryz.func101, Tryz.ntmps101
    go_wp2_with fail
    go_loopw [0, 5, 6, 7, 8] (fun vk _ _ _ vg wr => ∃ (g j : Nat), g ≤ 399 ∧ j ≤ k ∧ vg = .int .i64 g ∧ vk = .int .i64 j ∧ Aid.Hid2 (j + Dia.CB true (28 * g) = k) ∧ Below w.heap.size w wr)
      (fun _ _ _ _ vg _ => 399 - (intOf vg).toNat)
    case atStart => exact ⟨0, k, by omega, Nat.le_refl _, rfl, rfl, ⟨rfl⟩, Below.refl _ _⟩
    case round =>
      obtain ⟨g, j, hg, hj, rfl, rfl, HJ, hb⟩ := hrel
      by_cases hlt : g < 399
      · have hml := Dia.maskB_lt true g hlt
        have h28 := Dia.cnt_le (Dia.maskB true g) 28
        have HM1 := Aid.Hid2.mk (HM.out g wr hlt)
        have HO1 : Aid.Hid2 (∀ w1, _) := ⟨fun w1 => HO.out (Dia.maskB true g) w1 hml⟩
        have HCB : Aid.Hid2 (Dia.CB true (28 * (g + 1)) = Dia.CB true (28 * g) + Dia.cnt (Dia.maskB true g) 28) := ⟨Dia.maskB_cnt true g 28 hlt (Nat.le_refl _)⟩
        have HN : Aid.Hid2 (∀ w1, Below w.heap.size w w1 → j < Dia.cnt (Dia.maskB true g) 28 → Calls Tryz.prog 122 #[.int .u32 (Dia.maskB true g), .int .i64 j] w1 fun e w' => e = .returned (.int .i64 (Lib.ctz 32 (Dia.clrK (Dia.maskB true g) j))) ∧ w1 = w') := ⟨fun w1 hb h => Tryz.c_wnth _ j w1 hml h (hT.below hb)⟩
        have HK : Aid.Hid2 (j < Dia.cnt (Dia.maskB true g) 28 → Lib.ctz 32 (Dia.clrK (Dia.maskB true g) j) < 28 ∧ Dia.KthIs k true (44032 + (g : Int) * 28 + (Lib.ctz 32 (Dia.clrK (Dia.maskB true g) j) : Nat))) := ⟨fun h => by
          obtain ⟨_, _, g2, g3, g4⟩ := Dia.nth_bit j _ hml h
          refine ⟨g2, .inl ⟨28 * g + Lib.ctz 32 (Dia.clrK (Dia.maskB true g) j), by omega, Dia.maskB_bit true g _ hlt g2 g3, ?_, by omega⟩⟩
          rw [Dia.maskB_cnt true g _ hlt (by omega), g4]
          have := HJ.out
          omega⟩
        generalize Lib.ctz 32 (Dia.clrK (Dia.maskB true g) j) = z at *
        generalize Dia.cnt (Dia.maskB true g) 28 = c at *
        rw [show Dia.maskN g = Dia.maskB true g from rfl] at HM1
        generalize Dia.maskB true g = m at *
        by_cases hjc : j < c
        · obtain ⟨z28, hk2⟩ := HK.out hjc
          have HKK := Aid.Hid2.mk hk2
          have HNN := Aid.Hid2.mk (fun w1 hb => HN.out w1 hb hjc)
          clear hk2 HK HN
          go_wp2_with fail
          refine HM1.out.mono ?_
          rintro e w1 ⟨rfl, hb1⟩
          go_wp2_with fail
          refine (HO1.out _).mono ?_
          rintro e w2 ⟨rfl, hb2⟩
          go_wp2_with fail
          refine (HNN.out _ (Aid.bt (Aid.bt hb hb1) hb2)).mono ?_
          rintro e w3 ⟨rfl, rfl⟩
          go_wp2
          go_ret
          exact ⟨_, HKK.out, by go_num, Aid.bt (Aid.bt hb hb1) hb2⟩
        · have HJ2 : Aid.Hid2 (j - c + Dia.CB true (28 * (g + 1)) = k) := ⟨by rw [HCB.out]; have := HJ.out; omega⟩
          clear HK HN HJ HCB
          go_wp2_with fail
          refine HM1.out.mono ?_
          rintro e w1 ⟨rfl, hb1⟩
          go_wp2_with fail
          refine (HO1.out _).mono ?_
          rintro e w2 ⟨rfl, hb2⟩
          go_wp2
          go_roundw
          case rel => exact ⟨g + 1, j - c, by omega, by omega, by go_num, by go_num, HJ2, Aid.bt (Aid.bt hb hb1) hb2⟩
          case measure => simp [intOf]; omega
      · obtain rfl : g = 399 := by omega
        have HP : Aid.Hid2 (Dia.KthIs k true 0) := ⟨.inr ⟨by have h := HJ.out; rw [show 28 * 399 = 11172 from rfl] at h; omega, rfl⟩⟩
        clear HJ
        go_wp2
        go_ret
        exact ⟨0, HP.out, rfl, hb⟩
end Go.Proofs
namespace Go.Proofs
open Go.RowKit

/-- what Place and Extra hand back -/
def Dia.PlaceIs (k : Int) (b : Bool) (p : Int) (ok : Bool) : Prop := if 0 ≤ k ∧ k < (if b then 2350 else 8822) then ok = true ∧ Dia.KthIs k.toNat b p else ok = false ∧ p = 0
def Dia.IsPlace (k : Int) (b : Bool) (w w' : World) (e : Ending) : Prop := ∃ (p : Int) (ok : Bool), Dia.PlaceIs k b p ok ∧ e = .returned (.tuple #[.int .i32 p, .bool ok]) ∧ Below w.heap.size w w'
set_option maxRecDepth 100000 in
theorem Tryz.c_Place (k : Int) (w : World) (hk : -9223372036854775808 ≤ k ∧ k ≤ 9223372036854775807) (hT : Tryz.Tab32 w) :
    Calls Tryz.prog 78 #[.int .i64 k] w fun e w' => Dia.IsPlace k true w w' e := by
  obtain ⟨hk0, hk1⟩ := hk
  by_cases h0 : k < 0
  · have HP : Aid.Hid2 (Dia.PlaceIs k true 0 false) := ⟨by unfold Dia.PlaceIs; rw [if_neg (by omega)]; exact ⟨rfl, rfl⟩⟩
    have d0 : decide (k < 0) = true := decide_eq_true h0
    go_enter Tryz.func78, Tryz.ntmps78
    go_wp2
    go_ret2
    exact ⟨0, false, HP.out, rfl, Below.refl _ _⟩
  · have d0 : decide (k < 0) = false := decide_eq_false h0
    by_cases h1 : 2350 ≤ k
    · have HP : Aid.Hid2 (Dia.PlaceIs k true 0 false) := ⟨by unfold Dia.PlaceIs; rw [if_neg (by simp; omega)]; exact ⟨rfl, rfl⟩⟩
      have d1 : decide (2350 ≤ k) = true := decide_eq_true h1
      go_enter Tryz.func78, Tryz.ntmps78
      go_wp2
      go_ret2
      exact ⟨0, false, HP.out, rfl, Below.refl _ _⟩
    · have d1 : decide (2350 ≤ k) = false := decide_eq_false h1
      obtain ⟨n, rfl⟩ := Int.eq_ofNat_of_zero_le (show 0 ≤ k by omega)
      have HP : Aid.Hid2 (∀ p, Dia.KthIs n true p → Dia.PlaceIs (n : Int) true p true) := ⟨fun p h => by unfold Dia.PlaceIs; rw [if_pos (by simp; omega)]; exact ⟨rfl, h⟩⟩
      have HK := Aid.Hid2.mk (Tryz.c_kth n true w (by omega) hT)
      go_enter Tryz.func78, Tryz.ntmps78
      go_wp2_with fail
      refine HK.out.mono ?_
      rintro e w1 ⟨p, hp, rfl, hb1⟩
      have HP2 := Aid.Hid2.mk (HP.out p hp)
      clear hp HP
      go_wp2
      go_ret2
      exact ⟨p, true, HP2.out, rfl, hb1⟩
set_option maxRecDepth 100000 in
theorem Tryz.c_Extra (k : Int) (w : World) (hk : -9223372036854775808 ≤ k ∧ k ≤ 9223372036854775807) (hT : Tryz.Tab32 w) :
    Calls Tryz.prog 77 #[.int .i64 k] w fun e w' => Dia.IsPlace k false w w' e := by
  obtain ⟨hk0, hk1⟩ := hk
  by_cases h0 : k < 0
  · have HP : Aid.Hid2 (Dia.PlaceIs k false 0 false) := ⟨by unfold Dia.PlaceIs; rw [if_neg (by omega)]; exact ⟨rfl, rfl⟩⟩
    have d0 : decide (k < 0) = true := decide_eq_true h0
    go_enter Tryz.func77, Tryz.ntmps77
    go_wp2
    go_ret2
    exact ⟨0, false, HP.out, rfl, Below.refl _ _⟩
  · have d0 : decide (k < 0) = false := decide_eq_false h0
    by_cases h1 : 8822 ≤ k
    · have HP : Aid.Hid2 (Dia.PlaceIs k false 0 false) := ⟨by unfold Dia.PlaceIs; rw [if_neg (by simp; omega)]; exact ⟨rfl, rfl⟩⟩
      have d1 : decide (8822 ≤ k) = true := decide_eq_true h1
      go_enter Tryz.func77, Tryz.ntmps77
      go_wp2
      go_ret2
      exact ⟨0, false, HP.out, rfl, Below.refl _ _⟩
    · have d1 : decide (8822 ≤ k) = false := decide_eq_false h1
      obtain ⟨n, rfl⟩ := Int.eq_ofNat_of_zero_le (show 0 ≤ k by omega)
      have HP : Aid.Hid2 (∀ p, Dia.KthIs n false p → Dia.PlaceIs (n : Int) false p true) := ⟨fun p h => by unfold Dia.PlaceIs; rw [if_pos (by simp; omega)]; exact ⟨rfl, h⟩⟩
      have HK := Aid.Hid2.mk (Tryz.c_kth n false w (by omega) hT)
      go_enter Tryz.func77, Tryz.ntmps77
      go_wp2_with fail
      refine HK.out.mono ?_
      rintro e w1 ⟨p, hp, rfl, hb1⟩
      have HP2 := Aid.Hid2.mk (HP.out p hp)
      clear hp HP
      go_wp2
      go_ret2
      exact ⟨p, true, HP2.out, rfl, hb1⟩
set_option maxRecDepth 100000 in
theorem Tryz.c_Rank_no (p : Int) (w : World) (h : p < 44032 ∨ 55204 ≤ p) :
    Calls Tryz.prog 79 #[.int .i32 p] w fun e w' => e = .returned (.tuple #[.int .i64 0, .bool false, .bool false]) ∧ Below w.heap.size w w' := by
  by_cases h0 : p < 44032
  · have d0 : decide (p < 44032) = true := decide_eq_true h0
    clear h
    go_enter Tryz.func79, Tryz.ntmps79
    go_wp2
    exact bodyPost_ret (v := .tuple #[.int .i64 0, .bool false, .bool false]) (by simp [results, Tryz.results79, go_sem]) rfl ⟨rfl, Below.refl _ _⟩
  · have d0 : decide (p < 44032) = false := decide_eq_false h0
    have d1 : decide (55204 ≤ p) = true := decide_eq_true (by omega)
    clear h
    go_enter Tryz.func79, Tryz.ntmps79
    go_wp2
    exact bodyPost_ret (v := .tuple #[.int .i64 0, .bool false, .bool false]) (by simp [results, Tryz.results79, go_sem]) rfl ⟨rfl, Below.refl _ _⟩
theorem Dia.low_bits (m j : Nat) (hj : j < 28) (hm : m < 2 ^ 28) : bits .and .u32 (m : Int) (IntKind.u32.wrap (IntKind.u32.wrap (2 ^ j) - 1)) = ((m % 2 ^ j : Nat) : Int) := by
  have hp : 2 ^ j < 2 ^ 28 := (Nat.pow_lt_pow_iff_right (by decide : 1 < 2)).2 hj
  have h1 : 0 < 2 ^ j := Nat.two_pow_pos _
  have e : ((2 : Int) ^ j) = ((2 ^ j : Nat) : Int) := by simp
  rw [e, IntKind.wrap_u32, IntKind.wrap_u32]
  have e2 : (((2 ^ j : Nat) : Int) % 4294967296 - 1) % 4294967296 = ((2 ^ j - 1 : Nat) : Int) := by omega
  rw [e2, bits_and_u32_nat m (2 ^ j - 1) (by omega) (by omega), Nat.and_two_pow_sub_one_eq_mod]
theorem Dia.one_bit (m j : Nat) (hm : m < 2 ^ 28) : bits .and .u32 ((m : Int) / 2 ^ j) 1 = ((m / 2 ^ j % 2 : Nat) : Int) := by
  have h : m / 2 ^ j ≤ m := Nat.div_le_self _ _
  have e : ((m : Int) / 2 ^ j) = ((m / 2 ^ j : Nat) : Int) := by simp
  have h2 := bits_and_u32_nat (m / 2 ^ j) 1 (by omega) (by decide)
  rw [show (1 : Nat) = 2 ^ 1 - 1 from rfl, Nat.and_two_pow_sub_one_eq_mod] at h2
  rw [e]
  exact h2
set_option maxRecDepth 100000 in
set_option maxHeartbeats 1000000 in
theorem Tryz.c_Rank_yes (s : Nat) (w : World) (hs : s < 11172) :
    Calls Tryz.prog 79 #[.int .i32 (44032 + (s : Int))] w fun e w' => e = .returned (.tuple #[.int .i64 (Dia.CB (Dia.inB s) s), .bool (Dia.inB s), .bool true]) ∧ Below w.heap.size w w' := by
  have hml := Dia.maskN_lt (s / 28) (by omega)
  have HM : Aid.Hid2 (∀ w1, Calls Tryz.prog 102 #[.int .i64 ((s : Int) / 28)] w1 fun e w' => e = .returned (.int .u32 (Dia.maskN (s / 28))) ∧ Below w1.heap.size w1 w') := ⟨fun w1 => Tryz.c_mask (s / 28) w1 (by omega)⟩
  have HBF : Aid.Hid2 (∀ w1, Calls Tryz.prog 103 #[.int .i64 ((s : Int) / 28)] w1 fun e w' => e = .returned (.int .i64 (Dia.CI (28 * (s / 28)))) ∧ Below w1.heap.size w1 w') := ⟨fun w1 => Tryz.c_before (s / 28) w1 (by omega)⟩
  have HO : Aid.Hid2 (∀ w1, Calls Tryz.prog 104 #[.int .u32 (Dia.maskN (s / 28) % 2 ^ (s % 28) : Nat)] w1 fun e w' => e = .returned (.int .i64 (Dia.cnt (Dia.maskN (s / 28)) (s % 28))) ∧ Below w1.heap.size w1 w') := ⟨fun w1 => by
    have := Tryz.c_Ones (Dia.maskN (s / 28) % 2 ^ (s % 28)) w1 (Nat.lt_of_le_of_lt (Nat.mod_le _ _) (by omega))
    rw [Dia.cnt_below _ _ (by omega)] at this
    exact this⟩
  have HCI : Aid.Hid2 (Dia.CI s = Dia.CI (28 * (s / 28)) + Dia.cnt (Dia.maskN (s / 28)) (s % 28)) := ⟨by
    have := Dia.CI_group (s / 28) (s % 28) (by omega)
    rw [← this]
    congr 1; omega⟩
  have hle := Dia.CI_le (28 * (s / 28))
  have hle2 := Dia.CI_le s
  have hcl := Dia.cnt_le (Dia.maskN (s / 28)) (s % 28)
  have kb := Dia.low_bits (Dia.maskN (s / 28)) (s % 28) (by omega) hml
  have e0 : 44032 + (s : Int) - 44032 = s := by omega
  have d0 : decide (44032 + (s : Int) < 44032) = false := decide_eq_false (by omega)
  have d1 : decide (55204 ≤ 44032 + (s : Int)) = false := decide_eq_false (by omega)
  have hr0 : Dia.maskN (s / 28) % 2 ^ (s % 28) ≤ Dia.maskN (s / 28) := Nat.mod_le _ _
  have kc := Dia.one_bit (Dia.maskN (s / 28)) (s % 28) hml
  have HIN : Aid.Hid2 (Dia.inB s = decide (Dia.maskN (s / 28) / 2 ^ (s % 28) % 2 = 1)) := ⟨rfl⟩
  generalize Dia.cnt (Dia.maskN (s / 28)) (s % 28) = c at *
  by_cases hbit : Dia.maskN (s / 28) / 2 ^ (s % 28) % 2 = 1
  · have hin : Dia.inB s = true := by rw [HIN.out, hbit]; rfl
    have HV : Aid.Hid2 (Dia.CB (Dia.inB s) s = Dia.CI (28 * (s / 28)) + c ∧ Dia.inB s = true) := ⟨by rw [hin, ← HCI.out]; exact ⟨rfl, rfl⟩⟩
    rw [hbit] at kc
    clear hbit hin HIN HCI
    generalize Dia.maskN (s / 28) % 2 ^ (s % 28) = r at *
    rw [show s % 28 = ((s : Int) % 28).toNat by omega] at kb
    generalize Dia.maskN (s / 28) = m at *
    generalize Dia.CI (28 * (s / 28)) = n at *
    have kc' : (bits .and .u32 ((m : Int) / 2 ^ (s % 28)) 1 == 1) = true := by rw [kc]; rfl
    clear kc
    go_enter Tryz.func79, Tryz.ntmps79
    go_wp2_with fail
    refine (HM.out _).mono ?_
    rintro e w1 ⟨rfl, hb1⟩
    go_wp2_with fail
    go_region_with (first
      | (go_at_call 103; (with_reducible refine (HBF.out _).mono ?_); rintro e w2 ⟨rfl, hb2⟩)
      | (go_at_call 104; (with_reducible refine (HO.out _).mono ?_); rintro e w3 ⟨rfl, hb3⟩))
    all_goals
      clear kb e0 d0 d1
      go_wp2
      refine bodyPost_ret (v := .tuple #[.int .i64 ((n : Int) + c), .bool true, .bool true]) (by simp [results, Tryz.results79, go_sem]) rfl ⟨?_, ?_⟩
      · rw [HV.out.1, HV.out.2]; rfl
      · first | exact Aid.bt (Aid.bt hb1 hb2) hb3 | exact Aid.bt (Aid.bt (hb1.drew) hb2) hb3 | exact Aid.bt (Aid.bt hb1 hb3) hb2 | exact Aid.bt (Aid.bt (hb1.drew) hb3) hb2
  · have hin : Dia.inB s = false := by rw [HIN.out]; exact decide_eq_false hbit
    have hz : Dia.maskN (s / 28) / 2 ^ (s % 28) % 2 = 0 := by omega
    have HV : Aid.Hid2 (((Dia.CB (Dia.inB s) s : Nat) : Int) = (s : Int) - (Dia.CI (28 * (s / 28)) + c) ∧ Dia.inB s = false) := ⟨by rw [hin]; refine ⟨?_, rfl⟩; have h1 := HCI.out; show ((s - Dia.CI s : Nat) : Int) = _; omega⟩
    rw [hz] at kc
    clear hbit hin HIN HCI hz
    generalize Dia.maskN (s / 28) % 2 ^ (s % 28) = r at *
    rw [show s % 28 = ((s : Int) % 28).toNat by omega] at kb
    generalize Dia.maskN (s / 28) = m at *
    generalize Dia.CI (28 * (s / 28)) = n at *
    have kc' : (bits .and .u32 ((m : Int) / 2 ^ (s % 28)) 1 == 1) = false := by rw [kc]; rfl
    clear kc
    go_enter Tryz.func79, Tryz.ntmps79
    go_wp2_with fail
    refine (HM.out _).mono ?_
    rintro e w1 ⟨rfl, hb1⟩
    go_wp2_with fail
    go_region_with (first
      | (go_at_call 103; (with_reducible refine (HBF.out _).mono ?_); rintro e w2 ⟨rfl, hb2⟩)
      | (go_at_call 104; (with_reducible refine (HO.out _).mono ?_); rintro e w3 ⟨rfl, hb3⟩))
    all_goals
      clear kb e0 d0 d1
      go_wp2
      refine bodyPost_ret (v := .tuple #[.int .i64 ((s : Int) - ((n : Int) + c)), .bool false, .bool true]) (by simp [results, Tryz.results79, go_sem]) rfl ⟨?_, ?_⟩
      · rw [HV.out.1, HV.out.2]
      · first | exact Aid.bt (Aid.bt hb1 hb2) hb3 | exact Aid.bt (Aid.bt (hb1.drew) hb2) hb3 | exact Aid.bt (Aid.bt hb1 hb3) hb2 | exact Aid.bt (Aid.bt (hb1.drew) hb3) hb2
end Go.Proofs
