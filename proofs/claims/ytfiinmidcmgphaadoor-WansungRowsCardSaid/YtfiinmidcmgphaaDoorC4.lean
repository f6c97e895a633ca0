/- wansung: counts (plain); walks of before, kth, Rank, Place, Extra -/
import Derived.Test.YtfiinmidcmgphaaDoorC3
namespace Go.Proofs
open Go.RowKit

namespace Dia
/-- how many syllables ahead of one are in the rows -/
def CI : Nat → Nat
  | 0 => 0
  | n + 1 => CI n + (if inB n then 1 else 0)
def bef : Nat → Nat
  | 0 => 0
  | g + 1 => bef g + cnt (maskN g) 28
theorem inB_group (g j : Nat) (hj : j < 28) : inB (28 * g + j) = decide (maskN g / 2 ^ j % 2 = 1) := by
  unfold inB
  have e1 : (28 * g + j) / 28 = g := by omega
  have e2 : (28 * g + j) % 28 = j := by omega
  rw [e1, e2]
theorem CI_group (g : Nat) : ∀ j, j ≤ 28 → CI (28 * g + j) = CI (28 * g) + cnt (maskN g) j
  | 0, _ => rfl
  | j + 1, h => by
    have ih := CI_group g j (by omega)
    show CI (28 * g + j) + (if inB (28 * g + j) then 1 else 0) = CI (28 * g) + (cnt (maskN g) j + maskN g / 2 ^ j % 2)
    rw [ih, inB_group g j (by omega)]
    by_cases hb : maskN g / 2 ^ j % 2 = 1
    · rw [hb]; simp; omega
    · have : maskN g / 2 ^ j % 2 = 0 := by omega
      rw [this]; simp
theorem CI_bef : ∀ g, CI (28 * g) = bef g
  | 0 => rfl
  | g + 1 => by
    have e : 28 * (g + 1) = 28 * g + 28 := by omega
    rw [e, CI_group g 28 (Nat.le_refl _), CI_bef g]
    rfl
theorem CI_le : ∀ n, CI n ≤ n
  | 0 => Nat.le_refl _
  | n + 1 => by
    have := CI_le n
    unfold CI
    split <;> omega
/-- how many ahead of one are in the rows, or aren't -/
def CB (b : Bool) (n : Nat) : Nat := if b then CI n else n - CI n
theorem CB_succ (b : Bool) (n : Nat) : CB b (n + 1) = CB b n + (if inB n = b then 1 else 0) := by
  have := CI_le n
  have e : CI (n + 1) = CI n + (if inB n then 1 else 0) := rfl
  unfold CB
  rw [e]
  cases b <;> cases inB n <;> simp <;> omega
theorem CB_mono (b : Bool) {m n : Nat} (h : m ≤ n) : CB b m ≤ CB b n := by
  obtain ⟨d, rfl⟩ := Nat.exists_eq_add_of_le h
  induction d with
  | zero => exact Nat.le_refl _
  | succ d ih =>
    rw [← Nat.add_assoc, CB_succ]
    have := ih (by omega)
    omega
theorem cnt_step (M d k : Nat) (hd : d < 16) : cnt (M * 16 + d) (4 + k) = cnt M k + cnt d 4 := by
  have e1 : (M * 16 + d) / 2 ^ 4 = M := by simp only [Nat.reducePow]; omega
  have e2 : (M * 16 + d) % 2 ^ 4 = d := by simp only [Nat.reducePow]; omega
  have h := cnt_mod (M * 16 + d) 4 4 (Nat.le_refl _)
  rw [e2] at h
  rw [cnt_add, e1, h]
  omega
def digC (c : UInt8) : Nat := cnt (dig c) 4
theorem cnt_digits (g : Nat) : ∀ k, 7 * g + k ≤ 2793 → cnt (maskK g k) (4 * k) = (((mem.drop (7 * g)).take k).map digC).sum
  | 0, _ => rfl
  | k + 1, h => by
    have ih := cnt_digits g k (by omega)
    have hl : k < (mem.drop (7 * g)).length := by rw [List.length_drop, mem_len]; omega
    have e : 4 * (k + 1) = 4 + 4 * k := by omega
    have hd : dg g k = dig (mem.drop (7 * g))[k] := by
      unfold dg
      rw [List.getElem_drop, List.getD_eq_getElem?_getD, List.getElem?_eq_getElem (by rw [mem_len]; omega)]
      rfl
    rw [e]
    show cnt (maskK g k * 16 + dg g k) (4 + 4 * k) = _
    rw [cnt_step _ _ _ (dg_lt g k (by omega)), ih, List.take_succ_eq_append_getElem hl, List.map_append, List.sum_append, hd]
    simp [digC]
theorem bef_sum : ∀ g, 7 * g ≤ 2793 → bef g = ((mem.take (7 * g)).map digC).sum
  | 0, _ => rfl
  | g + 1, h => by
    have ih := bef_sum g (by omega)
    have e : 7 * (g + 1) = 7 * g + 7 := by omega
    show bef g + cnt (maskN g) (4 * 7) = _
    unfold maskN
    rw [ih, cnt_digits g 7 (by omega), e, List.take_add, List.map_append, List.sum_append]
set_option maxRecDepth 100000 in
theorem mem_sum : (mem.map digC).sum = 2350 := by decide +kernel
theorem bef_all : bef 399 = 2350 := by
  rw [bef_sum 399 (by decide), List.take_of_length_le (by rw [mem_len]; decide), mem_sum]
theorem CI_all : CI 11172 = 2350 := by
  have := CI_bef 399
  rw [bef_all] at this
  exact this
/-- the syllable of a number -/
def KthIs (k : Nat) (b : Bool) (p : Int) : Prop := (∃ N : Nat, N < 11172 ∧ inB N = b ∧ CB b N = k ∧ p = 44032 + (N : Int)) ∨ (CB b 11172 ≤ k ∧ p = 0)
theorem KthIs.lt {k : Nat} {b : Bool} {N : Nat} (h : N < 11172) (h1 : inB N = b) (h2 : CB b N = k) : k < CB b 11172 := by
  have := CB_mono b (show N + 1 ≤ 11172 by omega)
  rw [CB_succ, if_pos h1] at this
  omega
theorem KthIs.uniq {k : Nat} {b : Bool} {p q : Int} (h1 : KthIs k b p) (h2 : KthIs k b q) : p = q := by
  rcases h1 with ⟨N, n0, n1, n2, rfl⟩ | ⟨n0, rfl⟩ <;> rcases h2 with ⟨M, m0, m1, m2, rfl⟩ | ⟨m0, rfl⟩
  · have : N = M := by
      rcases Nat.lt_trichotomy N M with h | h | h
      · have := CB_mono b (show N + 1 ≤ M by omega)
        rw [CB_succ, if_pos n1] at this
        omega
      · exact h
      · have := CB_mono b (show M + 1 ≤ N by omega)
        rw [CB_succ, if_pos m1] at this
        omega
    rw [this]
  · have := KthIs.lt n0 n1 n2; omega
  · have := KthIs.lt m0 m1 m2; omega
  · rfl
/-- the mask of those that are meant -/
def maskB (b : Bool) (g : Nat) : Nat := if b then maskN g else compl (maskN g)
theorem maskB_lt (b : Bool) (g : Nat) (h : g < 399) : maskB b g < 2 ^ 28 := by
  unfold maskB
  cases b
  · exact compl_lt _
  · exact maskN_lt g h
theorem maskB_cnt (b : Bool) (g j : Nat) (h : g < 399) (hj : j ≤ 28) : CB b (28 * g + j) = CB b (28 * g) + cnt (maskB b g) j := by
  have h1 := CI_group g j hj
  have h2 := CI_le (28 * g)
  have h3 := cnt_le (maskN g) j
  unfold CB maskB
  cases b
  · simp only [Bool.false_eq_true, if_false]
    rw [compl_cnt _ (maskN_lt g h) j hj]
    omega
  · simp only [if_true]
    exact h1
theorem maskB_bit (b : Bool) (g j : Nat) (h : g < 399) (hj : j < 28) (hb : maskB b g / 2 ^ j % 2 = 1) : inB (28 * g + j) = b := by
  rw [inB_group g j hj]
  unfold maskB at hb
  cases b
  · simp only [Bool.false_eq_true, if_false] at hb
    rw [compl_bit _ _ (maskN_lt g h) hj] at hb
    simp; omega
  · simp only [if_true] at hb
    simp [hb]
end Dia
set_option maxRecDepth 100000 in
set_option maxHeartbeats 1000000 in
theorem Tryd.c_before (g : Nat) (w : World) (hg : g < 399) :
    Calls Tryd.prog 22 #[.int .i64 g] w fun e w' => e = .returned (.int .i64 (Dia.CI (28 * g))) ∧ Below w.heap.size w w' := by
  go_enter Tryd.func22, Tryd.ntmps22
  go_wp2_with fail
  go_loopw [3, 4, 6] (fun n _ i wr => ∃ k : Nat, k ≤ g ∧ i = .int .i64 k ∧ n = .int .i64 (Dia.CI (28 * k)) ∧ Below w.heap.size w wr) (fun _ _ i _ => g - (intOf i).toNat)
  case atStart => exact ⟨0, Nat.zero_le _, rfl, rfl, Below.refl _ _⟩
  case round =>
    obtain ⟨k, hk, rfl, rfl, hb⟩ := hrel
    by_cases hlt : k < g
    · have HM := Aid.Hid2.mk (Tryd.c_mask k wr (by omega))
      have hml := Dia.maskN_lt k (by omega)
      have h28 := Dia.cnt_le (Dia.maskN k) 28
      have HO : Aid.Hid2 (∀ w1, Calls Tryd.prog 23 #[.int .u32 (Dia.maskN k)] w1 fun e w' => e = .returned (.int .i64 (Dia.cnt (Dia.maskN k) 28)) ∧ Below w1.heap.size w1 w') := ⟨fun w1 => by
        have := Tryd.c_Ones (Dia.maskN k) w1 (by omega)
        rw [Dia.cnt_all _ 28 32 hml (by decide)] at this
        exact this⟩
      have HC : Aid.Hid2 (Dia.CI (28 * (k + 1)) = Dia.CI (28 * k) + Dia.cnt (Dia.maskN k) 28) := ⟨Dia.CI_group k 28 (Nat.le_refl _)⟩
      have hle := Dia.CI_le (28 * k)
      generalize Dia.cnt (Dia.maskN k) 28 = c at *
      generalize Dia.maskN k = m at *
      generalize Dia.CI (28 * k) = n at *
      go_wp2_with fail
      refine HM.out.mono ?_
      rintro e w1 ⟨rfl, hb1⟩
      go_wp2_with fail
      refine (HO.out _).mono ?_
      rintro e w2 ⟨rfl, hb2⟩
      go_wp2
      go_roundw
      case rel => exact ⟨k + 1, by omega, by go_num, by rw [HC.out]; go_num, Aid.bt (Aid.bt hb hb1) hb2⟩
      case measure => simp [intOf]; omega
    · obtain rfl : k = g := by omega
      go_wp2
      go_ret
      exact ⟨rfl, hb⟩
end Go.Proofs
