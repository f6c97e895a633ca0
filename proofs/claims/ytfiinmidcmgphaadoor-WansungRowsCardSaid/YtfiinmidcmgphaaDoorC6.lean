/- walks of wansung: Place, Extra, Rank -/
import Derived.Test.YtfiinmidcmgphaaDoorC5
namespace Go.Proofs
open Go.RowKit

/-- what Place and Extra hand back -/
def Dia.PlaceIs (k : Int) (b : Bool) (p : Int) (ok : Bool) : Prop := if 0 ≤ k ∧ k < (if b then 2350 else 8822) then ok = true ∧ Dia.KthIs k.toNat b p else ok = false ∧ p = 0
def Dia.IsPlace (k : Int) (b : Bool) (w w' : World) (e : Ending) : Prop := ∃ (p : Int) (ok : Bool), Dia.PlaceIs k b p ok ∧ e = .returned (.tuple #[.int .i32 p, .bool ok]) ∧ Below w.heap.size w w'
set_option maxRecDepth 100000 in
theorem Tryd.c_Place (k : Int) (w : World) (hk : -9223372036854775808 ≤ k ∧ k ≤ 9223372036854775807) (hT : Tryd.Tab32 w) :
    Calls Tryd.prog 12 #[.int .i64 k] w fun e w' => Dia.IsPlace k true w w' e := by
  obtain ⟨hk0, hk1⟩ := hk
  by_cases h0 : k < 0
  · have HP : Aid.Hid2 (Dia.PlaceIs k true 0 false) := ⟨by unfold Dia.PlaceIs; rw [if_neg (by omega)]; exact ⟨rfl, rfl⟩⟩
    have d0 : decide (k < 0) = true := decide_eq_true h0
    go_enter Tryd.func12, Tryd.ntmps12
    go_wp2
    go_ret2
    exact ⟨0, false, HP.out, rfl, Below.refl _ _⟩
  · have d0 : decide (k < 0) = false := decide_eq_false h0
    by_cases h1 : 2350 ≤ k
    · have HP : Aid.Hid2 (Dia.PlaceIs k true 0 false) := ⟨by unfold Dia.PlaceIs; rw [if_neg (by simp; omega)]; exact ⟨rfl, rfl⟩⟩
      have d1 : decide (2350 ≤ k) = true := decide_eq_true h1
      go_enter Tryd.func12, Tryd.ntmps12
      go_wp2
      go_ret2
      exact ⟨0, false, HP.out, rfl, Below.refl _ _⟩
    · have d1 : decide (2350 ≤ k) = false := decide_eq_false h1
      obtain ⟨n, rfl⟩ := Int.eq_ofNat_of_zero_le (show 0 ≤ k by omega)
      have HP : Aid.Hid2 (∀ p, Dia.KthIs n true p → Dia.PlaceIs (n : Int) true p true) := ⟨fun p h => by unfold Dia.PlaceIs; rw [if_pos (by simp; omega)]; exact ⟨rfl, h⟩⟩
      have HK := Aid.Hid2.mk (Tryd.c_kth n true w (by omega) hT)
      go_enter Tryd.func12, Tryd.ntmps12
      go_wp2_with fail
      refine HK.out.mono ?_
      rintro e w1 ⟨p, hp, rfl, hb1⟩
      have HP2 := Aid.Hid2.mk (HP.out p hp)
      clear hp HP
      go_wp2
      go_ret2
      exact ⟨p, true, HP2.out, rfl, hb1⟩
set_option maxRecDepth 100000 in
theorem Tryd.c_Extra (k : Int) (w : World) (hk : -9223372036854775808 ≤ k ∧ k ≤ 9223372036854775807) (hT : Tryd.Tab32 w) :
    Calls Tryd.prog 13 #[.int .i64 k] w fun e w' => Dia.IsPlace k false w w' e := by
  obtain ⟨hk0, hk1⟩ := hk
  by_cases h0 : k < 0
  · have HP : Aid.Hid2 (Dia.PlaceIs k false 0 false) := ⟨by unfold Dia.PlaceIs; rw [if_neg (by omega)]; exact ⟨rfl, rfl⟩⟩
    have d0 : decide (k < 0) = true := decide_eq_true h0
    go_enter Tryd.func13, Tryd.ntmps13
    go_wp2
    go_ret2
    exact ⟨0, false, HP.out, rfl, Below.refl _ _⟩
  · have d0 : decide (k < 0) = false := decide_eq_false h0
    by_cases h1 : 8822 ≤ k
    · have HP : Aid.Hid2 (Dia.PlaceIs k false 0 false) := ⟨by unfold Dia.PlaceIs; rw [if_neg (by simp; omega)]; exact ⟨rfl, rfl⟩⟩
      have d1 : decide (8822 ≤ k) = true := decide_eq_true h1
      go_enter Tryd.func13, Tryd.ntmps13
      go_wp2
      go_ret2
      exact ⟨0, false, HP.out, rfl, Below.refl _ _⟩
    · have d1 : decide (8822 ≤ k) = false := decide_eq_false h1
      obtain ⟨n, rfl⟩ := Int.eq_ofNat_of_zero_le (show 0 ≤ k by omega)
      have HP : Aid.Hid2 (∀ p, Dia.KthIs n false p → Dia.PlaceIs (n : Int) false p true) := ⟨fun p h => by unfold Dia.PlaceIs; rw [if_pos (by simp; omega)]; exact ⟨rfl, h⟩⟩
      have HK := Aid.Hid2.mk (Tryd.c_kth n false w (by omega) hT)
      go_enter Tryd.func13, Tryd.ntmps13
      go_wp2_with fail
      refine HK.out.mono ?_
      rintro e w1 ⟨p, hp, rfl, hb1⟩
      have HP2 := Aid.Hid2.mk (HP.out p hp)
      clear hp HP
      go_wp2
      go_ret2
      exact ⟨p, true, HP2.out, rfl, hb1⟩
set_option maxRecDepth 100000 in
theorem Tryd.c_Rank_no (p : Int) (w : World) (h : p < 44032 ∨ 55204 ≤ p) :
    Calls Tryd.prog 8 #[.int .i32 p] w fun e w' => e = .returned (.tuple #[.int .i64 0, .bool false, .bool false]) ∧ Below w.heap.size w w' := by
  by_cases h0 : p < 44032
  · have d0 : decide (p < 44032) = true := decide_eq_true h0
    clear h
    go_enter Tryd.func8, Tryd.ntmps8
    go_wp2
    exact bodyPost_ret (v := .tuple #[.int .i64 0, .bool false, .bool false]) (by simp [results, Tryd.results8, go_sem]) rfl ⟨rfl, Below.refl _ _⟩
  · have d0 : decide (p < 44032) = false := decide_eq_false h0
    have d1 : decide (55204 ≤ p) = true := decide_eq_true (by omega)
    clear h
    go_enter Tryd.func8, Tryd.ntmps8
    go_wp2
    exact bodyPost_ret (v := .tuple #[.int .i64 0, .bool false, .bool false]) (by simp [results, Tryd.results8, go_sem]) rfl ⟨rfl, Below.refl _ _⟩
theorem Dia.low_bits (m j : Nat) (hj : j < 28) (hm : m < 2 ^ 28) : bits .and .u32 (m : Int) (IntKind.u32.wrap (IntKind.u32.wrap (2 ^ j) - 1)) = ((m % 2 ^ j : Nat) : Int) := by
  have hp : 2 ^ j < 2 ^ 28 := (Nat.pow_lt_pow_iff_right (by decide : 1 < 2)).2 hj
  have h1 : 0 < 2 ^ j := Nat.two_pow_pos _
  have e : ((2 : Int) ^ j) = ((2 ^ j : Nat) : Int) := by simp
  rw [e, IntKind.wrap_u32, IntKind.wrap_u32]
  have e2 : (((2 ^ j : Nat) : Int) % 4294967296 - 1) % 4294967296 = ((2 ^ j - 1 : Nat) : Int) := by omega
  rw [e2, bits_and_u32_nat m (2 ^ j - 1) (by omega) (by omega), Nat.and_two_pow_sub_one_eq_mod]
theorem Dia.one_bit (m j : Nat) (hm : m < 2 ^ 28) : bits .and .u32 ((m : Int) / 2 ^ j) 1 = ((m / 2 ^ j % 2 : Nat) : Int) := by
  have h : m / 2 ^ j ≤ m := Nat.div_le_self _ _
  have e : ((m : Int) / 2 ^ j) = ((m / 2 ^ j : Nat) : Int) := by simp
  have h2 := bits_and_u32_nat (m / 2 ^ j) 1 (by omega) (by decide)
  rw [show (1 : Nat) = 2 ^ 1 - 1 from rfl, Nat.and_two_pow_sub_one_eq_mod] at h2
  rw [e]
  exact h2
set_option maxRecDepth 100000 in
set_option maxHeartbeats 1000000 in
theorem Tryd.c_Rank_yes (s : Nat) (w : World) (hs : s < 11172) :
    Calls Tryd.prog 8 #[.int .i32 (44032 + (s : Int))] w fun e w' => e = .returned (.tuple #[.int .i64 (Dia.CB (Dia.inB s) s), .bool (Dia.inB s), .bool true]) ∧ Below w.heap.size w w' := by
  have hml := Dia.maskN_lt (s / 28) (by omega)
  have HM : Aid.Hid2 (∀ w1, Calls Tryd.prog 21 #[.int .i64 ((s : Int) / 28)] w1 fun e w' => e = .returned (.int .u32 (Dia.maskN (s / 28))) ∧ Below w1.heap.size w1 w') := ⟨fun w1 => Tryd.c_mask (s / 28) w1 (by omega)⟩
  have HBF : Aid.Hid2 (∀ w1, Calls Tryd.prog 22 #[.int .i64 ((s : Int) / 28)] w1 fun e w' => e = .returned (.int .i64 (Dia.CI (28 * (s / 28)))) ∧ Below w1.heap.size w1 w') := ⟨fun w1 => Tryd.c_before (s / 28) w1 (by omega)⟩
  have HO : Aid.Hid2 (∀ w1, Calls Tryd.prog 23 #[.int .u32 (Dia.maskN (s / 28) % 2 ^ (s % 28) : Nat)] w1 fun e w' => e = .returned (.int .i64 (Dia.cnt (Dia.maskN (s / 28)) (s % 28))) ∧ Below w1.heap.size w1 w') := ⟨fun w1 => by
    have := Tryd.c_Ones (Dia.maskN (s / 28) % 2 ^ (s % 28)) w1 (Nat.lt_of_le_of_lt (Nat.mod_le _ _) (by omega))
    rw [Dia.cnt_below _ _ (by omega)] at this
    exact this⟩
  have HCI : Aid.Hid2 (Dia.CI s = Dia.CI (28 * (s / 28)) + Dia.cnt (Dia.maskN (s / 28)) (s % 28)) := ⟨by
    have := Dia.CI_group (s / 28) (s % 28) (by omega)
    rw [← this]
    congr 1; omega⟩
  have hle := Dia.CI_le (28 * (s / 28))
  have hle2 := Dia.CI_le s
  have hcl := Dia.cnt_le (Dia.maskN (s / 28)) (s % 28)
  have kb := Dia.low_bits (Dia.maskN (s / 28)) (s % 28) (by omega) hml
  have e0 : 44032 + (s : Int) - 44032 = s := by omega
  have d0 : decide (44032 + (s : Int) < 44032) = false := decide_eq_false (by omega)
  have d1 : decide (55204 ≤ 44032 + (s : Int)) = false := decide_eq_false (by omega)
  have hr0 : Dia.maskN (s / 28) % 2 ^ (s % 28) ≤ Dia.maskN (s / 28) := Nat.mod_le _ _
  have kc := Dia.one_bit (Dia.maskN (s / 28)) (s % 28) hml
  have HIN : Aid.Hid2 (Dia.inB s = decide (Dia.maskN (s / 28) / 2 ^ (s % 28) % 2 = 1)) := ⟨rfl⟩
  generalize Dia.cnt (Dia.maskN (s / 28)) (s % 28) = c at *
  by_cases hbit : Dia.maskN (s / 28) / 2 ^ (s % 28) % 2 = 1
  · have hin : Dia.inB s = true := by rw [HIN.out, hbit]; rfl
    have HV : Aid.Hid2 (Dia.CB (Dia.inB s) s = Dia.CI (28 * (s / 28)) + c ∧ Dia.inB s = true) := ⟨by rw [hin, ← HCI.out]; exact ⟨rfl, rfl⟩⟩
    rw [hbit] at kc
    clear hbit hin HIN HCI
    generalize Dia.maskN (s / 28) % 2 ^ (s % 28) = r at *
    rw [show s % 28 = ((s : Int) % 28).toNat by omega] at kb
    generalize Dia.maskN (s / 28) = m at *
    generalize Dia.CI (28 * (s / 28)) = n at *
    have kc' : (bits .and .u32 ((m : Int) / 2 ^ (s % 28)) 1 == 1) = true := by rw [kc]; rfl
    clear kc
    go_enter Tryd.func8, Tryd.ntmps8
    go_wp2_with fail
    refine (HM.out _).mono ?_
    rintro e w1 ⟨rfl, hb1⟩
    go_wp2_with fail
    go_region_with (first
      | (go_at_call 22; (with_reducible refine (HBF.out _).mono ?_); rintro e w2 ⟨rfl, hb2⟩)
      | (go_at_call 23; (with_reducible refine (HO.out _).mono ?_); rintro e w3 ⟨rfl, hb3⟩))
    all_goals
      clear kb e0 d0 d1
      go_wp2
      refine bodyPost_ret (v := .tuple #[.int .i64 ((n : Int) + c), .bool true, .bool true]) (by simp [results, Tryd.results8, go_sem]) rfl ⟨?_, ?_⟩
      · rw [HV.out.1, HV.out.2]; rfl
      · first | exact Aid.bt (Aid.bt hb1 hb2) hb3 | exact Aid.bt (Aid.bt (hb1.drew) hb2) hb3 | exact Aid.bt (Aid.bt hb1 hb3) hb2 | exact Aid.bt (Aid.bt (hb1.drew) hb3) hb2
  · have hin : Dia.inB s = false := by rw [HIN.out]; exact decide_eq_false hbit
    have hz : Dia.maskN (s / 28) / 2 ^ (s % 28) % 2 = 0 := by omega
    have HV : Aid.Hid2 (((Dia.CB (Dia.inB s) s : Nat) : Int) = (s : Int) - (Dia.CI (28 * (s / 28)) + c) ∧ Dia.inB s = false) := ⟨by rw [hin]; refine ⟨?_, rfl⟩; have h1 := HCI.out; show ((s - Dia.CI s : Nat) : Int) = _; omega⟩
    rw [hz] at kc
    clear hbit hin HIN HCI hz
    generalize Dia.maskN (s / 28) % 2 ^ (s % 28) = r at *
    rw [show s % 28 = ((s : Int) % 28).toNat by omega] at kb
    generalize Dia.maskN (s / 28) = m at *
    generalize Dia.CI (28 * (s / 28)) = n at *
    have kc' : (bits .and .u32 ((m : Int) / 2 ^ (s % 28)) 1 == 1) = false := by rw [kc]; rfl
    clear kc
    go_enter Tryd.func8, Tryd.ntmps8
    go_wp2_with fail
    refine (HM.out _).mono ?_
    rintro e w1 ⟨rfl, hb1⟩
    go_wp2_with fail
    go_region_with (first
      | (go_at_call 22; (with_reducible refine (HBF.out _).mono ?_); rintro e w2 ⟨rfl, hb2⟩)
      | (go_at_call 23; (with_reducible refine (HO.out _).mono ?_); rintro e w3 ⟨rfl, hb3⟩))
    all_goals
      clear kb e0 d0 d1
      go_wp2
      refine bodyPost_ret (v := .tuple #[.int .i64 ((s : Int) - ((n : Int) + c)), .bool false, .bool true]) (by simp [results, Tryd.results8, go_sem]) rfl ⟨?_, ?_⟩
      · rw [HV.out.1, HV.out.2]
      · first | exact Aid.bt (Aid.bt hb1 hb2) hb3 | exact Aid.bt (Aid.bt (hb1.drew) hb2) hb3 | exact Aid.bt (Aid.bt hb1 hb3) hb2 | exact Aid.bt (Aid.bt (hb1.drew) hb3) hb2
end Go.Proofs
