/- walks of wansung's reference: Digit, In, Rank, Kth -/
import Derived.Test.YtfiinmidcmgphaaDoorC6
namespace Go.Proofs
open Go.RowKit

set_option maxRecDepth 100000 in
theorem Tryd.c_Digit (c : UInt8) (w : World) (h : (48 ≤ c.toNat ∧ c.toNat ≤ 57) ∨ (97 ≤ c.toNat ∧ c.toNat ≤ 102)) :
    Calls Tryd.prog 25 #[.int .u8 c.toNat] w fun e w' => e = .returned (.int .i64 (Dia.dig c)) ∧ w = w' := by
  have hd : ((Dia.dig c : Nat) : Int) = if 97 ≤ c.toNat then (c.toNat : Int) - 97 + 10 else (c.toNat : Int) - 48 := by unfold Dia.dig; split <;> omega
  generalize Dia.dig c = d at *
  generalize c.toNat = x at *
  rcases h with ⟨h0, h1⟩ | ⟨h0, h1⟩
  · rw [if_neg (by omega)] at hd
    have HD := Aid.Hid2.mk hd
    clear hd
    have d0 : decide (97 ≤ (x : Int)) = false := decide_eq_false (by omega)
    go_enter Tryd.func25, Tryd.ntmps25
    go_wp2
    go_ret
    exact ⟨(by rw [HD.out]; go_num), rfl⟩
  · rw [if_pos (by omega)] at hd
    have HD := Aid.Hid2.mk hd
    clear hd
    have d0 : decide (97 ≤ (x : Int)) = true := decide_eq_true (by omega)
    go_enter Tryd.func25, Tryd.ntmps25
    go_wp2
    go_ret
    exact ⟨(by rw [HD.out]; go_num), rfl⟩
set_option maxRecDepth 100000 in
set_option maxHeartbeats 1000000 in
theorem Tryd.c_In (n : Nat) (w : World) (hn : n < 11172) :
    Calls Tryd.prog 10 #[.int .i64 n] w fun e w' => e = .returned (.bool (Dia.inB n)) ∧ w = w' := by
  have HIN := Aid.Hid2.mk (Dia.inB_digit n hn)
  have hx := Dia.mem_hex _ (Dia.mem_at (7 * (n / 28) + (6 - n % 28 / 4)) (by omega))
  have HC := Aid.Hid2.mk (fun w1 => Tryd.c_Digit (Dia.mem.getD (7 * (n / 28) + (6 - n % 28 / 4)) 0) w1 hx)
  have hdl := Dia.dig_lt hx
  have hdg : Dia.dg (n / 28) (6 - n % 28 / 4) = Dia.dig (Dia.mem.getD (7 * (n / 28) + (6 - n % 28 / 4)) 0) := rfl
  rw [hdg] at HIN
  clear hdg
  have HX : Aid.Hid2 ((Dia.mem.getD (((n : Int) / 28) * 7 + 6 - (n : Int) % 28 / 4).toNat 0).toNat = (Dia.mem.getD (7 * (n / 28) + (6 - n % 28 / 4)) 0).toNat) := ⟨by
    congr 2; omega⟩
  have e1 : IntKind.i64.wrap ((n : Int) / 28 * 7) = (n : Int) / 28 * 7 := IntWalk.i64_in _ (by omega)
  have e2 : IntKind.i64.wrap ((n : Int) / 28 * 7 + 6) = (n : Int) / 28 * 7 + 6 := IntWalk.i64_in _ (by omega)
  generalize Dia.mem.getD (7 * (n / 28) + (6 - n % 28 / 4)) 0 = c at *
  generalize Dia.dig c = d at *
  go_enter Tryd.func10, Tryd.ntmps10
  go_wp2_with (first
    | (refine Aid.wpList_index_str _ rfl _ _ _ rfl Tryd.underlying9 _ Dia.mem rfl (by kernel_rfl) _ _ rfl c.toNat HX.out (by omega) (by rw [Dia.mem_len]; omega) ?_)
    | (go_at_call 25; refine (HC.out _).mono ?_; rintro e w1 ⟨rfl, rfl⟩))
  go_loop [4, 5] (fun vd vi => ∃ i : Nat, i ≤ n % 28 % 4 ∧ vi = .int .i64 i ∧ vd = .int .i64 (d / 2 ^ i : Nat)) (fun _ vi => n % 28 % 4 - (intOf vi).toNat)
  case atStart => exact ⟨0, by omega, rfl, by simp⟩
  case round =>
    obtain ⟨i, hi, rfl, rfl⟩ := hrel
    by_cases hlt : i < n % 28 % 4
    · have HS : Aid.Hid2 (d / 2 ^ (i + 1) = d / 2 ^ i / 2) := ⟨by rw [Nat.pow_succ, Nat.div_div_eq_div_mul]⟩
      have hle : d / 2 ^ i ≤ d := Nat.div_le_self _ _
      generalize d / 2 ^ i = x at *
      go_wp2
      go_round
      case rel => exact ⟨i + 1, by omega, by go_num, by rw [HS.out]; go_num⟩
      case measure => simp [intOf]; omega
    · have hie : i = n % 28 % 4 := by omega
      have HV : Aid.Hid2 (Dia.inB n = decide (d / 2 ^ i % 2 = 1)) := ⟨by rw [HIN.out, hie]⟩
      have hle : d / 2 ^ i ≤ d := Nat.div_le_self _ _
      clear hie HIN
      generalize d / 2 ^ i = x at *
      go_wp2
      go_ret
      refine ⟨Dia.ret_b ?_, rfl⟩
      rw [HV.out]
      rw [Bool.eq_iff_iff]
      simp
      omega
set_option maxRecDepth 100000 in
set_option maxHeartbeats 1000000 in
theorem Tryd.c_refRank (n : Nat) (w : World) (hn : n < 11172) :
    Calls Tryd.prog 11 #[.int .i64 n] w fun e w' => e = .returned (.int .i64 (Dia.CB (Dia.inB n) n)) ∧ w = w' := by
  have HN := Aid.Hid2.mk (Tryd.c_In n w hn)
  have HI : Aid.Hid2 (∀ i, i < n → Calls Tryd.prog 10 #[.int .i64 i] w fun e w' => e = .returned (.bool (Dia.inB i)) ∧ w = w') := ⟨fun i h => Tryd.c_In i w (by omega)⟩
  go_enter Tryd.func11, Tryd.ntmps11
  go_wp2_with fail
  go_loop [3, 4] (fun vk vi => ∃ i : Nat, i ≤ n ∧ vi = .int .i64 i ∧ vk = .int .i64 (Dia.CB (Dia.inB n) i)) (fun _ vi => n - (intOf vi).toNat)
  case atStart => exact ⟨0, by omega, rfl, by unfold Dia.CB; split <;> rfl⟩
  case round =>
    obtain ⟨i, hi, rfl, rfl⟩ := hrel
    by_cases hlt : i < n
    · have HII := Aid.Hid2.mk (HI.out i hlt)
      have HS := Aid.Hid2.mk (Dia.CB_succ (Dia.inB n) i)
      have hle : Dia.CB (Dia.inB n) i ≤ i := by
        have := Dia.CI_le i
        unfold Dia.CB; split <;> omega
      generalize hb : Dia.inB i = b at *
      generalize Dia.CB (Dia.inB n) i = k at *
      by_cases hbn : b = Dia.inB n
      · have HS2 : Aid.Hid2 (Dia.CB (Dia.inB n) (i + 1) = k + 1) := ⟨by rw [HS.out, if_pos hbn]⟩
        clear HS
        have d1 : (b == Dia.inB n) = true := by simp [hbn]
        clear hbn hb
        generalize Dia.inB n = c at *
        go_wp2_with fail
        refine HII.out.mono ?_
        rintro e w1 ⟨rfl, rfl⟩
        go_wp2_with fail
        refine HN.out.mono ?_
        rintro e w1 ⟨rfl, rfl⟩
        go_wp2
        go_round
        case rel => exact ⟨i + 1, by omega, by go_num, by rw [HS2.out]; go_num⟩
        case measure => simp [intOf]; omega
      · have HS2 : Aid.Hid2 (Dia.CB (Dia.inB n) (i + 1) = k) := ⟨by rw [HS.out, if_neg hbn]; rfl⟩
        clear HS
        have d1 : (b == Dia.inB n) = false := by simpa using hbn
        clear hbn hb
        generalize Dia.inB n = c at *
        go_wp2_with fail
        refine HII.out.mono ?_
        rintro e w1 ⟨rfl, rfl⟩
        go_wp2_with fail
        refine HN.out.mono ?_
        rintro e w1 ⟨rfl, rfl⟩
        go_wp2
        go_round
        case rel => exact ⟨i + 1, by omega, by go_num, by rw [HS2.out]⟩
        case measure => simp [intOf]; omega
    · obtain rfl : i = n := by omega
      go_wp2
      go_ret
      exact ⟨rfl, rfl⟩
def Dia.IsKth (k : Nat) (b : Bool) (w w' : World) (e : Ending) : Prop := ∃ p : Int, Dia.KthIs k b p ∧ e = .returned (.int .i32 p) ∧ w = w'
set_option maxRecDepth 100000 in
set_option maxHeartbeats 1000000 in
theorem Tryd.c_refKth (k : Nat) (b : Bool) (w : World) (hk : k ≤ 100000) :
    Calls Tryd.prog 14 #[.int .i64 k, .bool b] w fun e w' => Dia.IsKth k b w w' e := by
  have HI : Aid.Hid2 (∀ i : Nat, i < 11172 → Calls Tryd.prog 10 #[.int .i64 i] w fun e w' => e = .returned (.bool (Dia.inB i)) ∧ w = w') := ⟨fun i h => Tryd.c_In i w h⟩
  go_enter Tryd.func14, Tryd.ntmps14
  go_wp2_with fail
  go_loop [0, 5] (fun vk vi => ∃ i j : Nat, i ≤ 11172 ∧ j ≤ k ∧ vi = .int .i64 i ∧ vk = .int .i64 j ∧ Aid.Hid2 (j + Dia.CB b i = k)) (fun _ vi => 11172 - (intOf vi).toNat)
  case atStart => exact ⟨0, k, by omega, Nat.le_refl _, rfl, rfl, ⟨by unfold Dia.CB; split <;> rfl⟩⟩
  case round =>
    obtain ⟨i, j, hi, hj, rfl, rfl, HJ⟩ := hrel
    by_cases hlt : i < 11172
    · have HII := Aid.Hid2.mk (HI.out i hlt)
      have HS := Aid.Hid2.mk (Dia.CB_succ b i)
      by_cases hbn : Dia.inB i = b
      · by_cases hj0 : j = 0
        · have HP : Aid.Hid2 (Dia.KthIs k b (44032 + (i : Int))) := ⟨.inl ⟨i, hlt, hbn, by have := HJ.out; omega, rfl⟩⟩
          subst hj0
          have d1 : (Dia.inB i == b) = true := by simp [hbn]
          clear hbn HS HJ
          generalize Dia.inB i = c at *
          go_wp2_with fail
          refine HII.out.mono ?_
          rintro e w1 ⟨rfl, rfl⟩
          go_wp2
          go_ret
          exact ⟨_, HP.out, by go_num, rfl⟩
        · have HJ2 : Aid.Hid2 (j - 1 + Dia.CB b (i + 1) = k) := ⟨by rw [HS.out, if_pos hbn]; have := HJ.out; omega⟩
          have d1 : (Dia.inB i == b) = true := by simp [hbn]
          have d2 : ((j : Int) == 0) = false := by simp; omega
          clear hbn HS HJ
          generalize Dia.inB i = c at *
          go_wp2_with fail
          refine HII.out.mono ?_
          rintro e w1 ⟨rfl, rfl⟩
          go_wp2
          go_round
          case rel => exact ⟨i + 1, j - 1, by omega, by omega, by go_num, by go_num, HJ2⟩
          case measure => simp [intOf]; omega
      · have HJ2 : Aid.Hid2 (j + Dia.CB b (i + 1) = k) := ⟨by rw [HS.out, if_neg hbn]; have := HJ.out; omega⟩
        have d1 : (Dia.inB i == b) = false := by simpa using hbn
        clear hbn HS HJ
        generalize Dia.inB i = c at *
        go_wp2_with fail
        refine HII.out.mono ?_
        rintro e w1 ⟨rfl, rfl⟩
        go_wp2
        go_round
        case rel => exact ⟨i + 1, j, by omega, hj, by go_num, rfl, HJ2⟩
        case measure => simp [intOf]; omega
    · obtain rfl : i = 11172 := by omega
      have HP : Aid.Hid2 (Dia.KthIs k b 0) := ⟨.inr ⟨by have := HJ.out; omega, rfl⟩⟩
      clear HJ
      go_wp2
      go_ret
      exact ⟨0, HP.out, rfl, rfl⟩
end Go.Proofs
