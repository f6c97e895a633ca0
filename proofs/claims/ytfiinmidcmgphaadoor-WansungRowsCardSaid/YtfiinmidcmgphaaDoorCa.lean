/- the laws of layer 7, walked: the document's example, WansungRanks, WansungPlaces -/
import Derived.Test.YtfiinmidcmgphaaDoorC9
namespace Go.Proofs
open Go.RowKit

set_option maxRecDepth 100000 in
theorem Dia.aw7_0 : Dia.inB 0 = true ∧ Dia.inB 1 = true ∧ Dia.inB 11171 = false := by decide +kernel
theorem Dia.aw7_1 : Dia.CB true 1 = 1 := by
  have := Dia.CB_succ true 0
  rw [Dia.aw7_0.1] at this
  rw [this]; rfl
theorem Dia.aw7_2 : Dia.CB false 11171 = 8821 := by
  have := Dia.CB_succ false 11171
  rw [Dia.aw7_0.2.2, if_pos rfl, Dia.CB_all] at this
  simp only [Bool.false_eq_true, if_false] at this
  omega
theorem Dia.aw7_3 : Dia.twoB (Dia.wsyl 11171).1 (Dia.wsyl 11171).2 = [198, 82] := by
  unfold Dia.wsyl
  rw [Dia.aw7_0.2.2, Dia.aw7_2]
  decide
set_option maxRecDepth 100000 in
set_option maxHeartbeats 1000000 in
theorem Tryd.c_Awake07 (w : World) (hT : Tryd.Tab32 w) :
    Calls Tryd.prog 24 #[] w fun e w' => e = .returned (.bool true) ∧ Below w.heap.size w w' := by
  have HS : Aid.Hid2 (Calls Tryd.prog 15 #[.int .u8 176, .int .u8 162] w fun e w' => e = .returned (.tuple #[.int .i32 44033, .bool true]) ∧ Below w.heap.size w w') := ⟨by
    refine (Tryd.c_wSign_c 176 162 w (by decide) (by decide) hT).mono ?_
    rintro e w1 ⟨p, ok, hp, rfl, hb1⟩
    obtain ⟨rfl, rfl⟩ := Dia.PlaceIs.at (k := 1) (N := 1) hp (by decide) Dia.aw7_0.2.1 Dia.aw7_1
    exact ⟨rfl, hb1⟩⟩
  have HB : Aid.Hid2 (∀ w1, Calls Tryd.prog 17 #[.int .i32 55203] w1 fun e w' => e = .returned (.tuple #[.string ⟨#[198, 82]⟩, .bool true]) ∧ Below w1.heap.size w1 w') := ⟨fun w1 => by
    have := Tryd.c_wBytes_syl 11171 w1 (by decide)
    rw [Dia.aw7_3] at this
    exact this⟩
  go_enter Tryd.func24, Tryd.ntmps24
  go_wp2_with fail
  refine HS.out.mono ?_
  rintro e w1 ⟨rfl, hb1⟩
  go_wp2_with fail
  refine (HB.out _).mono ?_
  rintro e w2 ⟨rfl, hb2⟩
  go_wp2
  go_ret
  exact ⟨rfl, Aid.bt hb1 hb2⟩
set_option maxRecDepth 100000 in
theorem Tryd.c_awake07 (w : World) (hT : Tryd.Tab32 w) :
    Calls Tryd.prog 9 #[] w fun e w' => e = .returned (.bool true) ∧ Below w.heap.size w w' := by
  go_enter Tryd.func9, Tryd.ntmps9
  go_wp2_with (go_at_call 24; refine (Tryd.c_Awake07 w hT).mono ?_; rintro e w1 ⟨rfl, hb1⟩)
  go_ret
  exact ⟨rfl, hb1⟩
set_option maxRecDepth 100000 in
set_option maxHeartbeats 1000000 in
theorem Tryd.w_WansungRanks (p : Int) (w : World) (hT : Tryd.Tab32 w) (hp : -2147483648 ≤ p ∧ p ≤ 2147483647) :
    Calls Tryd.prog 3 #[.int .i32 p] w fun e w' => e = .returned (.bool true) ∧ Below w.heap.size w w' := by
  obtain ⟨p0, p1⟩ := hp
  by_cases hin : 44032 ≤ p ∧ p ≤ 55203
  · obtain ⟨i0, i1⟩ := hin
    obtain ⟨s, hs⟩ := Int.eq_ofNat_of_zero_le (show 0 ≤ p - 44032 by omega)
    obtain rfl : p = 44032 + (s : Int) := by omega
    have hs1 : s < 11172 := by omega
    have HR := Aid.Hid2.mk (Tryd.c_Rank_yes s w hs1)
    have hbd := Dia.CB_bd s hs1
    have HI : Aid.Hid2 (∀ w1, Calls Tryd.prog 10 #[.int .i64 s] w1 fun e w' => e = .returned (.bool (Dia.inB s)) ∧ w1 = w') := ⟨fun w1 => Tryd.c_In s w1 hs1⟩
    have HRR : Aid.Hid2 (∀ w1, Calls Tryd.prog 11 #[.int .i64 s] w1 fun e w' => e = .returned (.int .i64 (Dia.CB (Dia.inB s) s)) ∧ w1 = w') := ⟨fun w1 => Tryd.c_refRank s w1 hs1⟩
    have HAT : Aid.Hid2 (∀ q ok, Dia.PlaceIs (Dia.CB (Dia.inB s) s : Nat) (Dia.inB s) q ok → q = 44032 + (s : Int) ∧ ok = true) := ⟨fun q ok h => Dia.PlaceIs.at h hs1 rfl rfl⟩
    have hk : Dia.CB (Dia.inB s) s ≤ 8822 := by revert hbd; cases Dia.inB s <;> simp <;> omega
    have HP := Aid.Hid2.mk (fun w1 hT => Tryd.c_Place (Dia.CB (Dia.inB s) s : Nat) w1 ⟨by omega, by omega⟩ hT)
    have HE := Aid.Hid2.mk (fun w1 hT => Tryd.c_Extra (Dia.CB (Dia.inB s) s : Nat) w1 ⟨by omega, by omega⟩ hT)
    have e0 : 44032 + (s : Int) - 44032 = s := by omega
    have d0 : decide (44032 + (s : Int) < 44032) = false := decide_eq_false (by omega)
    have d1 : decide (55203 < 44032 + (s : Int)) = false := decide_eq_false (by omega)
    clear hbd p0 p1 i0 i1
    cases hb : Dia.inB s with
    | true =>
      rw [hb] at HR HI HRR HAT HP HE hk
      clear hb
      generalize Dia.CB true s = k at *
      go_enter Tryd.func3, Tryd.ntmps3
      go_wp2_with fail
      refine HR.out.mono ?_
      rintro e w1 ⟨rfl, hb1⟩
      go_wp2_with fail
      refine (HI.out _).mono ?_
      rintro e w2 ⟨rfl, rfl⟩
      go_wp2_with fail
      refine (HRR.out _).mono ?_
      rintro e w2 ⟨rfl, rfl⟩
      go_wp2_with fail
      refine (HP.out _ (hT.below hb1)).mono ?_
      rintro e w2 ⟨q, ok, hq, rfl, hb2⟩
      obtain ⟨rfl, rfl⟩ := HAT.out q ok hq
      clear hq
      go_wp2_with fail
      refine (Tryd.c_awake07 _ (hT.below (Aid.bt hb1 hb2))).mono ?_
      rintro e w3 ⟨rfl, hb3⟩
      go_wp2
      go_ret
      exact ⟨rfl, Aid.bt (Aid.bt hb1 hb2) hb3⟩
    | false =>
      rw [hb] at HR HI HRR HAT HP HE hk
      clear hb
      generalize Dia.CB false s = k at *
      go_enter Tryd.func3, Tryd.ntmps3
      go_wp2_with fail
      refine HR.out.mono ?_
      rintro e w1 ⟨rfl, hb1⟩
      go_wp2_with fail
      refine (HI.out _).mono ?_
      rintro e w2 ⟨rfl, rfl⟩
      go_wp2_with fail
      refine (HRR.out _).mono ?_
      rintro e w2 ⟨rfl, rfl⟩
      go_wp2_with fail
      refine (HP.out _ (hT.below hb1)).mono ?_
      rintro e w2 ⟨q0, ok0, _, rfl, hb2⟩
      go_wp2_with fail
      refine (HE.out _ (hT.below (Aid.bt hb1 hb2))).mono ?_
      rintro e w3 ⟨q, ok, hq, rfl, hb3⟩
      obtain ⟨rfl, rfl⟩ := HAT.out q ok hq
      clear hq
      go_wp2_with fail
      refine (Tryd.c_awake07 _ (hT.below (Aid.bt (Aid.bt hb1 hb2) hb3))).mono ?_
      rintro e w4 ⟨rfl, hb4⟩
      go_wp2
      go_ret
      exact ⟨rfl, Aid.bt (Aid.bt (Aid.bt hb1 hb2) hb3) hb4⟩
  · have HR := Aid.Hid2.mk (Tryd.c_Rank_no p w (by omega))
    by_cases h0 : p < 44032
    · have d0 : decide (p < 44032) = true := decide_eq_true h0
      clear hin
      go_enter Tryd.func3, Tryd.ntmps3
      go_wp2_with fail
      refine HR.out.mono ?_
      rintro e w1 ⟨rfl, hb1⟩
      go_wp2_with fail
      refine (Tryd.c_awake07 _ (hT.below hb1)).mono ?_
      rintro e w3 ⟨rfl, hb3⟩
      go_wp2
      go_ret
      exact ⟨rfl, Aid.bt hb1 hb3⟩
    · have d0 : decide (p < 44032) = false := decide_eq_false h0
      have d1 : decide (55203 < p) = true := decide_eq_true (by omega)
      clear hin
      go_enter Tryd.func3, Tryd.ntmps3
      go_wp2_with fail
      refine HR.out.mono ?_
      rintro e w1 ⟨rfl, hb1⟩
      go_wp2_with fail
      refine (Tryd.c_awake07 _ (hT.below hb1)).mono ?_
      rintro e w3 ⟨rfl, hb3⟩
      go_wp2
      go_ret
      exact ⟨rfl, Aid.bt hb1 hb3⟩
theorem Dia.PlaceIs.out {k p : Int} {b ok : Bool} (h : Dia.PlaceIs k b p ok) (hk : k < 0 ∨ 8822 ≤ k) : ok = false ∧ p = 0 := by
  unfold Dia.PlaceIs at h
  rw [if_neg (by cases b <;> simp <;> omega)] at h
  exact h
theorem Dia.PlaceIs.ref {k : Nat} {p q : Int} {b ok : Bool} (h : Dia.PlaceIs k b p ok) (hq : Dia.KthIs k b q) : p = q ∧ ok = decide (q ≠ 0) ∧ ok = decide ((k : Int) < if b then 2350 else 8822) := by
  unfold Dia.PlaceIs at h
  by_cases hk : (k : Int) < if b then 2350 else 8822
  · rw [if_pos ⟨by omega, hk⟩] at h
    obtain ⟨rfl, h2⟩ := h
    have h3 : Dia.KthIs k b p := h2
    have e := h3.uniq hq
    refine ⟨e, ?_, by simp [hk]⟩
    rcases hq with ⟨N, _, _, _, rfl⟩ | ⟨hq, _⟩
    · simp; omega
    · rw [Dia.CB_all] at hq
      cases b <;> simp at hk hq <;> omega
  · rw [if_neg (by rintro ⟨_, h⟩; exact hk h)] at h
    obtain ⟨rfl, rfl⟩ := h
    rcases hq with ⟨N, n0, n1, n2, rfl⟩ | ⟨hq, rfl⟩
    · have := Dia.KthIs.lt n0 n1 n2
      rw [Dia.CB_all] at this
      cases b <;> simp at hk this <;> omega
    · simp [hk]
set_option maxRecDepth 100000 in
set_option maxHeartbeats 1000000 in
theorem Tryd.w_WansungPlaces (k : Int) (w : World) (hT : Tryd.Tab32 w) (hk : -9223372036854775808 ≤ k ∧ k ≤ 9223372036854775807) :
    Calls Tryd.prog 4 #[.int .i64 k] w fun e w' => e = .returned (.bool true) ∧ Below w.heap.size w w' := by
  have HP := Aid.Hid2.mk (Tryd.c_Place k w hk hT)
  have HE : Aid.Hid2 (∀ w1, Below w.heap.size w w1 → _) := ⟨fun w1 hb => Tryd.c_Extra k w1 hk (hT.below hb)⟩
  obtain ⟨k0, k1⟩ := hk
  by_cases hin : 0 ≤ k ∧ k ≤ 12000
  · obtain ⟨n, rfl⟩ := Int.eq_ofNat_of_zero_le hin.1
    have hn : n ≤ 12000 := by omega
    have HA : Aid.Hid2 (∀ w1, Calls Tryd.prog 14 #[.int .i64 n, .bool true] w1 fun e w' => Dia.IsKth n true w1 w' e) := ⟨fun w1 => Tryd.c_refKth n true w1 (by omega)⟩
    have HB : Aid.Hid2 (∀ w1, Calls Tryd.prog 14 #[.int .i64 n, .bool false] w1 fun e w' => Dia.IsKth n false w1 w' e) := ⟨fun w1 => Tryd.c_refKth n false w1 (by omega)⟩
    have d0 : decide ((n : Int) < 0) = false := decide_eq_false (by omega)
    have d1 : decide (12000 < (n : Int)) = false := decide_eq_false (by omega)
    clear hin k0 k1
    go_enter Tryd.func4, Tryd.ntmps4
    go_wp2_with fail
    refine HP.out.mono ?_
    rintro e w1 ⟨p, ok, hp, rfl, hb1⟩
    have HPP := Aid.Hid2.mk hp
    clear hp
    go_wp2_with fail
    refine (HE.out _ hb1).mono ?_
    rintro e w2 ⟨q, is, hq, rfl, hb2⟩
    have HQQ := Aid.Hid2.mk hq
    clear hq
    go_wp2_with fail
    refine (HA.out _).mono ?_
    rintro e w3 ⟨a, ha, rfl, rfl⟩
    obtain ⟨rfl, o1, o2⟩ := HPP.out.ref ha
    have O := Aid.Hid2.mk (And.intro o1 o2)
    clear ha o1 o2
    go_wp2_with fail
    refine (HB.out _).mono ?_
    rintro e w3 ⟨b, hb, rfl, rfl⟩
    obtain ⟨rfl, i1, i2⟩ := HQQ.out.ref hb
    clear hb
    obtain ⟨o1, o2⟩ := O.out
    have O1 : (p != 0) = ok := by rw [o1]; by_cases h : p = 0 <;> simp [h]
    have O2 : decide ((n : Int) < 2350) = ok := by rw [o2]; rfl
    have I1 : (q != 0) = is := by rw [i1]; by_cases h : q = 0 <;> simp [h]
    have I2 : decide ((n : Int) < 8822) = is := by rw [i2]; rfl
    clear o1 o2 i1 i2
    cases ok with
    | false =>
      cases is with
      | false =>
        obtain rfl : p = 0 := by simpa using O1
        clear O1
        obtain rfl : q = 0 := by simpa using I1
        clear I1
        go_wp2_with fail
        refine (Tryd.c_awake07 _ (hT.below (Aid.bt hb1 hb2))).mono ?_
        rintro e w4 ⟨rfl, hb4⟩
        go_wp2
        go_ret
        exact ⟨rfl, Aid.bt (Aid.bt hb1 hb2) hb4⟩
      | true =>
        obtain rfl : p = 0 := by simpa using O1
        clear O1
        go_wp2_with fail
        refine (Tryd.c_awake07 _ (hT.below (Aid.bt hb1 hb2))).mono ?_
        rintro e w4 ⟨rfl, hb4⟩
        go_wp2
        go_ret
        exact ⟨rfl, Aid.bt (Aid.bt hb1 hb2) hb4⟩
    | true =>
      cases is with
      | false =>
        obtain rfl : q = 0 := by simpa using I1
        clear I1
        go_wp2_with fail
        refine (Tryd.c_awake07 _ (hT.below (Aid.bt hb1 hb2))).mono ?_
        rintro e w4 ⟨rfl, hb4⟩
        go_wp2
        go_ret
        exact ⟨rfl, Aid.bt (Aid.bt hb1 hb2) hb4⟩
      | true =>
        go_wp2_with fail
        refine (Tryd.c_awake07 _ (hT.below (Aid.bt hb1 hb2))).mono ?_
        rintro e w4 ⟨rfl, hb4⟩
        go_wp2
        go_ret
        exact ⟨rfl, Aid.bt (Aid.bt hb1 hb2) hb4⟩
  · by_cases h0 : k < 0
    · have d0 : decide (k < 0) = true := decide_eq_true h0
      have HX : Aid.Hid2 (∀ b p ok, Dia.PlaceIs k b p ok → ok = false ∧ p = 0) := ⟨fun b p ok h => h.out (.inl h0)⟩
      clear hin
      go_enter Tryd.func4, Tryd.ntmps4
      go_wp2_with fail
      refine HP.out.mono ?_
      rintro e w1 ⟨p, ok, hp, rfl, hb1⟩
      obtain ⟨rfl, rfl⟩ := HX.out _ _ _ hp
      clear hp
      go_wp2_with fail
      refine (HE.out _ hb1).mono ?_
      rintro e w2 ⟨q, is, hq, rfl, hb2⟩
      obtain ⟨rfl, rfl⟩ := HX.out _ _ _ hq
      clear hq
      go_wp2_with fail
      refine (Tryd.c_awake07 _ (hT.below (Aid.bt hb1 hb2))).mono ?_
      rintro e w4 ⟨rfl, hb4⟩
      go_wp2
      go_ret
      exact ⟨rfl, Aid.bt (Aid.bt hb1 hb2) hb4⟩
    · have d0 : decide (k < 0) = false := decide_eq_false h0
      have d1 : decide (12000 < k) = true := decide_eq_true (by omega)
      have HX : Aid.Hid2 (∀ b p ok, Dia.PlaceIs k b p ok → ok = false ∧ p = 0) := ⟨fun b p ok h => h.out (.inr (by omega))⟩
      clear hin
      go_enter Tryd.func4, Tryd.ntmps4
      go_wp2_with fail
      refine HP.out.mono ?_
      rintro e w1 ⟨p, ok, hp, rfl, hb1⟩
      obtain ⟨rfl, rfl⟩ := HX.out _ _ _ hp
      clear hp
      go_wp2_with fail
      refine (HE.out _ hb1).mono ?_
      rintro e w2 ⟨q, is, hq, rfl, hb2⟩
      obtain ⟨rfl, rfl⟩ := HX.out _ _ _ hq
      clear hq
      go_wp2_with fail
      refine (Tryd.c_awake07 _ (hT.below (Aid.bt hb1 hb2))).mono ?_
      rintro e w4 ⟨rfl, hb4⟩
      go_wp2
      go_ret
      exact ⟨rfl, Aid.bt (Aid.bt hb1 hb2) hb4⟩
end Go.Proofs
