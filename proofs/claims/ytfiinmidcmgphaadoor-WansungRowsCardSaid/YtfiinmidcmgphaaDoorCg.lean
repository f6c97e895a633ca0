/- walks of wansung: Sign, Bytes; of its reference: Sign, RowCode -/
import Derived.Test.YtfiinmidcmgphaaDoorCf
import Derived.Deep.RegionHeld3
namespace Go.Proofs
open Go.RowKit

set_option maxRecDepth 100000 in
set_option maxHeartbeats 1000000 in
theorem Tryd.c_wSign_d (l b : Int) (w : World) (hl : 161 ≤ l ∧ l ≤ 254 ∧ ¬ (176 ≤ l ∧ l ≤ 200)) (hb : 161 ≤ b ∧ b ≤ 254) (hT : Tryd.Tabs w) :
    Calls Tryd.prog 15 #[.int .u8 l, .int .u8 b] w fun e w' => e = .returned (.tuple #[.int .i32 (Dia.fwdl Dia.wanL ((l - 161) * 94 + (b - 161))).1, .bool (Dia.fwdl Dia.wanL ((l - 161) * 94 + (b - 161))).2]) ∧ Below w.heap.size w w' := by
  have HC := Aid.Hid2.mk (Tryd.c_wtrail b w ⟨by omega, by omega⟩)
  have h : (Dia.wtrail b).2 = true := by unfold Dia.wtrail; rw [if_neg (by omega), if_neg (by omega), if_pos (by omega)]
  obtain ⟨l0, l1, l2⟩ := hl
  obtain ⟨b0, b1⟩ := hb
  have HF : Aid.Hid2 (∀ w1 a cap ls, Dia.T w1 a cap ls Dia.wanL → _) := ⟨fun w1 a cap ls ht => Tryd.t_Forward (a := a) (cap := cap) (ls := ls) ((l - 161) * 94 + (b - 161)) w1 ht (by omega)⟩
  have HTB := Aid.Hid2.mk (fun w1 hT => Tryd.c_wtable w1 hT)
  generalize Dia.wtrail b = c at *
  obtain ⟨c, ok⟩ := c
  simp only at h HC
  subst h
  generalize Dia.fwdl Dia.wanL ((l - 161) * 94 + (b - 161)) = fw at *
  obtain ⟨p, ok⟩ := fw
  have e1 : IntKind.u8.wrap (l - 161) = l - 161 := IntWalk.u8_in _ (by omega)
  have e5 : IntKind.u8.wrap (b - 161) = b - 161 := IntWalk.u8_in _ (by omega)
  have e2 : IntKind.i64.wrap ((l - 161) * 94) = (l - 161) * 94 := IntWalk.i64_in _ (by omega)
  have e3 : IntKind.i64.wrap ((l - 161) * 94 + (b - 161)) = (l - 161) * 94 + (b - 161) := IntWalk.i64_in _ (by omega)
  have d0 : decide (l < 129) = false := decide_eq_false (by omega)
  have d1 : (l == 255) = false := by simp; omega
  have d2 : decide (l ≤ 160) = false := decide_eq_false (by omega)
  have d3 : decide (b ≤ 160) = false := decide_eq_false (by omega)
  by_cases h4 : 1410 ≤ (l - 161) * 94 + (b - 161)
  · have d4 : decide (1410 ≤ (l - 161) * 94 + (b - 161)) = true := decide_eq_true h4
    have d5 : decide ((l - 161) * 94 + (b - 161) < 3760) = false := decide_eq_false (by omega)
    go_enter Tryd.func15, Tryd.ntmps15
    go_wp2_with fail
    refine HC.out.mono ?_
    rintro e w1 ⟨rfl, rfl⟩
    go_wp2_with fail
    refine (HTB.out _ hT).mono ?_
    rintro e w1 ⟨ls, hl1, x, cp, rfl, ht, hb1⟩
    go_wp2_with fail
    refine (HF.out _ _ _ _ ht).mono ?_
    rintro e w2 ⟨rfl, hb2⟩
    go_wp2
    go_ret2
    exact ⟨rfl, Aid.bt hb1 hb2⟩
  · have d4 : decide (1410 ≤ (l - 161) * 94 + (b - 161)) = false := decide_eq_false h4
    go_enter Tryd.func15, Tryd.ntmps15
    go_wp2_with fail
    refine HC.out.mono ?_
    rintro e w1 ⟨rfl, rfl⟩
    go_wp2_with fail
    refine (HTB.out _ hT).mono ?_
    rintro e w1 ⟨ls, hl1, x, cp, rfl, ht, hb1⟩
    go_wp2_with fail
    refine (HF.out _ _ _ _ ht).mono ?_
    rintro e w2 ⟨rfl, hb2⟩
    go_wp2
    go_ret2
    exact ⟨rfl, Aid.bt hb1 hb2⟩
theorem Dia.PlaceIs.kth {k p : Int} {b ok : Bool} (h : Dia.PlaceIs k b p ok) (hk : 0 ≤ k) : Dia.KthIs k.toNat b p ∧ ok = decide (p ≠ 0) := by
  unfold Dia.PlaceIs at h
  by_cases hc : k < if b then 2350 else 8822
  · rw [if_pos ⟨hk, hc⟩] at h
    obtain ⟨rfl, h⟩ := h
    refine ⟨h, ?_⟩
    rcases h with ⟨N, _, _, _, rfl⟩ | ⟨h, _⟩
    · simp; omega
    · rw [Dia.CB_all] at h
      cases b <;> simp at hc h <;> omega
  · rw [if_neg (by rintro ⟨_, h⟩; exact hc h)] at h
    obtain ⟨rfl, rfl⟩ := h
    refine ⟨.inr ⟨?_, rfl⟩, by simp⟩
    rw [Dia.CB_all]
    cases b <;> simp at hc ⊢ <;> omega
def Dia.IsSign (l b : Int) (w w' : World) (e : Ending) : Prop := ∃ p : Int, Dia.SgR l b p ∧ e = .returned (.tuple #[.int .i32 p, .bool (decide (p ≠ 0))]) ∧ Below w.heap.size w w'
/-- Sign -/
theorem Tryd.c_wSign (l b : Int) (w : World) (hl : 0 ≤ l ∧ l ≤ 255) (hb : 0 ≤ b ∧ b ≤ 255) (hT : Tryd.Tabs w) (hT2 : Tryd.Tab32 w) :
    Calls Tryd.prog 15 #[.int .u8 l, .int .u8 b] w fun e w' => Dia.IsSign l b w w' e := by
  have hts := Dia.wtrail_second b
  by_cases h0 : Dia.wsecond b < 0 ∨ l < 129 ∨ 254 < l
  · refine (Tryd.c_wSign_no l b w hl hb ?_).mono fun e w' ⟨he, hb⟩ => ⟨0, by unfold Dia.SgR; rw [if_pos h0], by rw [he]; rfl, hb⟩
    rcases h0 with h | h | h
    · rcases hts with ⟨_, h2⟩ | ⟨h2, _⟩
      · exact .inl (by rw [h2])
      · omega
    · exact .inr (.inl h)
    · exact .inr (.inr (by omega))
  · rcases hts with ⟨h1, _⟩ | ⟨s0, s1, s2, s3, s4⟩
    · exact absurd (.inl h1) h0
    have g1 : ¬ l < 129 := fun h => h0 (.inr (.inl h))
    have g2 : ¬ 254 < l := fun h => h0 (.inr (.inr h))
    have ht : (Dia.wtrail b).2 = true := by rw [s2]
    by_cases h1 : l < 161
    · refine (Tryd.c_wSign_a l b w ⟨by omega, by omega⟩ hb ht hT2).mono fun e w' ⟨p, ok, hp, he, hb⟩ => ?_
      rw [s2] at hp
      obtain ⟨k1, k2⟩ := hp.kth (by simp only; omega)
      exact ⟨p, by unfold Dia.SgR; rw [if_neg h0, if_pos h1]; exact k1, by rw [he, k2], hb⟩
    by_cases h2 : b < 161
    · refine (Tryd.c_wSign_b l b w ⟨by omega, by omega⟩ ⟨hb.1, by omega⟩ ht hT2).mono fun e w' ⟨p, ok, hp, he, hb⟩ => ?_
      rw [s2] at hp
      obtain ⟨k1, k2⟩ := hp.kth (by simp only; omega)
      exact ⟨p, by unfold Dia.SgR; rw [if_neg h0, if_neg h1, if_pos h2]; exact k1, by rw [he, k2], hb⟩
    have hb254 : b ≤ 254 := by
      by_cases e : b = 255
      · subst e
        exact absurd (.inl (by decide)) h0
      · omega
    by_cases h3 : 176 ≤ l ∧ l ≤ 200
    · refine (Tryd.c_wSign_c l b w h3 ⟨by omega, hb254⟩ hT2).mono fun e w' ⟨p, ok, hp, he, hb⟩ => ?_
      obtain ⟨k1, k2⟩ := hp.kth (by omega)
      refine ⟨p, ?_, by rw [he, k2], hb⟩
      unfold Dia.SgR
      rw [if_neg h0, if_neg h1, if_neg h2, if_pos h3]
      have e1 : (l - 161) * 94 + (b - 161) - 1410 = (l - 176) * 94 + b - 161 := by omega
      rw [e1] at k1
      exact k1
    · refine (Tryd.c_wSign_d l b w ⟨by omega, by omega, h3⟩ ⟨by omega, hb254⟩ hT).mono fun e w' ⟨he, hb⟩ => ?_
      have hf := Dia.wan_fwd (l - 161).toNat (b - 161).toNat (by omega)
      have f1 : ((l - 161).toNat : Int) = l - 161 := by omega
      have f2 : ((b - 161).toNat : Int) = b - 161 := by omega
      rw [f1, f2] at hf
      rw [hf] at he
      refine ⟨Dia.wAt (l - 161).toNat (b - 161).toNat, by unfold Dia.SgR; rw [if_neg h0, if_neg h1, if_neg h2, if_neg h3], ?_, hb⟩
      rw [he]
      by_cases hz : Dia.wAt (l - 161).toNat (b - 161).toNat = 0
      · rw [if_pos hz, hz]; rfl
      · rw [if_neg hz, decide_eq_true hz]
/-- Bytes -/
theorem Dia.revl_wan_bd (p : Int) (h : (Dia.revl Dia.wanL p).2 = true) : 0 ≤ (Dia.revl Dia.wanL p).1 ∧ (Dia.revl Dia.wanL p).1 < 1128 := by
  have hk : ∀ q ∈ Dia.wanL, 0 ≤ q.1 ∧ q.1 < 1128 := by decide +kernel
  unfold Dia.revl at *
  split
  · rename_i q e
    exact hk q (List.mem_of_find?_eq_some e)
  · rename_i e
    rw [e] at h
    cases h
set_option maxRecDepth 100000 in
set_option maxHeartbeats 1000000 in
theorem Tryd.c_wBytes_rows (p : Int) (w : World) (h : p < 44032 ∨ 55204 ≤ p) (hT : Tryd.Tabs w) :
    Calls Tryd.prog 17 #[.int .i32 p] w fun e w' => e = .returned (.tuple #[.string ⟨(Dia.wbytes p).1.toArray⟩, .bool (Dia.wbytes p).2]) ∧ Below w.heap.size w w' := by
  have HR := Aid.Hid2.mk (Tryd.c_Rank_no p w h)
  have hbd := Dia.revl_wan_bd p
  have HTB : Aid.Hid2 (∀ w1, Below w.heap.size w w1 → _) := ⟨fun w1 hb => Tryd.c_wtable w1 (hT.below hb)⟩
  have HV : Aid.Hid2 (∀ w1 a cap ls, Dia.T w1 a cap ls Dia.wanL → _) := ⟨fun w1 a cap ls ht => Tryd.t_Reverse' (a := a) (cap := cap) (ls := ls) p w1 ht⟩
  generalize hD : Dia.wbytes p = D
  unfold Dia.wbytes at hD
  rw [if_neg (by omega)] at hD
  generalize Dia.revl Dia.wanL p = rv at *
  obtain ⟨k, ok⟩ := rv
  simp only at hbd hD HV
  cases ok with
  | false =>
    rw [if_neg (by decide)] at hD
    subst hD
    clear hbd h
    go_enter Tryd.func17, Tryd.ntmps17
    go_wp2_with fail
    refine HR.out.mono ?_
    rintro e w1 ⟨rfl, hb1⟩
    go_wp2_with fail
    refine (HTB.out _ hb1).mono ?_
    rintro e w2 ⟨ls, hl1, x, cp, rfl, ht, hb2⟩
    go_wp2_with fail
    refine (HV.out _ _ _ _ ht).mono ?_
    rintro e w3 ⟨rfl, hb3⟩
    go_wp2
    go_ret2
    exact ⟨rfl, Aid.bt (Aid.bt hb1 hb2) hb3⟩
  | true =>
    obtain ⟨k0, k1⟩ := hbd rfl
    rw [if_pos rfl] at hD
    have HW := Aid.Hid2.mk (fun w1 => Tryd.c_wtwo (161 + k / 94) (161 + k % 94) w1 ⟨by omega, by omega⟩ ⟨by omega, by omega⟩)
    have HDD := Aid.Hid2.mk hD
    clear hbd h hD
    go_enter Tryd.func17, Tryd.ntmps17
    go_wp2_with fail
    refine HR.out.mono ?_
    rintro e w1 ⟨rfl, hb1⟩
    go_wp2_with fail
    refine (HTB.out _ hb1).mono ?_
    rintro e w2 ⟨ls, hl1, x, cp, rfl, ht, hb2⟩
    go_wp2_with fail
    refine (HV.out _ _ _ _ ht).mono ?_
    rintro e w3 ⟨rfl, hb3⟩
    go_wp2_with fail
    refine (HW.out _).mono ?_
    rintro e w4 ⟨rfl, hb4⟩
    go_wp2
    go_ret2
    rw [← HDD.out]
    exact ⟨rfl, Aid.bt (Aid.bt (Aid.bt hb1 hb2) hb3) hb4⟩
theorem Tryd.c_wBytes (p : Int) (w : World) (hT : Tryd.Tabs w) :
    Calls Tryd.prog 17 #[.int .i32 p] w fun e w' => e = .returned (.tuple #[.string ⟨(Dia.wbytes p).1.toArray⟩, .bool (Dia.wbytes p).2]) ∧ Below w.heap.size w w' := by
  by_cases h : 44032 ≤ p ∧ p ≤ 55203
  · obtain ⟨s, hs⟩ := Int.eq_ofNat_of_zero_le (show 0 ≤ p - 44032 by omega)
    obtain rfl : p = 44032 + (s : Int) := by omega
    have hb := Tryd.c_wBytes_syl s w (by omega)
    have e : Dia.wbytes (44032 + (s : Int)) = (Dia.twoB (Dia.wsyl s).1 (Dia.wsyl s).2, true) := by
      unfold Dia.wbytes
      rw [if_pos h, hs]
      rfl
    rw [e]
    exact hb
  · exact Tryd.c_wBytes_rows p w (by omega) hT
def Dia.IsRefSign (l b : Int) (w w' : World) (e : Ending) : Prop := ∃ p : Int, Dia.SgR l b p ∧ e = .returned (.int .i32 p) ∧ Below w.heap.size w w'
set_option maxRecDepth 100000 in
set_option maxHeartbeats 1000000 in
theorem Tryd.c_wRefSign (l b : Int) (w : World) (hl : 0 ≤ l ∧ l ≤ 255) (hb : 0 ≤ b ∧ b ≤ 255) :
    Calls Tryd.prog 16 #[.int .i64 l, .int .i64 b] w fun e w' => Dia.IsRefSign l b w w' e := by
  have HS := Aid.Hid2.mk (Tryd.c_wsecond b w hb)
  have hts := Dia.wtrail_second b
  have HK : Aid.Hid2 (∀ (k : Int) (v : Bool), 0 ≤ k → k ≤ 100000 → Calls Tryd.prog 14 #[.int .i64 k, .bool v] w fun e w' => Dia.IsKth k.toNat v w w' e) := ⟨fun k v h0 h1 => by
    have := Tryd.c_refKth k.toNat v w (by omega)
    rw [Int.toNat_of_nonneg h0] at this
    exact this⟩
  obtain ⟨l0, l1⟩ := hl
  obtain ⟨b0, b1⟩ := hb
  by_cases h0 : Dia.wsecond b < 0 ∨ l < 129 ∨ 254 < l
  · have HP : Aid.Hid2 (Dia.SgR l b 0) := ⟨by unfold Dia.SgR; rw [if_pos h0]⟩
    clear hts HK
    generalize Dia.wsecond b = t at *
    by_cases a1 : t < 0
    · have d1 : decide (t < 0) = true := decide_eq_true a1
      clear h0
      go_enter Tryd.func16, Tryd.ntmps16
      go_wp2_with fail
      refine HS.out.mono ?_
      rintro e w1 ⟨rfl, rfl⟩
      go_wp2
      go_ret
      exact ⟨0, HP.out, rfl, Below.refl _ _⟩
    · have d1 : decide (t < 0) = false := decide_eq_false a1
      by_cases a2 : l < 129
      · have d2 : decide (l < 129) = true := decide_eq_true a2
        clear h0
        go_enter Tryd.func16, Tryd.ntmps16
        go_wp2_with fail
        refine HS.out.mono ?_
        rintro e w1 ⟨rfl, rfl⟩
        go_wp2
        go_ret
        exact ⟨0, HP.out, rfl, Below.refl _ _⟩
      · have d2 : decide (l < 129) = false := decide_eq_false a2
        have d3 : decide (254 < l) = true := decide_eq_true (by omega)
        clear h0
        go_enter Tryd.func16, Tryd.ntmps16
        go_wp2_with fail
        refine HS.out.mono ?_
        rintro e w1 ⟨rfl, rfl⟩
        go_wp2
        go_ret
        exact ⟨0, HP.out, rfl, Below.refl _ _⟩
  · have a1 : ¬ Dia.wsecond b < 0 := fun h => h0 (.inl h)
    have a2 : ¬ l < 129 := fun h => h0 (.inr (.inl h))
    have a3 : ¬ 254 < l := fun h => h0 (.inr (.inr h))
    have d1 : decide (Dia.wsecond b < 0) = false := decide_eq_false a1
    have d2 : decide (l < 129) = false := decide_eq_false a2
    have d3 : decide (254 < l) = false := decide_eq_false a3
    have s1 : Dia.wsecond b ≤ 177 := by
      rcases hts with ⟨h, _⟩ | ⟨_, h, _⟩
      · omega
      · exact h
    have hb255 : b ≠ 255 := by rintro rfl; exact a1 (by decide)
    by_cases h1 : l < 161
    · have HP : Aid.Hid2 (∀ p, Dia.KthIs ((l - 129) * 178 + Dia.wsecond b).toNat false p → Dia.SgR l b p) := ⟨fun p h => by unfold Dia.SgR; rw [if_neg h0, if_pos h1]; exact h⟩
      have HKK := Aid.Hid2.mk (HK.out ((l - 129) * 178 + Dia.wsecond b) false (by omega) (by omega))
      have d4 : decide (l < 161) = true := decide_eq_true h1
      clear h0 hts HK
      generalize Dia.wsecond b = t at *
      go_enter Tryd.func16, Tryd.ntmps16
      go_wp2_with fail
      refine HS.out.mono ?_
      rintro e w1 ⟨rfl, rfl⟩
      go_wp2_with fail
      refine HKK.out.mono ?_
      rintro e w1 ⟨p, hp, rfl, rfl⟩
      have HPP := Aid.Hid2.mk (HP.out p hp)
      clear hp
      go_wp2
      go_ret
      exact ⟨p, HPP.out, rfl, Below.refl _ _⟩
    · have d4 : decide (l < 161) = false := decide_eq_false h1
      by_cases h2 : b < 161
      · have HP : Aid.Hid2 (∀ p, Dia.KthIs (5696 + (l - 161) * 84 + Dia.wsecond b).toNat false p → Dia.SgR l b p) := ⟨fun p h => by unfold Dia.SgR; rw [if_neg h0, if_neg h1, if_pos h2]; exact h⟩
        have HKK := Aid.Hid2.mk (HK.out (5696 + (l - 161) * 84 + Dia.wsecond b) false (by omega) (by omega))
        have d5 : decide (b < 161) = true := decide_eq_true h2
        clear h0 hts HK
        generalize Dia.wsecond b = t at *
        go_enter Tryd.func16, Tryd.ntmps16
        go_wp2_with fail
        refine HS.out.mono ?_
        rintro e w1 ⟨rfl, rfl⟩
        go_wp2_with fail
        refine HKK.out.mono ?_
        rintro e w1 ⟨p, hp, rfl, rfl⟩
        have HPP := Aid.Hid2.mk (HP.out p hp)
        clear hp
        go_wp2
        go_ret
        exact ⟨p, HPP.out, rfl, Below.refl _ _⟩
      · have d5 : decide (b < 161) = false := decide_eq_false h2
        by_cases h3 : 176 ≤ l ∧ l ≤ 200
        · have HP : Aid.Hid2 (∀ p, Dia.KthIs ((l - 176) * 94 + b - 161).toNat true p → Dia.SgR l b p) := ⟨fun p h => by unfold Dia.SgR; rw [if_neg h0, if_neg h1, if_neg h2, if_pos h3]; exact h⟩
          have HKK := Aid.Hid2.mk (HK.out ((l - 176) * 94 + b - 161) true (by omega) (by omega))
          obtain ⟨h4, h5⟩ := h3
          have d6 : decide (176 ≤ l) = true := decide_eq_true h4
          have d7 : decide (l ≤ 200) = true := decide_eq_true h5
          clear h0 hts HK
          generalize Dia.wsecond b = t at *
          go_enter Tryd.func16, Tryd.ntmps16
          go_wp2_with fail
          refine HS.out.mono ?_
          rintro e w1 ⟨rfl, rfl⟩
          go_wp2_with fail
          refine HKK.out.mono ?_
          rintro e w1 ⟨p, hp, rfl, rfl⟩
          have HPP := Aid.Hid2.mk (HP.out p hp)
          clear hp
          go_wp2
          go_ret
          exact ⟨p, HPP.out, rfl, Below.refl _ _⟩
        · have HP : Aid.Hid2 (Dia.SgR l b (Dia.wAt (l - 161).toNat (b - 161).toNat)) := ⟨by unfold Dia.SgR; rw [if_neg h0, if_neg h1, if_neg h2, if_neg h3]⟩
          have HRW : Aid.Hid2 (∀ w1, Calls Tryd.prog 20 #[.int .i64 l, .int .i64 b] w1 fun e w' => e = .returned (.int .i32 (Dia.wAt (l - 161).toNat (b - 161).toNat)) ∧ Below w1.heap.size w1 w') := ⟨fun w1 => by
            have := Tryd.c_Row (l - 161).toNat (b - 161).toNat w1 (by omega) (by omega)
            have f1 : 161 + ((l - 161).toNat : Int) = l := by omega
            have f2 : 161 + ((b - 161).toNat : Int) = b := by omega
            rw [f1, f2] at this
            exact this⟩
          have h6 : 176 ≤ l → 200 < l := fun h => by omega
          clear h0 hts HK h3
          generalize Dia.wsecond b = t at *
          by_cases h7 : 176 ≤ l
          · have d6 : decide (176 ≤ l) = true := decide_eq_true h7
            have h8 := h6 h7
            have d7 : decide (l ≤ 200) = false := decide_eq_false (by omega)
            clear h6
            go_enter Tryd.func16, Tryd.ntmps16
            go_wp2_with fail
            refine HS.out.mono ?_
            rintro e w1 ⟨rfl, rfl⟩
            go_wp2_with fail
            refine (HRW.out _).mono ?_
            rintro e w1 ⟨rfl, hb1⟩
            go_wp2
            go_ret
            exact ⟨_, HP.out, rfl, hb1⟩
          · have d6 : decide (176 ≤ l) = false := decide_eq_false h7
            clear h6
            go_enter Tryd.func16, Tryd.ntmps16
            go_wp2_with fail
            refine HS.out.mono ?_
            rintro e w1 ⟨rfl, rfl⟩
            go_wp2_with fail
            refine (HRW.out _).mono ?_
            rintro e w1 ⟨rfl, hb1⟩
            go_wp2
            go_ret
            exact ⟨_, HP.out, rfl, hb1⟩
end Go.Proofs
