/- the laws of layer 7, walked: the document's example, WansungRanks, WansungPlaces -/
import Derived.Test.YtoaojojapebamaaGreatDoorM31
namespace Go.Proofs
open Go.RowKit

set_option maxRecDepth 100000 in
theorem Dia.aw7_0 : Dia.inB 0 = true ∧ Dia.inB 1 = true ∧ Dia.inB 11171 = false := by decide +kernel
theorem Dia.aw7_1 : Dia.CB true 1 = 1 := by
  have := Dia.CB_succ true 0
  rw [Dia.aw7_0.1] at this
  rw [this]; rfl
theorem Dia.aw7_2 : Dia.CB false 11171 = 8821 := by
  have := Dia.CB_succ false 11171
  rw [Dia.aw7_0.2.2, if_pos rfl, Dia.CB_all] at this
  simp only [Bool.false_eq_true, if_false] at this
  omega
theorem Dia.aw7_3 : Dia.twoB (Dia.wsyl 11171).1 (Dia.wsyl 11171).2 = [198, 82] := by
  unfold Dia.wsyl
  rw [Dia.aw7_0.2.2, Dia.aw7_2]
  decide
set_option maxRecDepth 100000 in
set_option maxHeartbeats 1000000 in
theorem Tryz.c_Awake07 (w : World) (hT : Tryz.Tab32 w) :
    Calls Tryz.prog 15 #[] w fun e w' => e = .returned (.bool true) ∧ Below w.heap.size w w' := by
  have HS : Aid.Hid2 (Calls Tryz.prog 35 #[.int .u8 176, .int .u8 162] w fun e w' => e = .returned (.tuple #[.int .i32 44033, .bool true]) ∧ Below w.heap.size w w') := ⟨by
    refine (Tryz.c_wSign_c 176 162 w (by decide) (by decide) hT).mono ?_
    rintro e w1 ⟨p, ok, hp, rfl, hb1⟩
    obtain ⟨rfl, rfl⟩ := Dia.PlaceIs.at (k := 1) (N := 1) hp (by decide) Dia.aw7_0.2.1 Dia.aw7_1
    exact ⟨rfl, hb1⟩⟩
  have HB : Aid.Hid2 (∀ w1, Calls Tryz.prog 36 #[.int .i32 55203] w1 fun e w' => e = .returned (.tuple #[.string ⟨#[198, 82]⟩, .bool true]) ∧ Below w1.heap.size w1 w') := ⟨fun w1 => by
    have := Tryz.c_wBytes_syl 11171 w1 (by decide)
    rw [Dia.aw7_3] at this
    exact this⟩
  go_enter Tryz.func15, Tryz.ntmps15
  go_wp2_with fail
  refine HS.out.mono ?_
  rintro e w1 ⟨rfl, hb1⟩
  go_wp2_with fail
  refine (HB.out _).mono ?_
  rintro e w2 ⟨rfl, hb2⟩
  go_wp2
  go_ret
  exact ⟨rfl, Aid.bt hb1 hb2⟩
theorem Dia.PlaceIs.out {k p : Int} {b ok : Bool} (h : Dia.PlaceIs k b p ok) (hk : k < 0 ∨ 8822 ≤ k) : ok = false ∧ p = 0 := by
  unfold Dia.PlaceIs at h
  rw [if_neg (by cases b <;> simp <;> omega)] at h
  exact h
theorem Dia.PlaceIs.ref {k : Nat} {p q : Int} {b ok : Bool} (h : Dia.PlaceIs k b p ok) (hq : Dia.KthIs k b q) : p = q ∧ ok = decide (q ≠ 0) ∧ ok = decide ((k : Int) < if b then 2350 else 8822) := by
  unfold Dia.PlaceIs at h
  by_cases hk : (k : Int) < if b then 2350 else 8822
  · rw [if_pos ⟨by omega, hk⟩] at h
    obtain ⟨rfl, h2⟩ := h
    have h3 : Dia.KthIs k b p := h2
    have e := h3.uniq hq
    refine ⟨e, ?_, by simp [hk]⟩
    rcases hq with ⟨N, _, _, _, rfl⟩ | ⟨hq, _⟩
    · simp; omega
    · rw [Dia.CB_all] at hq
      cases b <;> simp at hk hq <;> omega
  · rw [if_neg (by rintro ⟨_, h⟩; exact hk h)] at h
    obtain ⟨rfl, rfl⟩ := h
    rcases hq with ⟨N, n0, n1, n2, rfl⟩ | ⟨hq, rfl⟩
    · have := Dia.KthIs.lt n0 n1 n2
      rw [Dia.CB_all] at this
      cases b <;> simp at hk this <;> omega
    · simp [hk]
end Go.Proofs
