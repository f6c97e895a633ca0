/- the laws of layer 3, walked: WideBack -/
import Derived.Test.YteacefgmpkpkpaaDoorL03b
namespace Go.Proofs
open Go.RowKit

/-- how many bytes a text behind a mark has -/
def Dia.wlen : List Int → Nat
  | [] => 0
  | p :: ps => (if 65536 ≤ p then 4 else 2) + Dia.wlen ps
theorem Dia.wlen_snoc : ∀ (ps : List Int) (p : Int), Dia.wlen (ps ++ [p]) = Dia.wlen ps + (if 65536 ≤ p then 4 else 2)
  | [], p => by simp [Dia.wlen]
  | q :: ps, p => by
    have := Dia.wlen_snoc ps p
    rw [List.cons_append, Dia.wlen, Dia.wlen, this]; omega
theorem Dia.wens_wlen (big : Bool) : ∀ (ps : List Int), (Dia.wens big ps).length = Dia.wlen ps
  | [] => rfl
  | p :: ps => by
    have h1 := Dia.wens_wlen big ps
    have h2 := Dia.wen_len big p
    unfold Dia.wens at *
    rw [Dia.gens_cons, List.length_append, h1, h2, Dia.wlen]
    split <;> split <;> omega
theorem Dia.wlen_le : ∀ (ps : List Int), Dia.wlen ps ≤ 4 * ps.length
  | [] => by simp [Dia.wlen]
  | p :: ps => by
    have := Dia.wlen_le ps
    rw [Dia.wlen, List.length_cons]; split <;> omega
theorem Dia.marked_with (ps : List Int) (h : ∀ p ∈ ps, Dia.sc p = true) : Dia.marked ([255, 254] ++ Dia.wens false ps) = (ps, -1) := by
  have hm : Dia.mark ([255, 254] ++ Dia.wens false ps) = (false, true) := by
    simp only [List.cons_append, List.nil_append, Dia.mark]
    decide
  unfold Dia.marked
  rw [if_neg (by simp), hm, if_neg (by simp)]
  have hd : ([255, 254] ++ Dia.wens false ps : List UInt8).drop 2 = Dia.wens false ps := rfl
  simp only [hd, Dia.wpts_ok false ps h]
  rfl

set_option maxRecDepth 100000 in
set_option maxHeartbeats 1000000 in
theorem Tryd.w_WideBack (s : ByteArray) (w : World) (hT : Tryd.Tabs w) (_wx : s.size ≤ 9223372036854775807) :
    Calls Tryd.prog 6 #[.string s] w fun e w' => e = .returned (.bool true) ∧ Below w.heap.size w w' := by
  by_cases hlen : s.size ≤ 2000
  · have hs6 : s.size ≤ 1000000 := by omega
    have hsl : s.data.toList.length = s.size := rfl
    rcases Dia.pts_end s.data.toList with hw | ⟨hw0, hw1, hw2⟩
    · obtain ⟨g1, g2⟩ := Dia.pts_back s.data.toList hw
      have hpl := Dia.pts_len s.data.toList
      obtain ⟨P, hP⟩ : ∃ P, P = (Dia.pts s.data.toList).1 := ⟨_, rfl⟩
      obtain ⟨t, ht⟩ : ∃ t : ByteArray, t = ⟨([255, 254] ++ Dia.wens false P).toArray⟩ := ⟨_, rfl⟩
      have hwm : Dia.withMark s.data.toList = [255, 254] ++ Dia.wens false P := by
        unfold Dia.withMark
        rw [hw, ← hP, if_pos (by decide)]
      have htl : t.data.toList = [255, 254] ++ Dia.wens false P := by rw [ht]
      have hwl := Dia.wlen_le P
      have htn : t.size = Dia.wlen P + 2 := by
        have : t.size = t.data.toList.length := rfl
        rw [this, htl, List.length_append, Dia.wens_wlen]
        simp; omega
      rw [← hP] at g1 g2 hpl
      have hts : t.size ≤ 1000000 := by omega
      have HR : Aid.Hid2 (∀ w, Calls Tryd.prog 13 #[.string s] w fun e w' => ∃ (aa : Option Addr) (ca : Nat), e = .returned (.tuple #[.slice aa P.length ca, .int .i64 (-1)]) ∧ Aid.RowAt w' aa (P.map Dia.rv) ∧ Below w.heap.size w w') :=
        ⟨fun w => (Tryd.c_refPoints s w hs6).mono fun e w' h => by
          unfold Dia.IsRefPoints at h
          rw [hw, ← hP] at h
          exact h⟩
      have HW : Aid.Hid2 (∀ w, Tryd.Tabs w → Calls Tryd.prog 17 #[.string s] w fun e w' => e = .returned (.tuple #[.string t, .agg #[.int .i64 0, .int .i64 0]]) ∧ Below w.heap.size w w') :=
        ⟨fun w hT => (Tryd.c_WithMark s w (by omega) hT).mono fun e w' h => by
          unfold Dia.IsWithMark at h
          rw [hw, hwm, ← ht] at h
          obtain ⟨a, b, h1, ⟨h3, h4⟩, h5⟩ := h
          exact ⟨by rw [h1, h3, h4]; rfl, h5⟩⟩
      have HM : Aid.Hid2 (∀ w, Calls Tryd.prog 16 #[.string t] w fun e w' => e = .returned (.tuple #[.string s, .agg #[.int .i64 0, .int .i64 0]]) ∧ Below w.heap.size w w') :=
        ⟨fun w => (Tryd.c_Marked t w hts).mono fun e w' h => by
          unfold Dia.IsMarked at h
          rw [htl, Dia.marked_with P g1] at h
          obtain ⟨a, b, h1, ⟨h3, h4⟩, h5⟩ := h
          simp only [g2] at h1
          exact ⟨by rw [h1, h3, h4]; rfl, h5⟩⟩
      have HTN := Aid.Hid2.mk htn
      have hpl' : P.length ≤ s.size := by omega
      clear hw g1 g2 ht htl hts hsl hwl hP hwm htn hpl
      go_enter Tryd.func6, Tryd.ntmps6
      go_wp2_with (first
        | (go_at_call 13; refine (HR.out _).mono ?_; rintro e w1 ⟨aa, ca, rfl, hr1, hb1⟩)
        | (go_at_call 17; refine (HW.out _ (hT.below hb1)).mono ?_; rintro e w2 ⟨rfl, hb2⟩))
      have hr2 := (hr1.below hb2).below ((Below.refl _ _).alloc (Nat.le_refl _) (.cells #[.int .i64 0, .int .i64 0] 25))
      go_loop [7, 9, 41] (fun n _ i => ∃ k : Nat, k ≤ P.length ∧ i = .int .i64 k ∧ n = .int .i64 ((Dia.wlen (P.take k) + 2 : Nat) : Int)) (fun _ _ i => P.length - (intOf i).toNat)
      case atStart => exact ⟨0, Nat.zero_le _, rfl, rfl⟩
      case round =>
        obtain ⟨k, hk, rfl, rfl⟩ := hrel
        have hlk := Dia.wlen_le (P.take k)
        have htk : (P.take k).length ≤ k := List.length_take_le _ _
        by_cases hlt : k < P.length
        · have ht := Dia.take_snoc P k hlt
          obtain ⟨b, off, rfl, hcell⟩ := hr2.get (k := k) (by simpa using hlt)
          simp only [List.getElem_map, Dia.rv] at hcell
          generalize P[k] = q at *
          have hs := Dia.wlen_snoc (P.take k) q
          rw [← ht] at hs
          have HS := Aid.Hid2.mk hs
          clear ht hs
          by_cases hq : 65536 ≤ q
          · have HS2 : Aid.Hid2 (Dia.wlen (P.take (k + 1)) = Dia.wlen (P.take k) + 4) := ⟨by rw [HS.out, if_pos hq]⟩
            go_wp2
            go_round
            case rel => exact ⟨k + 1, by omega, by go_num, by rw [HS2.out]; go_num⟩
            case measure => simp [intOf]; omega
          · have HS2 : Aid.Hid2 (Dia.wlen (P.take (k + 1)) = Dia.wlen (P.take k) + 2) := ⟨by rw [HS.out, if_neg hq]⟩
            have hq' : q < 65536 := by omega
            go_wp2
            go_round
            case rel => exact ⟨k + 1, by omega, by go_num, by rw [HS2.out]; go_num⟩
            case measure => simp [intOf]; omega
        · have e : P.take k = P := List.take_of_length_le (by omega)
          rw [e]
          have hTN : ((t.size : Int) == (Dia.wlen P : Int) + 2) = true := by rw [HTN.out]; simp
          go_wp2_with (first
            | (go_at_call 16; refine (HM.out _).mono ?_; rintro e w3 ⟨rfl, hb3⟩; have hb3' := hb3.mono (show w2.heap.size + 1 ≤ _ by simp))
            | (go_at_call 7; refine (Tryd.c_awake03 _ ((((hT.below hb1).below hb2).below (Aid.below_new hb3' (Nat.le_refl _))).below ((Below.refl _ _).alloc (Nat.le_refl _) _))).mono ?_; rintro e w4 ⟨rfl, hb4⟩; have hb4' := hb4.mono (show w3.heap.size + 1 ≤ _ by simp); obtain ⟨d0, d1, _, _⟩ := Aid.cells2 hb4'; have hb24 := hb3'.trans (Aid.below_new hb4' (Aid.new_lt hb3')); obtain ⟨c0, c1, _, _⟩ := Aid.cells2 hb24)
            | (go_at_call 12; with_reducible refine (Tryd.c_Bad_no _ w4).mono ?_; rintro e w5 ⟨rfl, hb5⟩; have d0' := Aid.cell_ext hb5 d0; have d1' := Aid.cell_ext hb5 d1)
            | (go_at_call 12; refine (Tryd.c_Bad_no _ _).mono ?_; rintro e w6 ⟨rfl, hb6⟩))
          go_ret
          exact ⟨rfl, Aid.bt (Aid.bt (Aid.bt (Aid.bt (Aid.bt hb1 hb2) (Aid.below_new hb3' (Nat.le_refl _))) (Aid.below_new hb4' (Nat.le_refl _))) hb5) hb6⟩
    · have HR : Aid.Hid2 (∀ w, Calls Tryd.prog 13 #[.string s] w fun e w' => ∃ (aa : Option Addr) (ca : Nat), e = .returned (.tuple #[.slice aa 0 ca, .int .i64 (Dia.pts s.data.toList).2]) ∧ Below w.heap.size w w') :=
        ⟨fun w => (Tryd.c_refPoints s w hs6).mono fun e w' h => by
          unfold Dia.IsRefPoints at h
          rw [hw0] at h
          obtain ⟨aa, ca, h1, h2, h3⟩ := h
          exact ⟨aa, ca, h1, h3⟩⟩
      have hwm : Dia.withMark s.data.toList = [] := by
        unfold Dia.withMark
        rw [if_neg (by omega)]
      have HW : Aid.Hid2 (∀ w, Tryd.Tabs w → Calls Tryd.prog 17 #[.string s] w fun e w' => e = .returned (.tuple #[.string ⟨#[]⟩, .agg #[.int .i64 2, .int .i64 (Dia.pts s.data.toList).2]]) ∧ Below w.heap.size w w') :=
        ⟨fun w hT => (Tryd.c_WithMark s w (by omega) hT).mono fun e w' h => by
          unfold Dia.IsWithMark at h
          rw [hwm] at h
          obtain ⟨a, b, h1, ⟨h3, h4⟩, h5⟩ := h
          exact ⟨by rw [h1, h3, h4, if_neg (by omega), if_neg (by omega)], h5⟩⟩
      clear hw0 hw2 hsl hwm
      generalize (Dia.pts s.data.toList).2 = P at *
      go_enter Tryd.func6, Tryd.ntmps6
      go_wp2_with (first
        | (go_at_call 13; refine (HR.out _).mono ?_; rintro e w1 ⟨aa, ca, rfl, hb1⟩)
        | (go_at_call 17; refine (HW.out _ (hT.below hb1)).mono ?_; rintro e w2 ⟨rfl, hb2⟩))
      have hB2 := (Aid.bt hb1 hb2).trans ((Below.refl _ _).alloc (by have := hb1.size; have := hb2.size; omega) (.cells #[.int .i64 2, .int .i64 P] 25))
      have hT2 := hT.below hB2
      obtain ⟨c0, c1, _, _⟩ := Aid.cells2 (x := .int .i64 2) (y := .int .i64 P) (T := 25) (Below.refl (w2.heap.size + 1) (w2.alloc (.cells #[.int .i64 2, .int .i64 P] 25)))
      generalize hW2 : w2.alloc (.cells #[.int .i64 2, .int .i64 P] 25) = w2' at *
      go_region_held3 (fun w' => w'.cell? ⟨w2.heap.size, 0, none⟩ = some (.int .i64 2) ∧ w'.cell? ⟨w2.heap.size, 1, none⟩ = some (.int .i64 P) ∧ Below w2'.heap.size w2' w')
        (first | exact ⟨c0, c1, (Below.refl _ _).drew⟩ | (go_split_ands; exact ⟨Aid.cell_ext (Aid.bt (by assumption) hbx) c0, Aid.cell_ext (Aid.bt (by assumption) hbx) c1, Aid.bt (by assumption) hbx⟩))
        (first
          | (go_at_call 10; refine (Tryd.c_Fault_at P _ hw1).mono ?_; rintro e wx ⟨rfl, hbx⟩)
          | (go_at_call 7; go_split_ands; refine (Tryd.c_awake03 _ (hT2.below (by assumption))).mono ?_; rintro e wx ⟨rfl, hbx⟩))
      go_split_ands
      rename_i w3 _ _ hb3
      go_wp2
      go_ret
      exact ⟨rfl, Aid.bt hB2 hb3⟩
  · have hgt : (2000 : Int) < (s.size : Int) := by omega
    go_enter Tryd.func6, Tryd.ntmps6
    go_wp2_with (go_at_call 7; refine (Tryd.c_awake03 _ hT).mono ?_; rintro e w2 ⟨rfl, hb2⟩)
    go_ret
    exact ⟨rfl, hb2⟩
end Go.Proofs
