/- the laws of layer 3, walked: WideReads, WideWrites -/
import Derived.Test.YteacefgmpkpkpaaDoorL03
namespace Go.Proofs
open Go.RowKit

theorem Tryd.c_Fault_no (w : World) : Calls Tryd.prog 10 #[.int .i64 (-1)] w fun e w' => e = .returned (.agg #[.int .i64 0, .int .i64 0]) ∧ Below w.heap.size w w' :=
  (Tryd.c_Fault (-1) w).mono fun e w' ⟨a, b, h1, ⟨h2, h3⟩, h4⟩ => ⟨by rw [h1, h2, h3]; rfl, h4⟩
theorem Tryd.c_Fault_at (x : Int) (w : World) (hx : 0 ≤ x) : Calls Tryd.prog 10 #[.int .i64 x] w fun e w' => e = .returned (.agg #[.int .i64 2, .int .i64 x]) ∧ Below w.heap.size w w' :=
  (Tryd.c_Fault x w).mono fun e w' ⟨a, b, h1, ⟨h2, h3⟩, h4⟩ => ⟨by rw [h1, h2, h3, if_neg (by omega), if_neg (by omega)], h4⟩
/-- what is decoded is encoded as it was -/
theorem Dia.wpts_back (big : Bool) (l : List UInt8) (h : (Dia.wpts big l).2 = -1) : (∀ p ∈ (Dia.wpts big l).1, Dia.sc p = true) ∧ Dia.wens big (Dia.wpts big l).1 = l ∧ (Dia.wpts big l).1.length ≤ l.length := by
  rcases (Dia.wcoded big).cases l with ⟨ps, h1, h2, h3⟩ | ⟨ps, r, h1, h2, h3, h4, h5⟩
  · have e : Dia.wpts big l = (ps, -1) := h3
    rw [e]
    refine ⟨h1, h2.symm, ?_⟩
    have := (Dia.wcoded big).len_ge ps h1
    rw [← h2] at this
    exact this
  · have e : Dia.wpts big l = ([], ((Dia.gens (Dia.wen big) ps).length : Int)) := h5
    rw [e] at h
    simp at h
theorem Dia.str_self (s : ByteArray) : (⟨s.data.toList.toArray⟩ : ByteArray) = s := rfl

set_option maxRecDepth 100000 in
set_option maxHeartbeats 1000000 in
theorem Tryd.w_WideReads (s : ByteArray) (big : Bool) (w : World) (hT : Tryd.Tabs w) (_wx : s.size ≤ 9223372036854775807) :
    Calls Tryd.prog 3 #[.string s, .bool big] w fun e w' => e = .returned (.bool true) ∧ Below w.heap.size w w' := by
  by_cases hlen : s.size ≤ 2000
  · have hs6 : s.size ≤ 1000000 := by omega
    have hsl : s.data.toList.length = s.size := rfl
    rcases Dia.wpts_cases big s.data.toList with hw | ⟨hw0, hw1, hw2⟩
    · obtain ⟨g1, g2, g3⟩ := Dia.wpts_back big s.data.toList hw
      have hel := Dia.encs_le (Dia.wpts big s.data.toList).1
      obtain ⟨t, ht⟩ : ∃ t : ByteArray, t = ⟨(Dia.encs (Dia.wpts big s.data.toList).1).toArray⟩ := ⟨_, rfl⟩
      have htl : t.data.toList = Dia.encs (Dia.wpts big s.data.toList).1 := by rw [ht]
      have hts : t.size ≤ 100000 := by
        have : t.size = t.data.toList.length := rfl
        rw [this, htl]; omega
      have HD : Aid.Hid2 (∀ w, Calls Tryd.prog 8 #[.string s, .bool big] w fun e w' => e = .returned (.tuple #[.string t, .agg #[.int .i64 0, .int .i64 0]]) ∧ Below w.heap.size w w') :=
        ⟨fun w => (Tryd.c_Decode s big w hs6).mono fun e w' h => by
          unfold Dia.IsDecode at h
          rw [hw, ← ht] at h
          obtain ⟨a, b, h1, ⟨h3, h4⟩, h5⟩ := h
          exact ⟨by rw [h1, h3, h4]; rfl, h5⟩⟩
      have HR : Aid.Hid2 (∀ w, Calls Tryd.prog 9 #[.string s, .bool big] w fun e w' => e = .returned (.tuple #[.string t, .int .i64 (-1)]) ∧ Below w.heap.size w w') :=
        ⟨fun w => (Tryd.c_refDecode s big w hs6).mono fun e w' h => by
          unfold Dia.IsRefDecode at h
          rw [hw, ← ht] at h
          exact h⟩
      have HE : Aid.Hid2 (∀ w, Tryd.Tabs w → Calls Tryd.prog 11 #[.string t, .bool big] w fun e w' => e = .returned (.tuple #[.string s, .agg #[.int .i64 0, .int .i64 0]]) ∧ Below w.heap.size w w') :=
        ⟨fun w hT => (Tryd.c_Encode t big w hts hT).mono fun e w' h => by
          unfold Dia.IsEncode at h
          rw [htl, Dia.pts_ok _ g1, g2] at h
          obtain ⟨a, b, h1, ⟨h3, h4⟩, h5⟩ := h
          exact ⟨by rw [h1, h3, h4]; rfl, h5⟩⟩
      clear hw g1 g2 g3 hel ht htl hts hsl
      go_enter Tryd.func3, Tryd.ntmps3
      go_wp2_with (first
        | (go_at_call 8; refine (HD.out _).mono ?_; rintro e w1 ⟨rfl, hb1⟩)
        | (go_at_call 9; refine (HR.out _).mono ?_; rintro e w2 ⟨rfl, hb2⟩))
      have hb2' := hb2.mono (show w1.heap.size + 1 ≤ _ by simp)
      obtain ⟨c0, c1, _, _⟩ := Aid.cells2 hb2'
      have hB2 : Below w.heap.size w w2 := hb1.trans (Aid.below_new hb2' hb1.size)
      have hT2 := hT.below hB2
      clear hb2
      go_region_held3 (fun w' => w'.cell? ⟨w1.heap.size, 0, none⟩ = some (.int .i64 0) ∧ w'.cell? ⟨w1.heap.size, 1, none⟩ = some (.int .i64 0) ∧ Below w2.heap.size w2 w')
        (first | exact ⟨c0, c1, (Below.refl _ _).drew⟩ | (go_split_ands; exact ⟨Aid.cell_ext (Aid.bt (by assumption) hbx) c0, Aid.cell_ext (Aid.bt (by assumption) hbx) c1, Aid.bt (by assumption) hbx⟩))
        (first
          | (go_at_call 10; refine (Tryd.c_Fault_no _).mono ?_; rintro e wx ⟨rfl, hbx⟩))
      go_split_ands
      rename_i w3 _ _ hb3
      go_wp2_with (first
        | (go_at_call 11; refine (HE.out _ (hT2.below hb3)).mono ?_; rintro e w4 ⟨rfl, hb4⟩)
        | (go_at_call 7; refine (Tryd.c_awake03 _ (((hT2.below hb3).below hb4).below ((Below.refl _ _).alloc (Nat.le_refl _) _))).mono ?_; rintro e w5 ⟨rfl, hb5⟩; have hb5' := hb5.mono (show w4.heap.size + 1 ≤ _ by simp); obtain ⟨d0, d1, _, _⟩ := Aid.cells2 hb5')
        | (go_at_call 12; refine (Tryd.c_Bad_no _ _).mono ?_; rintro e w6 ⟨rfl, hb6⟩))
      go_ret
      exact ⟨rfl, Aid.bt (Aid.bt (Aid.bt (Aid.bt hB2 hb3) hb4) (Aid.below_new hb5' (Nat.le_refl _))) hb6⟩
    · have HD : Aid.Hid2 (∀ w, Calls Tryd.prog 8 #[.string s, .bool big] w fun e w' => e = .returned (.tuple #[.string ⟨#[]⟩, .agg #[.int .i64 2, .int .i64 (Dia.wpts big s.data.toList).2]]) ∧ Below w.heap.size w w') :=
        ⟨fun w => (Tryd.c_Decode s big w hs6).mono fun e w' h => by
          unfold Dia.IsDecode at h
          rw [hw0] at h
          obtain ⟨a, b, h1, ⟨h3, h4⟩, h5⟩ := h
          exact ⟨by rw [h1, h3, h4, if_neg (by omega), if_neg (by omega)]; rfl, h5⟩⟩
      have HR : Aid.Hid2 (∀ w, Calls Tryd.prog 9 #[.string s, .bool big] w fun e w' => e = .returned (.tuple #[.string ⟨#[]⟩, .int .i64 (Dia.wpts big s.data.toList).2]) ∧ Below w.heap.size w w') :=
        ⟨fun w => (Tryd.c_refDecode s big w hs6).mono fun e w' h => by
          unfold Dia.IsRefDecode at h
          rw [hw0] at h
          exact h⟩
      clear hw0 hw2 hsl
      generalize (Dia.wpts big s.data.toList).2 = P at *
      go_enter Tryd.func3, Tryd.ntmps3
      go_wp2_with (first
        | (go_at_call 8; refine (HD.out _).mono ?_; rintro e w1 ⟨rfl, hb1⟩)
        | (go_at_call 9; refine (HR.out _).mono ?_; rintro e w2 ⟨rfl, hb2⟩))
      have hb2' := hb2.mono (show w1.heap.size + 1 ≤ _ by simp)
      obtain ⟨c0, c1, _, _⟩ := Aid.cells2 hb2'
      have hB2 : Below w.heap.size w w2 := hb1.trans (Aid.below_new hb2' hb1.size)
      have hT2 := hT.below hB2
      clear hb2
      go_region_held3 (fun w' => w'.cell? ⟨w1.heap.size, 0, none⟩ = some (.int .i64 2) ∧ w'.cell? ⟨w1.heap.size, 1, none⟩ = some (.int .i64 P) ∧ Below w2.heap.size w2 w')
        (first | exact ⟨c0, c1, (Below.refl _ _).drew⟩ | (go_split_ands; exact ⟨Aid.cell_ext (Aid.bt (by assumption) hbx) c0, Aid.cell_ext (Aid.bt (by assumption) hbx) c1, Aid.bt (by assumption) hbx⟩))
        (first
          | (go_at_call 10; refine (Tryd.c_Fault_at P _ hw1).mono ?_; rintro e wx ⟨rfl, hbx⟩))
      go_split_ands
      rename_i w3 _ _ hb3
      go_wp2_with (go_at_call 7; refine (Tryd.c_awake03 _ (hT2.below hb3)).mono ?_; rintro e w5 ⟨rfl, hb5⟩)
      go_ret
      exact ⟨rfl, Aid.bt (Aid.bt hB2 hb3) hb5⟩
  · have hgt : (2000 : Int) < (s.size : Int) := by omega
    go_enter Tryd.func3, Tryd.ntmps3
    go_wp2_with (go_at_call 7; refine (Tryd.c_awake03 _ hT).mono ?_; rintro e w2 ⟨rfl, hb2⟩)
    go_ret
    exact ⟨rfl, hb2⟩
end Go.Proofs
