/- the laws of layer 3, walked: WideWrites -/
import Derived.Test.YteacefgmpkpkpaaDoorL03a
namespace Go.Proofs
open Go.RowKit

theorem Dia.pts_back (l : List UInt8) (h : (Dia.pts l).2 = -1) : (∀ p ∈ (Dia.pts l).1, Dia.sc p = true) ∧ Dia.encs (Dia.pts l).1 = l := by
  rcases Dia.pts_cases l with ⟨ps, h1, h2, h3⟩ | ⟨ps, r, h1, h2, h3, h4, h5⟩
  · rw [h3]; exact ⟨h1, h2.symm⟩
  · rw [h5] at h; simp at h
theorem Dia.wpts_ok (big : Bool) (ps : List Int) (h : ∀ p ∈ ps, Dia.sc p = true) : Dia.wpts big (Dia.wens big ps) = (ps, -1) := (Dia.wcoded big).ok ps h

set_option maxRecDepth 100000 in
set_option maxHeartbeats 1000000 in
theorem Tryd.w_WideWrites (s : ByteArray) (big : Bool) (w : World) (hT : Tryd.Tabs w) (_wx : s.size ≤ 9223372036854775807) :
    Calls Tryd.prog 4 #[.string s, .bool big] w fun e w' => e = .returned (.bool true) ∧ Below w.heap.size w w' := by
  by_cases hlen : s.size ≤ 2000
  · have hs6 : s.size ≤ 1000000 := by omega
    have hsl : s.data.toList.length = s.size := rfl
    rcases Dia.pts_end s.data.toList with hw | ⟨hw0, hw1, hw2⟩
    · obtain ⟨g1, g2⟩ := Dia.pts_back s.data.toList hw
      have hwl := Dia.wens_len big (Dia.pts s.data.toList).1
      have hpl := Dia.pts_len s.data.toList
      obtain ⟨t, ht⟩ : ∃ t : ByteArray, t = ⟨(Dia.wens big (Dia.pts s.data.toList).1).toArray⟩ := ⟨_, rfl⟩
      have htl : t.data.toList = Dia.wens big (Dia.pts s.data.toList).1 := by rw [ht]
      have hts : t.size ≤ 1000000 := by
        have : t.size = t.data.toList.length := rfl
        rw [this, htl]; omega
      have HE : Aid.Hid2 (∀ w, Tryd.Tabs w → Calls Tryd.prog 11 #[.string s, .bool big] w fun e w' => e = .returned (.tuple #[.string t, .agg #[.int .i64 0, .int .i64 0]]) ∧ Below w.heap.size w w') :=
        ⟨fun w hT => (Tryd.c_Encode s big w (by omega) hT).mono fun e w' h => by
          unfold Dia.IsEncode at h
          rw [hw, ← ht] at h
          obtain ⟨a, b, h1, ⟨h3, h4⟩, h5⟩ := h
          exact ⟨by rw [h1, h3, h4]; rfl, h5⟩⟩
      obtain ⟨P, hP⟩ : ∃ P, P = (Dia.pts s.data.toList).1 := ⟨_, rfl⟩
      rw [← hP] at ht htl g1 g2 hpl
      have HR : Aid.Hid2 (∀ w, Calls Tryd.prog 13 #[.string s] w fun e w' => ∃ (aa : Option Addr) (ca : Nat), e = .returned (.tuple #[.slice aa P.length ca, .int .i64 (-1)]) ∧ Aid.RowAt w' aa (P.map Dia.rv) ∧ Below w.heap.size w w') :=
        ⟨fun w => (Tryd.c_refPoints s w hs6).mono fun e w' h => by
          unfold Dia.IsRefPoints at h
          rw [hw, ← hP] at h
          exact h⟩
      have HG : Aid.Hid2 (∀ aa ca w, Aid.RowAt w aa (P.map Dia.rv) → Calls Tryd.prog 14 #[.slice aa P.length ca, .bool big] w fun e w' => e = .returned (.string t) ∧ Below w.heap.size w w') :=
        ⟨fun aa ca w hr => by have := Tryd.c_refEncode aa P ca big w hr (by omega) g1; rw [← ht] at this; exact this⟩
      have HD : Aid.Hid2 (∀ w, Calls Tryd.prog 8 #[.string t, .bool big] w fun e w' => e = .returned (.tuple #[.string s, .agg #[.int .i64 0, .int .i64 0]]) ∧ Below w.heap.size w w') :=
        ⟨fun w => (Tryd.c_Decode t big w hts).mono fun e w' h => by
          unfold Dia.IsDecode at h
          rw [htl, Dia.wpts_ok big P g1] at h
          obtain ⟨a, b, h1, ⟨h3, h4⟩, h5⟩ := h
          simp only [g2] at h1
          exact ⟨by rw [h1, h3, h4]; rfl, h5⟩⟩
      clear hw g1 g2 ht htl hts hsl hwl hP hpl
      go_enter Tryd.func4, Tryd.ntmps4
      go_wp2_with (first
        | (go_at_call 11; refine (HE.out _ hT).mono ?_; rintro e w1 ⟨rfl, hb1⟩)
        | (go_at_call 13; refine (HR.out _).mono ?_; rintro e w2 ⟨aa, ca, rfl, hr2, hb2⟩))
      have hb2' := hb2.mono (show w1.heap.size + 1 ≤ _ by simp)
      obtain ⟨c0, c1, _, _⟩ := Aid.cells2 hb2'
      have hB2 : Below w.heap.size w w2 := hb1.trans (Aid.below_new hb2' hb1.size)
      have hT2 := hT.below hB2
      clear hb2
      go_region_held3 (fun w' => w'.cell? ⟨w1.heap.size, 0, none⟩ = some (.int .i64 0) ∧ w'.cell? ⟨w1.heap.size, 1, none⟩ = some (.int .i64 0) ∧ Below w2.heap.size w2 w')
        (first | exact ⟨c0, c1, (Below.refl _ _).drew⟩ | (go_split_ands; exact ⟨Aid.cell_ext (Aid.bt (by assumption) hbx) c0, Aid.cell_ext (Aid.bt (by assumption) hbx) c1, Aid.bt (by assumption) hbx⟩))
        (first
          | (go_at_call 10; refine (Tryd.c_Fault_no _).mono ?_; rintro e wx ⟨rfl, hbx⟩))
      go_split_ands
      rename_i w3 _ _ hb3
      have hr3 := hr2.below hb3
      go_wp2_with (first
        | (go_at_call 8; refine (HD.out _).mono ?_; rintro e w4 ⟨rfl, hb4⟩)
        | (go_at_call 7; refine (Tryd.c_awake03 _ (((hT2.below hb3).below hb4).below ((Below.refl _ _).alloc (Nat.le_refl _) _))).mono ?_; rintro e w5 ⟨rfl, hb5⟩; have hb5' := hb5.mono (show w4.heap.size + 1 ≤ _ by simp); obtain ⟨d0, d1, _, _⟩ := Aid.cells2 hb5')
        | (go_at_call 14; refine (HG.out aa ca _ ((hr3.below hb4).below (Aid.below_new hb5' (Nat.le_refl _)))).mono ?_; rintro e w6 ⟨rfl, hb6⟩; have d0' := Aid.cell_ext hb6 d0; have d1' := Aid.cell_ext hb6 d1)
        | (go_at_call 12; refine (Tryd.c_Bad_no _ _).mono ?_; rintro e w7 ⟨rfl, hb7⟩))
      go_ret
      exact ⟨rfl, Aid.bt (Aid.bt (Aid.bt (Aid.bt (Aid.bt hB2 hb3) hb4) (Aid.below_new hb5' (Nat.le_refl _))) hb6) hb7⟩
    · have HE : Aid.Hid2 (∀ w, Tryd.Tabs w → Calls Tryd.prog 11 #[.string s, .bool big] w fun e w' => e = .returned (.tuple #[.string ⟨#[]⟩, .agg #[.int .i64 2, .int .i64 (Dia.pts s.data.toList).2]]) ∧ Below w.heap.size w w') :=
        ⟨fun w hT => (Tryd.c_Encode s big w (by omega) hT).mono fun e w' h => by
          unfold Dia.IsEncode at h
          rw [hw0] at h
          obtain ⟨a, b, h1, ⟨h3, h4⟩, h5⟩ := h
          exact ⟨by rw [h1, h3, h4, if_neg (by omega), if_neg (by omega)]; rfl, h5⟩⟩
      have HR : Aid.Hid2 (∀ w, Calls Tryd.prog 13 #[.string s] w fun e w' => ∃ (aa : Option Addr) (ca : Nat), e = .returned (.tuple #[.slice aa 0 ca, .int .i64 (Dia.pts s.data.toList).2]) ∧ Below w.heap.size w w') :=
        ⟨fun w => (Tryd.c_refPoints s w hs6).mono fun e w' h => by
          unfold Dia.IsRefPoints at h
          rw [hw0] at h
          obtain ⟨aa, ca, h1, h2, h3⟩ := h
          exact ⟨aa, ca, h1, h3⟩⟩
      clear hw0 hw2 hsl
      generalize (Dia.pts s.data.toList).2 = P at *
      go_enter Tryd.func4, Tryd.ntmps4
      go_wp2_with (first
        | (go_at_call 11; refine (HE.out _ hT).mono ?_; rintro e w1 ⟨rfl, hb1⟩)
        | (go_at_call 13; refine (HR.out _).mono ?_; rintro e w2 ⟨aa, ca, rfl, hb2⟩))
      have hb2' := hb2.mono (show w1.heap.size + 1 ≤ _ by simp)
      obtain ⟨c0, c1, _, _⟩ := Aid.cells2 hb2'
      have hB2 : Below w.heap.size w w2 := hb1.trans (Aid.below_new hb2' hb1.size)
      have hT2 := hT.below hB2
      clear hb2
      go_region_held3 (fun w' => w'.cell? ⟨w1.heap.size, 0, none⟩ = some (.int .i64 2) ∧ w'.cell? ⟨w1.heap.size, 1, none⟩ = some (.int .i64 P) ∧ Below w2.heap.size w2 w')
        (first | exact ⟨c0, c1, (Below.refl _ _).drew⟩ | (go_split_ands; exact ⟨Aid.cell_ext (Aid.bt (by assumption) hbx) c0, Aid.cell_ext (Aid.bt (by assumption) hbx) c1, Aid.bt (by assumption) hbx⟩))
        (first
          | (go_at_call 10; refine (Tryd.c_Fault_at P _ hw1).mono ?_; rintro e wx ⟨rfl, hbx⟩))
      go_split_ands
      rename_i w3 _ _ hb3
      go_wp2_with (go_at_call 7; refine (Tryd.c_awake03 _ (hT2.below hb3)).mono ?_; rintro e w5 ⟨rfl, hb5⟩)
      go_ret
      exact ⟨rfl, Aid.bt (Aid.bt hB2 hb3) hb5⟩
  · have hgt : (2000 : Int) < (s.size : Int) := by omega
    go_enter Tryd.func4, Tryd.ntmps4
    go_wp2_with (go_at_call 7; refine (Tryd.c_awake03 _ hT).mono ?_; rintro e w2 ⟨rfl, hb2⟩)
    go_ret
    exact ⟨rfl, hb2⟩
end Go.Proofs
