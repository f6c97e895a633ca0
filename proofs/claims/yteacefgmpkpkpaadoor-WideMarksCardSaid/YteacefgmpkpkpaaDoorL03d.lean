/- the laws of layer 3, walked: WideMarks -/
import Derived.Test.YteacefgmpkpkpaaDoorL03c
namespace Go.Proofs
open Go.RowKit

theorem Dia.mark_at (s : ByteArray) (h : 1 < s.size) : Dia.mark s.data.toList = (decide (s[0] = 254 ∧ s[1] = 255), decide (s[0] = 254 ∧ s[1] = 255) || decide (s[0] = 255 ∧ s[1] = 254)) := by
  have h0 : s.data.toList[0]? = some s[0] := Lib.data_getElem? s 0 (by omega)
  have h1 : s.data.toList[1]? = some s[1] := Lib.data_getElem? s 1 h
  match hs : s.data.toList with
  | a :: b :: r =>
    rw [hs] at h0 h1
    simp at h0 h1
    rw [← h0, ← h1]
    rfl
  | [a] => rw [hs] at h1; simp at h1
  | [] => rw [hs] at h1; simp at h1
theorem Dia.u8_is (b : UInt8) (n : Nat) (hn : n < 256) : ((b.toNat : Int) == (n : Int)) = decide (b = n.toUInt8) := by
  rw [Bool.eq_iff_iff, beq_iff_eq, decide_eq_true_iff]
  constructor
  · intro h; exact (Dia.u8_eq (by omega)).symm
  · intro h; rw [h, Dia.u8 n hn]
/-- the law's own reckoning, and what Mark says -/
theorem Dia.mark_law (s : ByteArray) (h : 1 < s.size) :
    (((s[0].toNat : Int) == 254) = true ∧ ((s[1].toNat : Int) == 255) = true ∧ Dia.mark s.data.toList = (true, true)) ∨
    (((s[0].toNat : Int) == 254) = false ∧ ((s[0].toNat : Int) == 255) = true ∧ ((s[1].toNat : Int) == 254) = true ∧ Dia.mark s.data.toList = (false, true)) ∨
    (Dia.mark s.data.toList = (false, false) ∧ ((((s[0].toNat : Int) == 254) = true ∧ ((s[1].toNat : Int) == 255) = false ∧ ((s[0].toNat : Int) == 255) = false) ∨
      (((s[0].toNat : Int) == 254) = false ∧ ((s[0].toNat : Int) == 255) = true ∧ ((s[1].toNat : Int) == 254) = false) ∨ (((s[0].toNat : Int) == 254) = false ∧ ((s[0].toNat : Int) == 255) = false))) := by
  rw [Dia.mark_at s h]
  have e1 := Dia.u8_is s[0] 254 (by decide)
  have e2 := Dia.u8_is s[0] 255 (by decide)
  have e3 := Dia.u8_is s[1] 254 (by decide)
  have e4 := Dia.u8_is s[1] 255 (by decide)
  rw [show ((254 : Nat) : Int) = 254 from rfl] at e1 e3
  rw [show ((255 : Nat) : Int) = 255 from rfl] at e2 e4
  rw [e1, e2, e3, e4]
  generalize s[0] = x
  generalize s[1] = y
  have c1 : (254 : Nat).toUInt8 = 254 := rfl
  have c2 : (255 : Nat).toUInt8 = 255 := rfl
  rw [c1, c2]
  by_cases hx : x = 254
  · subst hx
    by_cases hy : y = 255
    · subst hy; left; decide
    · right; right; simp [hy]
  · by_cases hx2 : x = 255
    · subst hx2
      by_cases hy : y = 254
      · subst hy; right; left; decide
      · right; right; simp [hy]
    · right; right; simp [hx, hx2]

theorem Tryd.c_marks (s : ByteArray) (bg : Bool) (hm : Dia.mark s.data.toList = (bg, true)) (h2 : 1 < s.size) (hs : s.size ≤ 1000000) :
    (∃ T : ByteArray, Aid.Hid2 (∀ w, Calls Tryd.prog 16 #[.string s] w fun e w' => e = .returned (.tuple #[.string T, .agg #[.int .i64 0, .int .i64 0]]) ∧ Below w.heap.size w w') ∧
      Aid.Hid2 (∀ w, Calls Tryd.prog 9 #[.string (s.extract 2 s.size), .bool bg] w fun e w' => e = .returned (.tuple #[.string T, .int .i64 (-1)]) ∧ Below w.heap.size w w')) ∨
    (∃ P : Int, 0 ≤ P ∧ P ≤ 1000000 ∧ Aid.Hid2 (∀ w, Calls Tryd.prog 16 #[.string s] w fun e w' => e = .returned (.tuple #[.string ⟨#[]⟩, .agg #[.int .i64 2, .int .i64 (P + 2)]]) ∧ Below w.heap.size w w') ∧
      Aid.Hid2 (∀ w, Calls Tryd.prog 9 #[.string (s.extract 2 s.size), .bool bg] w fun e w' => e = .returned (.tuple #[.string ⟨#[]⟩, .int .i64 P]) ∧ Below w.heap.size w w')) := by
  have hl : s.data.toList.length = s.size := rfl
  have hne : s.data.toList ≠ [] := by
    intro e
    have h8 := congrArg List.length e
    rw [hl] at h8; simp at h8
    rw [h8] at h2; simp at h2
  have hex : (s.extract 2 s.size).data.toList = s.data.toList.drop 2 := Lib.extract_to_end s 2
  have hd : Dia.marked s.data.toList = ((Dia.wpts bg (s.data.toList.drop 2)).1, if (Dia.wpts bg (s.data.toList.drop 2)).2 < 0 then -1 else (Dia.wpts bg (s.data.toList.drop 2)).2 + 2) := by
    unfold Dia.marked
    rw [if_neg hne, hm, if_neg (by simp)]
  have hsz : (s.extract 2 s.size).size ≤ 1000000 := by simp; omega
  rcases Dia.wpts_cases bg (s.data.toList.drop 2) with hw | ⟨hw0, hw1, hw2⟩
  · left
    refine ⟨⟨(Dia.encs (Dia.wpts bg (s.data.toList.drop 2)).1).toArray⟩, ⟨fun w => ?_⟩, ⟨fun w => ?_⟩⟩
    · refine (Tryd.c_Marked s w hs).mono fun e w' h => ?_
      unfold Dia.IsMarked at h
      rw [hd, hw] at h
      obtain ⟨a, b, h1, ⟨h3, h4⟩, h5⟩ := h
      exact ⟨by rw [h1, h3, h4]; rfl, h5⟩
    · refine (Tryd.c_refDecode _ bg w hsz).mono fun e w' h => ?_
      unfold Dia.IsRefDecode at h
      rw [hex, hw] at h
      exact h
  · right
    have hneg : ¬ (Dia.wpts bg (s.data.toList.drop 2)).2 < 0 := by omega
    refine ⟨(Dia.wpts bg (s.data.toList.drop 2)).2, hw1, by rw [List.length_drop, hl] at hw2; omega, ⟨fun w => ?_⟩, ⟨fun w => ?_⟩⟩
    · refine (Tryd.c_Marked s w hs).mono fun e w' h => ?_
      unfold Dia.IsMarked at h
      rw [hd, hw0, if_neg hneg] at h
      obtain ⟨a, b, h1, ⟨h3, h4⟩, h5⟩ := h
      exact ⟨by rw [h1, h3, h4, if_neg (by omega), if_neg (by omega)]; rfl, h5⟩
    · refine (Tryd.c_refDecode _ bg w hsz).mono fun e w' h => ?_
      unfold Dia.IsRefDecode at h
      rw [hex, hw0] at h
      exact h
theorem Tryd.c_nomark (s : ByteArray) (hm : (Dia.mark s.data.toList).2 = false) (h2 : s.data.toList ≠ []) (hs : s.size ≤ 1000000) (w : World) :
    Calls Tryd.prog 16 #[.string s] w fun e w' => e = .returned (.tuple #[.string ⟨#[]⟩, .agg #[.int .i64 2, .int .i64 0]]) ∧ Below w.heap.size w w' := by
  have hd : Dia.marked s.data.toList = ([], 0) := by
    unfold Dia.marked
    rw [if_neg h2, if_pos hm]
  refine (Tryd.c_Marked s w hs).mono fun e w' h => ?_
  unfold Dia.IsMarked at h
  rw [hd] at h
  obtain ⟨a, b, h1, ⟨h3, h4⟩, h5⟩ := h
  exact ⟨by rw [h1, h3, h4]; rfl, h5⟩
theorem Tryd.c_nobytes (w : World) :
    Calls Tryd.prog 16 #[.string ⟨#[]⟩] w fun e w' => e = .returned (.tuple #[.string ⟨#[]⟩, .agg #[.int .i64 0, .int .i64 0]]) ∧ Below w.heap.size w w' := by
  have hd : Dia.marked ((⟨#[]⟩ : ByteArray).data.toList) = ([], -1) := rfl
  refine (Tryd.c_Marked ⟨#[]⟩ w (by decide)).mono fun e w' h => ?_
  unfold Dia.IsMarked at h
  rw [hd] at h
  obtain ⟨a, b, h1, ⟨h3, h4⟩, h5⟩ := h
  exact ⟨by rw [h1, h3, h4]; rfl, h5⟩

set_option maxRecDepth 100000 in
set_option maxHeartbeats 4000000 in
theorem Tryd.w_WideMarks (s : ByteArray) (w : World) (hT : Tryd.Tabs w) (_wx : s.size ≤ 9223372036854775807) :
    Calls Tryd.prog 5 #[.string s] w fun e w' => e = .returned (.bool true) ∧ Below w.heap.size w w' := by
  by_cases hlen : s.size ≤ 2000
  · have hs6 : s.size ≤ 1000000 := by omega
    have htl : s.toList = s.data.toList := Lib.toList_data s
    by_cases h2 : 1 < s.size
    · have h2' : (2 : Int) ≤ (s.size : Int) := by omega
      have hne : s.data.toList ≠ [] := by
        intro e
        have h8 := congrArg List.length e
        have h9 : s.data.toList.length = s.size := rfl
        rw [h9] at h8; simp at h8
        rw [h8] at h2; simp at h2
      have hq : (s.toList == []) = false := by rw [htl]; simpa using hne
      have h0' : (0 : Int) < (s.size : Int) := by omega
      have h1' : (1 : Int) < (s.size : Int) := by omega
      rcases Dia.mark_law s h2 with ⟨m1, m2, hm⟩ | ⟨m1, m2, m3, hm⟩ | ⟨hm, hmm⟩
      · have HC : Aid.Hid2 (∀ w, Calls Tryd.prog 15 #[.string s] w fun e w' => e = .returned (.tuple #[.bool true, .bool true]) ∧ Below w.heap.size w w') :=
          ⟨fun w => by have := Tryd.c_Mark s w hs6; rw [hm] at this; exact this⟩
        rcases Tryd.c_marks s true hm h2 hs6 with ⟨T, HM, HR⟩ | ⟨P, hP0, hP1, HM, HR⟩
        · clear hm hne htl
          go_enter Tryd.func5, Tryd.ntmps5
          go_wp2_with (first
            | (go_at_call 15; refine (HC.out _).mono ?_; rintro e w1 ⟨rfl, hb1⟩)
            | (go_at_call 16; refine (HM.out _).mono ?_; rintro e w2 ⟨rfl, hb2⟩)
            | (go_at_call 9; refine (HR.out _).mono ?_; rintro e w3 ⟨rfl, hb3⟩))
          have hb3' := hb3.mono (show w2.heap.size + 1 ≤ _ by simp)
          obtain ⟨c0, c1, _, _⟩ := Aid.cells2 hb3'
          have hB3 : Below w.heap.size w w3 := Aid.bt (Aid.bt hb1 hb2) (Aid.below_new hb3' (Nat.le_refl _))
          have hT3 := hT.below hB3
          clear hb3
          go_region_held3 (fun w' => w'.cell? ⟨w2.heap.size, 0, none⟩ = some (.int .i64 0) ∧ w'.cell? ⟨w2.heap.size, 1, none⟩ = some (.int .i64 0) ∧ Below w3.heap.size w3 w')
            (first | exact ⟨c0, c1, (Below.refl _ _).drew⟩ | (go_split_ands; exact ⟨Aid.cell_ext (Aid.bt (by assumption) hbx) c0, Aid.cell_ext (Aid.bt (by assumption) hbx) c1, Aid.bt (by assumption) hbx⟩))
            (first
              | (go_at_call 10; refine (Tryd.c_Fault_no _).mono ?_; rintro e wx ⟨rfl, hbx⟩)
              | (go_at_call 7; go_split_ands; refine (Tryd.c_awake03 _ (hT3.below (by assumption))).mono ?_; rintro e wx ⟨rfl, hbx⟩))
          go_split_ands
          rename_i w4 _ _ hb4
          go_wp2
          go_ret
          exact ⟨rfl, Aid.bt hB3 hb4⟩
        · clear hm hne htl
          go_enter Tryd.func5, Tryd.ntmps5
          go_wp2_with (first
            | (go_at_call 15; refine (HC.out _).mono ?_; rintro e w1 ⟨rfl, hb1⟩)
            | (go_at_call 16; refine (HM.out _).mono ?_; rintro e w2 ⟨rfl, hb2⟩)
            | (go_at_call 9; refine (HR.out _).mono ?_; rintro e w3 ⟨rfl, hb3⟩))
          have hb3' := hb3.mono (show w2.heap.size + 1 ≤ _ by simp)
          obtain ⟨c0, c1, _, _⟩ := Aid.cells2 hb3'
          have hB3 : Below w.heap.size w w3 := Aid.bt (Aid.bt hb1 hb2) (Aid.below_new hb3' (Nat.le_refl _))
          have hT3 := hT.below hB3
          clear hb3
          go_region_held3 (fun w' => w'.cell? ⟨w2.heap.size, 0, none⟩ = some (.int .i64 2) ∧ w'.cell? ⟨w2.heap.size, 1, none⟩ = some (.int .i64 (P + 2)) ∧ Below w3.heap.size w3 w')
            (first | exact ⟨c0, c1, (Below.refl _ _).drew⟩ | (go_split_ands; exact ⟨Aid.cell_ext (Aid.bt (by assumption) hbx) c0, Aid.cell_ext (Aid.bt (by assumption) hbx) c1, Aid.bt (by assumption) hbx⟩))
            (first
              | (go_at_call 10; refine (Tryd.c_Fault_at (P + 2) _ (by omega)).mono ?_; rintro e wx ⟨rfl, hbx⟩)
              | (go_at_call 7; go_split_ands; refine (Tryd.c_awake03 _ (hT3.below (by assumption))).mono ?_; rintro e wx ⟨rfl, hbx⟩))
          go_split_ands
          rename_i w4 _ _ hb4
          go_wp2
          go_ret
          exact ⟨rfl, Aid.bt hB3 hb4⟩
      · have HC : Aid.Hid2 (∀ w, Calls Tryd.prog 15 #[.string s] w fun e w' => e = .returned (.tuple #[.bool false, .bool true]) ∧ Below w.heap.size w w') :=
          ⟨fun w => by have := Tryd.c_Mark s w hs6; rw [hm] at this; exact this⟩
        rcases Tryd.c_marks s false hm h2 hs6 with ⟨T, HM, HR⟩ | ⟨P, hP0, hP1, HM, HR⟩
        · clear hm hne htl
          go_enter Tryd.func5, Tryd.ntmps5
          go_wp2_with (first
            | (go_at_call 15; refine (HC.out _).mono ?_; rintro e w1 ⟨rfl, hb1⟩)
            | (go_at_call 16; refine (HM.out _).mono ?_; rintro e w2 ⟨rfl, hb2⟩)
            | (go_at_call 9; refine (HR.out _).mono ?_; rintro e w3 ⟨rfl, hb3⟩))
          have hb3' := hb3.mono (show w2.heap.size + 1 ≤ _ by simp)
          obtain ⟨c0, c1, _, _⟩ := Aid.cells2 hb3'
          have hB3 : Below w.heap.size w w3 := Aid.bt (Aid.bt hb1 hb2) (Aid.below_new hb3' (Nat.le_refl _))
          have hT3 := hT.below hB3
          clear hb3
          go_region_held3 (fun w' => w'.cell? ⟨w2.heap.size, 0, none⟩ = some (.int .i64 0) ∧ w'.cell? ⟨w2.heap.size, 1, none⟩ = some (.int .i64 0) ∧ Below w3.heap.size w3 w')
            (first | exact ⟨c0, c1, (Below.refl _ _).drew⟩ | (go_split_ands; exact ⟨Aid.cell_ext (Aid.bt (by assumption) hbx) c0, Aid.cell_ext (Aid.bt (by assumption) hbx) c1, Aid.bt (by assumption) hbx⟩))
            (first
              | (go_at_call 10; refine (Tryd.c_Fault_no _).mono ?_; rintro e wx ⟨rfl, hbx⟩)
              | (go_at_call 7; go_split_ands; refine (Tryd.c_awake03 _ (hT3.below (by assumption))).mono ?_; rintro e wx ⟨rfl, hbx⟩))
          go_split_ands
          rename_i w4 _ _ hb4
          go_wp2
          go_ret
          exact ⟨rfl, Aid.bt hB3 hb4⟩
        · clear hm hne htl
          go_enter Tryd.func5, Tryd.ntmps5
          go_wp2_with (first
            | (go_at_call 15; refine (HC.out _).mono ?_; rintro e w1 ⟨rfl, hb1⟩)
            | (go_at_call 16; refine (HM.out _).mono ?_; rintro e w2 ⟨rfl, hb2⟩)
            | (go_at_call 9; refine (HR.out _).mono ?_; rintro e w3 ⟨rfl, hb3⟩))
          have hb3' := hb3.mono (show w2.heap.size + 1 ≤ _ by simp)
          obtain ⟨c0, c1, _, _⟩ := Aid.cells2 hb3'
          have hB3 : Below w.heap.size w w3 := Aid.bt (Aid.bt hb1 hb2) (Aid.below_new hb3' (Nat.le_refl _))
          have hT3 := hT.below hB3
          clear hb3
          go_region_held3 (fun w' => w'.cell? ⟨w2.heap.size, 0, none⟩ = some (.int .i64 2) ∧ w'.cell? ⟨w2.heap.size, 1, none⟩ = some (.int .i64 (P + 2)) ∧ Below w3.heap.size w3 w')
            (first | exact ⟨c0, c1, (Below.refl _ _).drew⟩ | (go_split_ands; exact ⟨Aid.cell_ext (Aid.bt (by assumption) hbx) c0, Aid.cell_ext (Aid.bt (by assumption) hbx) c1, Aid.bt (by assumption) hbx⟩))
            (first
              | (go_at_call 10; refine (Tryd.c_Fault_at (P + 2) _ (by omega)).mono ?_; rintro e wx ⟨rfl, hbx⟩)
              | (go_at_call 7; go_split_ands; refine (Tryd.c_awake03 _ (hT3.below (by assumption))).mono ?_; rintro e wx ⟨rfl, hbx⟩))
          go_split_ands
          rename_i w4 _ _ hb4
          go_wp2
          go_ret
          exact ⟨rfl, Aid.bt hB3 hb4⟩
      · have HC : Aid.Hid2 (∀ w, Calls Tryd.prog 15 #[.string s] w fun e w' => e = .returned (.tuple #[.bool false, .bool false]) ∧ Below w.heap.size w w') :=
          ⟨fun w => by have := Tryd.c_Mark s w hs6; rw [hm] at this; exact this⟩
        have HM := Aid.Hid2.mk (Tryd.c_nomark s (by rw [hm]) hne hs6)
        clear hm hne htl
        rcases hmm with ⟨m1, m2, m3⟩ | ⟨m1, m2, m3⟩ | ⟨m1, m2⟩
        · go_enter Tryd.func5, Tryd.ntmps5
          go_wp2_with (first
            | (go_at_call 15; refine (HC.out _).mono ?_; rintro e w1 ⟨rfl, hb1⟩)
            | (go_at_call 16; refine (HM.out _).mono ?_; rintro e w2 ⟨rfl, hb2⟩))
          have hB3 := (Aid.bt hb1 hb2).trans ((Below.refl _ _).alloc (by have := hb1.size; have := hb2.size; omega) (.cells #[.int .i64 2, .int .i64 0] 25))
          have hT3 := hT.below hB3
          obtain ⟨c0, c1, _, _⟩ := Aid.cells2 (x := .int .i64 2) (y := .int .i64 0) (T := 25) (Below.refl (w2.heap.size + 1) (w2.alloc (.cells #[.int .i64 2, .int .i64 0] 25)))
          generalize hW0 : w2.alloc (.cells #[.int .i64 2, .int .i64 0] 25) = W0 at *
          refine wp_region_held_drew (S := (fun w' => w'.cell? ⟨w2.heap.size, 0, none⟩ = some (.int .i64 2) ∧ w'.cell? ⟨w2.heap.size, 1, none⟩ = some (.int .i64 0) ∧ Below W0.heap.size W0 w')) (by kernel_rfl) ?_ (fun hHeld => ?_)
          · exact ⟨c0, c1, (Below.refl _ _).drew⟩
          refine wpAnyH_ready (rs := [0]) (by kernel_rfl) (by simp) ?_
          refine AllReadyH.cons (o := ⟨_, _, _, _, _, _⟩) rfl (fun K hK => ?_) AllReadyH.nil
          go_simp
          refine (Tryd.c_awake03 _ (hT3.below hHeld.2.2)).mono ?_; rintro e wx ⟨rfl, hbx⟩
          go_wp2_with fail
          refine hK.out _ _ ?_ (fun hHeld => ?_)
          · exact ⟨Aid.cell_ext (Aid.bt hHeld.2.2 hbx) c0, Aid.cell_ext (Aid.bt hHeld.2.2 hbx) c1, Aid.bt hHeld.2.2 hbx⟩
          clear hK K
          try simp only [Act.put, List.setIfInBounds_toArray, List.set_cons_zero, List.set_cons_succ]
          refine wpAnyH_take (i := 1) (oi := ⟨_, _, _, _, _, _⟩) (v := ?_) rfl (by kernel_rfl) (by kernel_rfl) (by kernel_rfl) (fun _ _ _ h => h) (Or.inl ⟨by kernel_rfl, ?_⟩) (by assumption) ?_
          rotate_left
          · intro w hSw
            try dsimp only at hSw
            first | (go_simp; done) | (go_simp; with_reducible rfl)
          try simp only [Act.put, List.setIfInBounds_toArray, List.set_cons_zero, List.set_cons_succ]
          refine wpAnyH_take (i := 2) (oi := ⟨_, _, _, _, _, _⟩) (v := ?_) rfl (by kernel_rfl) (by kernel_rfl) (by kernel_rfl) (fun _ _ _ h => h) (Or.inl ⟨by kernel_rfl, ?_⟩) (by assumption) ?_
          rotate_left
          · intro w hSw
            try dsimp only at hSw
            first | (go_simp; done) | (go_simp; with_reducible rfl)
          try simp only [Act.put, List.setIfInBounds_toArray, List.set_cons_zero, List.set_cons_succ]
          refine wpAnyH_take (i := 3) (oi := ⟨_, _, _, _, _, _⟩) (v := ?_) rfl (by kernel_rfl) (by kernel_rfl) (by kernel_rfl) (fun _ _ _ h => h) (Or.inl ⟨by kernel_rfl, ?_⟩) (by assumption) ?_
          rotate_left
          · intro w hSw
            try dsimp only at hSw
            first | (go_simp; done) | (go_simp; with_reducible rfl)
          try simp only [Act.put, List.setIfInBounds_toArray, List.set_cons_zero, List.set_cons_succ]
          refine wpAnyH_take (i := 4) (oi := ⟨_, _, _, _, _, _⟩) (v := ?_) rfl (by kernel_rfl) (by kernel_rfl) (by kernel_rfl) (fun _ _ _ h => h) (Or.inl ⟨by kernel_rfl, ?_⟩) (by assumption) ?_
          rotate_left
          · intro w hSw
            try dsimp only at hSw
            first | (go_simp; done) | (go_simp; with_reducible rfl)
          try simp only [Act.put, List.setIfInBounds_toArray, List.set_cons_zero, List.set_cons_succ]
          refine wpAnyH_take (i := 5) (oi := ⟨_, _, _, _, _, _⟩) (v := ?_) rfl (by kernel_rfl) (by kernel_rfl) (by kernel_rfl) (fun _ _ _ h => h) (Or.inl ⟨by kernel_rfl, ?_⟩) (by assumption) ?_
          rotate_left
          · intro w hSw
            try dsimp only at hSw
            first | (go_simp; done) | (go_simp; with_reducible rfl)
          try simp only [Act.put, List.setIfInBounds_toArray, List.set_cons_zero, List.set_cons_succ]
          refine wpAnyH_take (i := 6) (oi := ⟨_, _, _, _, _, _⟩) (v := ?_) rfl (by kernel_rfl) (by kernel_rfl) (by kernel_rfl) (fun _ _ _ h => h) (Or.inl ⟨by kernel_rfl, ?_⟩) (by assumption) ?_
          rotate_left
          · intro w hSw
            try dsimp only at hSw
            first | (go_simp; done) | (go_simp; with_reducible rfl)
          try simp only [Act.put, List.setIfInBounds_toArray, List.set_cons_zero, List.set_cons_succ]
          refine wpAnyH_take (i := 7) (oi := ⟨_, _, _, _, _, _⟩) (v := ?_) rfl (by kernel_rfl) (by kernel_rfl) (by kernel_rfl) (fun _ _ _ h => h) (Or.inl ⟨by kernel_rfl, ?_⟩) (by assumption) ?_
          rotate_left
          · intro w hSw
            try dsimp only at hSw
            first | (go_simp; done) | (go_simp; with_reducible rfl)
          try simp only [Act.put, List.setIfInBounds_toArray, List.set_cons_zero, List.set_cons_succ]
          refine wpAnyH_take (i := 8) (oi := ⟨_, _, _, _, _, _⟩) (v := ?_) rfl (by kernel_rfl) (by kernel_rfl) (by kernel_rfl) (fun _ _ _ h => h) (Or.inl ⟨by kernel_rfl, ?_⟩) (by assumption) ?_
          rotate_left
          · intro w hSw
            try dsimp only at hSw
            first | (go_simp; done) | (go_simp; with_reducible rfl)
          try simp only [Act.put, List.setIfInBounds_toArray, List.set_cons_zero, List.set_cons_succ]
          refine wpAnyH_take (i := 9) (oi := ⟨_, _, _, _, _, _⟩) (v := undef) rfl (by kernel_rfl) (by kernel_rfl) (by kernel_rfl) (fun _ _ _ h => h) (Or.inr ⟨by kernel_rfl, rfl⟩) (by assumption) ?_
          try simp only [Act.put, List.setIfInBounds_toArray, List.set_cons_zero, List.set_cons_succ]
          refine wpAnyH_take (i := 10) (oi := ⟨_, _, _, _, _, _⟩) (v := undef) rfl (by kernel_rfl) (by kernel_rfl) (by kernel_rfl) (fun _ _ _ h => h) (Or.inr ⟨by kernel_rfl, rfl⟩) (by assumption) ?_
          try simp only [Act.put, List.setIfInBounds_toArray, List.set_cons_zero, List.set_cons_succ]
          refine wpAnyH_take (i := 11) (oi := ⟨_, _, _, _, _, _⟩) (v := undef) rfl (by kernel_rfl) (by kernel_rfl) (by kernel_rfl) (fun _ _ _ h => h) (Or.inr ⟨by kernel_rfl, rfl⟩) (by assumption) ?_
          try simp only [Act.put, List.setIfInBounds_toArray, List.set_cons_zero, List.set_cons_succ]
          refine wpAnyH_take (i := 12) (oi := ⟨_, _, _, _, _, _⟩) (v := ?_) rfl (by kernel_rfl) (by kernel_rfl) (by kernel_rfl) (fun _ _ _ h => h) (Or.inl ⟨by kernel_rfl, ?_⟩) (by assumption) ?_
          rotate_left
          · intro w hSw
            try dsimp only at hSw
            first | (go_simp; done) | (go_simp; with_reducible rfl)
          try simp only [Act.put, List.setIfInBounds_toArray, List.set_cons_zero, List.set_cons_succ]
          refine wpAnyH_take (i := 13) (oi := ⟨_, _, _, _, _, _⟩) (v := ?_) rfl (by kernel_rfl) (by kernel_rfl) (by kernel_rfl) (fun _ _ _ h => h) (Or.inl ⟨by kernel_rfl, ?_⟩) (by assumption) ?_
          rotate_left
          · intro w hSw
            try dsimp only at hSw
            first | (go_simp; done) | (go_simp; with_reducible rfl)
          try simp only [Act.put, List.setIfInBounds_toArray, List.set_cons_zero, List.set_cons_succ]
          refine wpAnyH_take (i := 14) (oi := ⟨_, _, _, _, _, _⟩) (v := ?_) rfl (by kernel_rfl) (by kernel_rfl) (by kernel_rfl) (fun _ _ _ h => h) (Or.inl ⟨by kernel_rfl, ?_⟩) (by assumption) ?_
          rotate_left
          · intro w hSw
            try dsimp only at hSw
            first | (go_simp; done) | (go_simp; with_reducible rfl)
          try simp only [Act.put, List.setIfInBounds_toArray, List.set_cons_zero, List.set_cons_succ]
          refine wpAnyH_take (i := 15) (oi := ⟨_, _, _, _, _, _⟩) (v := ?_) rfl (by kernel_rfl) (by kernel_rfl) (by kernel_rfl) (fun _ _ _ h => h) (Or.inl ⟨by kernel_rfl, ?_⟩) (by assumption) ?_
          rotate_left
          · intro w hSw
            try dsimp only at hSw
            first | (go_simp; done) | (go_simp; with_reducible rfl)
          try simp only [Act.put, List.setIfInBounds_toArray, List.set_cons_zero, List.set_cons_succ]
          refine wpAnyH_take (i := 16) (oi := ⟨_, _, _, _, _, _⟩) (v := ?_) rfl (by kernel_rfl) (by kernel_rfl) (by kernel_rfl) (fun _ _ _ h => h) (Or.inl ⟨by kernel_rfl, ?_⟩) (by assumption) ?_
          rotate_left
          · intro w hSw
            try dsimp only at hSw
            first | (go_simp; done) | (go_simp; with_reducible rfl)
          try simp only [Act.put, List.setIfInBounds_toArray, List.set_cons_zero, List.set_cons_succ]
          refine wpAnyH_take (i := 17) (oi := ⟨_, _, _, _, _, _⟩) (v := ?_) rfl (by kernel_rfl) (by kernel_rfl) (by kernel_rfl) (fun _ _ _ h => h) (Or.inl ⟨by kernel_rfl, ?_⟩) (by assumption) ?_
          rotate_left
          · intro w hSw
            try dsimp only at hSw
            first | (go_simp; done) | (go_simp; with_reducible rfl)
          try simp only [Act.put, List.setIfInBounds_toArray, List.set_cons_zero, List.set_cons_succ]
          refine wpAnyH_ready (rs := [18]) (by kernel_rfl) (by simp) ?_
          refine AllReadyH.cons (o := ⟨_, _, _, _, _, _⟩) rfl (fun K hK => ?_) AllReadyH.nil
          go_simp
          refine (Tryd.c_Fault_at 0 _ (by decide)).mono ?_; rintro e wx ⟨rfl, hbx⟩
          go_wp2_with fail
          refine hK.out _ _ ?_ (fun hHeld => ?_)
          · exact ⟨Aid.cell_ext (Aid.bt hHeld.2.2 hbx) c0, Aid.cell_ext (Aid.bt hHeld.2.2 hbx) c1, Aid.bt hHeld.2.2 hbx⟩
          clear hK K
          try simp only [Act.put, List.setIfInBounds_toArray, List.set_cons_zero, List.set_cons_succ]
          refine wpAnyH_take (i := 19) (oi := ⟨_, _, _, _, _, _⟩) (v := ?_) rfl (by kernel_rfl) (by kernel_rfl) (by kernel_rfl) (fun _ _ _ h => h) (Or.inl ⟨by kernel_rfl, ?_⟩) (by assumption) ?_
          rotate_left
          · intro w hSw
            try dsimp only at hSw
            first | (go_simp; done) | (go_simp; with_reducible rfl)
          try simp only [Act.put, List.setIfInBounds_toArray, List.set_cons_zero, List.set_cons_succ]
          refine wpAnyH_take (i := 20) (oi := ⟨_, _, _, _, _, _⟩) (v := ?_) rfl (by kernel_rfl) (by kernel_rfl) (by kernel_rfl) (fun _ _ _ h => h) (Or.inl ⟨by kernel_rfl, ?_⟩) (by assumption) ?_
          rotate_left
          · intro w hSw
            try dsimp only at hSw
            first | (go_simp; done) | (go_simp; with_reducible rfl)
          try simp only [Act.put, List.setIfInBounds_toArray, List.set_cons_zero, List.set_cons_succ]
          refine wpAnyH_take (i := 21) (oi := ⟨_, _, _, _, _, _⟩) (v := ?_) rfl (by kernel_rfl) (by kernel_rfl) (by kernel_rfl) (fun _ _ _ h => h) (Or.inl ⟨by kernel_rfl, ?_⟩) (by assumption) ?_
          rotate_left
          · intro w hSw
            try dsimp only at hSw
            first | (go_simp; done) | (go_simp; with_reducible rfl)
          try simp only [Act.put, List.setIfInBounds_toArray, List.set_cons_zero, List.set_cons_succ]
          refine wpAnyH_take (i := 22) (oi := ⟨_, _, _, _, _, _⟩) (v := ?_) rfl (by kernel_rfl) (by kernel_rfl) (by kernel_rfl) (fun _ _ _ h => h) (Or.inl ⟨by kernel_rfl, ?_⟩) (by assumption) ?_
          rotate_left
          · intro w hSw
            try dsimp only at hSw
            first | (go_simp; done) | (go_simp; with_reducible rfl)
          try simp only [Act.put, List.setIfInBounds_toArray, List.set_cons_zero, List.set_cons_succ]
          refine wpAnyH_take (i := 23) (oi := ⟨_, _, _, _, _, _⟩) (v := ?_) rfl (by kernel_rfl) (by kernel_rfl) (by kernel_rfl) (fun _ _ _ h => h) (Or.inl ⟨by kernel_rfl, ?_⟩) (by assumption) ?_
          rotate_left
          · intro w hSw
            try dsimp only at hSw
            first | (go_simp; done) | (go_simp; with_reducible rfl)
          try simp only [Act.put, List.setIfInBounds_toArray, List.set_cons_zero, List.set_cons_succ]
          refine wpAnyH_done (by kernel_rfl) ?_ _
          obtain ⟨_, _, hfin⟩ := hHeld
          rename_i w4 _ _
          go_wp2
          go_ret
          exact ⟨rfl, Aid.bt hB3 hfin⟩
        · go_enter Tryd.func5, Tryd.ntmps5
          go_wp2_with (first
            | (go_at_call 15; refine (HC.out _).mono ?_; rintro e w1 ⟨rfl, hb1⟩)
            | (go_at_call 16; refine (HM.out _).mono ?_; rintro e w2 ⟨rfl, hb2⟩))
          have hB3 := (Aid.bt hb1 hb2).trans ((Below.refl _ _).alloc (by have := hb1.size; have := hb2.size; omega) (.cells #[.int .i64 2, .int .i64 0] 25))
          have hT3 := hT.below hB3
          obtain ⟨c0, c1, _, _⟩ := Aid.cells2 (x := .int .i64 2) (y := .int .i64 0) (T := 25) (Below.refl (w2.heap.size + 1) (w2.alloc (.cells #[.int .i64 2, .int .i64 0] 25)))
          generalize hW0 : w2.alloc (.cells #[.int .i64 2, .int .i64 0] 25) = W0 at *
          refine wp_region_held_drew (S := (fun w' => w'.cell? ⟨w2.heap.size, 0, none⟩ = some (.int .i64 2) ∧ w'.cell? ⟨w2.heap.size, 1, none⟩ = some (.int .i64 0) ∧ Below W0.heap.size W0 w')) (by kernel_rfl) ?_ (fun hHeld => ?_)
          · exact ⟨c0, c1, (Below.refl _ _).drew⟩
          refine wpAnyH_ready (rs := [0]) (by kernel_rfl) (by simp) ?_
          refine AllReadyH.cons (o := ⟨_, _, _, _, _, _⟩) rfl (fun K hK => ?_) AllReadyH.nil
          go_simp
          refine (Tryd.c_awake03 _ (hT3.below hHeld.2.2)).mono ?_; rintro e wx ⟨rfl, hbx⟩
          go_wp2_with fail
          refine hK.out _ _ ?_ (fun hHeld => ?_)
          · exact ⟨Aid.cell_ext (Aid.bt hHeld.2.2 hbx) c0, Aid.cell_ext (Aid.bt hHeld.2.2 hbx) c1, Aid.bt hHeld.2.2 hbx⟩
          clear hK K
          try simp only [Act.put, List.setIfInBounds_toArray, List.set_cons_zero, List.set_cons_succ]
          refine wpAnyH_take (i := 1) (oi := ⟨_, _, _, _, _, _⟩) (v := ?_) rfl (by kernel_rfl) (by kernel_rfl) (by kernel_rfl) (fun _ _ _ h => h) (Or.inl ⟨by kernel_rfl, ?_⟩) (by assumption) ?_
          rotate_left
          · intro w hSw
            try dsimp only at hSw
            first | (go_simp; done) | (go_simp; with_reducible rfl)
          try simp only [Act.put, List.setIfInBounds_toArray, List.set_cons_zero, List.set_cons_succ]
          refine wpAnyH_take (i := 2) (oi := ⟨_, _, _, _, _, _⟩) (v := ?_) rfl (by kernel_rfl) (by kernel_rfl) (by kernel_rfl) (fun _ _ _ h => h) (Or.inl ⟨by kernel_rfl, ?_⟩) (by assumption) ?_
          rotate_left
          · intro w hSw
            try dsimp only at hSw
            first | (go_simp; done) | (go_simp; with_reducible rfl)
          try simp only [Act.put, List.setIfInBounds_toArray, List.set_cons_zero, List.set_cons_succ]
          refine wpAnyH_take (i := 3) (oi := ⟨_, _, _, _, _, _⟩) (v := ?_) rfl (by kernel_rfl) (by kernel_rfl) (by kernel_rfl) (fun _ _ _ h => h) (Or.inl ⟨by kernel_rfl, ?_⟩) (by assumption) ?_
          rotate_left
          · intro w hSw
            try dsimp only at hSw
            first | (go_simp; done) | (go_simp; with_reducible rfl)
          try simp only [Act.put, List.setIfInBounds_toArray, List.set_cons_zero, List.set_cons_succ]
          refine wpAnyH_take (i := 4) (oi := ⟨_, _, _, _, _, _⟩) (v := ?_) rfl (by kernel_rfl) (by kernel_rfl) (by kernel_rfl) (fun _ _ _ h => h) (Or.inl ⟨by kernel_rfl, ?_⟩) (by assumption) ?_
          rotate_left
          · intro w hSw
            try dsimp only at hSw
            first | (go_simp; done) | (go_simp; with_reducible rfl)
          try simp only [Act.put, List.setIfInBounds_toArray, List.set_cons_zero, List.set_cons_succ]
          refine wpAnyH_take (i := 5) (oi := ⟨_, _, _, _, _, _⟩) (v := ?_) rfl (by kernel_rfl) (by kernel_rfl) (by kernel_rfl) (fun _ _ _ h => h) (Or.inl ⟨by kernel_rfl, ?_⟩) (by assumption) ?_
          rotate_left
          · intro w hSw
            try dsimp only at hSw
            first | (go_simp; done) | (go_simp; with_reducible rfl)
          try simp only [Act.put, List.setIfInBounds_toArray, List.set_cons_zero, List.set_cons_succ]
          refine wpAnyH_take (i := 6) (oi := ⟨_, _, _, _, _, _⟩) (v := ?_) rfl (by kernel_rfl) (by kernel_rfl) (by kernel_rfl) (fun _ _ _ h => h) (Or.inl ⟨by kernel_rfl, ?_⟩) (by assumption) ?_
          rotate_left
          · intro w hSw
            try dsimp only at hSw
            first | (go_simp; done) | (go_simp; with_reducible rfl)
          try simp only [Act.put, List.setIfInBounds_toArray, List.set_cons_zero, List.set_cons_succ]
          refine wpAnyH_take (i := 7) (oi := ⟨_, _, _, _, _, _⟩) (v := ?_) rfl (by kernel_rfl) (by kernel_rfl) (by kernel_rfl) (fun _ _ _ h => h) (Or.inl ⟨by kernel_rfl, ?_⟩) (by assumption) ?_
          rotate_left
          · intro w hSw
            try dsimp only at hSw
            first | (go_simp; done) | (go_simp; with_reducible rfl)
          try simp only [Act.put, List.setIfInBounds_toArray, List.set_cons_zero, List.set_cons_succ]
          refine wpAnyH_take (i := 8) (oi := ⟨_, _, _, _, _, _⟩) (v := ?_) rfl (by kernel_rfl) (by kernel_rfl) (by kernel_rfl) (fun _ _ _ h => h) (Or.inl ⟨by kernel_rfl, ?_⟩) (by assumption) ?_
          rotate_left
          · intro w hSw
            try dsimp only at hSw
            first | (go_simp; done) | (go_simp; with_reducible rfl)
          try simp only [Act.put, List.setIfInBounds_toArray, List.set_cons_zero, List.set_cons_succ]
          refine wpAnyH_take (i := 9) (oi := ⟨_, _, _, _, _, _⟩) (v := undef) rfl (by kernel_rfl) (by kernel_rfl) (by kernel_rfl) (fun _ _ _ h => h) (Or.inr ⟨by kernel_rfl, rfl⟩) (by assumption) ?_
          try simp only [Act.put, List.setIfInBounds_toArray, List.set_cons_zero, List.set_cons_succ]
          refine wpAnyH_take (i := 10) (oi := ⟨_, _, _, _, _, _⟩) (v := undef) rfl (by kernel_rfl) (by kernel_rfl) (by kernel_rfl) (fun _ _ _ h => h) (Or.inr ⟨by kernel_rfl, rfl⟩) (by assumption) ?_
          try simp only [Act.put, List.setIfInBounds_toArray, List.set_cons_zero, List.set_cons_succ]
          refine wpAnyH_take (i := 11) (oi := ⟨_, _, _, _, _, _⟩) (v := undef) rfl (by kernel_rfl) (by kernel_rfl) (by kernel_rfl) (fun _ _ _ h => h) (Or.inr ⟨by kernel_rfl, rfl⟩) (by assumption) ?_
          try simp only [Act.put, List.setIfInBounds_toArray, List.set_cons_zero, List.set_cons_succ]
          refine wpAnyH_take (i := 12) (oi := ⟨_, _, _, _, _, _⟩) (v := ?_) rfl (by kernel_rfl) (by kernel_rfl) (by kernel_rfl) (fun _ _ _ h => h) (Or.inl ⟨by kernel_rfl, ?_⟩) (by assumption) ?_
          rotate_left
          · intro w hSw
            try dsimp only at hSw
            first | (go_simp; done) | (go_simp; with_reducible rfl)
          try simp only [Act.put, List.setIfInBounds_toArray, List.set_cons_zero, List.set_cons_succ]
          refine wpAnyH_take (i := 13) (oi := ⟨_, _, _, _, _, _⟩) (v := ?_) rfl (by kernel_rfl) (by kernel_rfl) (by kernel_rfl) (fun _ _ _ h => h) (Or.inl ⟨by kernel_rfl, ?_⟩) (by assumption) ?_
          rotate_left
          · intro w hSw
            try dsimp only at hSw
            first | (go_simp; done) | (go_simp; with_reducible rfl)
          try simp only [Act.put, List.setIfInBounds_toArray, List.set_cons_zero, List.set_cons_succ]
          refine wpAnyH_take (i := 14) (oi := ⟨_, _, _, _, _, _⟩) (v := ?_) rfl (by kernel_rfl) (by kernel_rfl) (by kernel_rfl) (fun _ _ _ h => h) (Or.inl ⟨by kernel_rfl, ?_⟩) (by assumption) ?_
          rotate_left
          · intro w hSw
            try dsimp only at hSw
            first | (go_simp; done) | (go_simp; with_reducible rfl)
          try simp only [Act.put, List.setIfInBounds_toArray, List.set_cons_zero, List.set_cons_succ]
          refine wpAnyH_take (i := 15) (oi := ⟨_, _, _, _, _, _⟩) (v := ?_) rfl (by kernel_rfl) (by kernel_rfl) (by kernel_rfl) (fun _ _ _ h => h) (Or.inl ⟨by kernel_rfl, ?_⟩) (by assumption) ?_
          rotate_left
          · intro w hSw
            try dsimp only at hSw
            first | (go_simp; done) | (go_simp; with_reducible rfl)
          try simp only [Act.put, List.setIfInBounds_toArray, List.set_cons_zero, List.set_cons_succ]
          refine wpAnyH_take (i := 16) (oi := ⟨_, _, _, _, _, _⟩) (v := ?_) rfl (by kernel_rfl) (by kernel_rfl) (by kernel_rfl) (fun _ _ _ h => h) (Or.inl ⟨by kernel_rfl, ?_⟩) (by assumption) ?_
          rotate_left
          · intro w hSw
            try dsimp only at hSw
            first | (go_simp; done) | (go_simp; with_reducible rfl)
          try simp only [Act.put, List.setIfInBounds_toArray, List.set_cons_zero, List.set_cons_succ]
          refine wpAnyH_take (i := 17) (oi := ⟨_, _, _, _, _, _⟩) (v := ?_) rfl (by kernel_rfl) (by kernel_rfl) (by kernel_rfl) (fun _ _ _ h => h) (Or.inl ⟨by kernel_rfl, ?_⟩) (by assumption) ?_
          rotate_left
          · intro w hSw
            try dsimp only at hSw
            first | (go_simp; done) | (go_simp; with_reducible rfl)
          try simp only [Act.put, List.setIfInBounds_toArray, List.set_cons_zero, List.set_cons_succ]
          refine wpAnyH_ready (rs := [18]) (by kernel_rfl) (by simp) ?_
          refine AllReadyH.cons (o := ⟨_, _, _, _, _, _⟩) rfl (fun K hK => ?_) AllReadyH.nil
          go_simp
          refine (Tryd.c_Fault_at 0 _ (by decide)).mono ?_; rintro e wx ⟨rfl, hbx⟩
          go_wp2_with fail
          refine hK.out _ _ ?_ (fun hHeld => ?_)
          · exact ⟨Aid.cell_ext (Aid.bt hHeld.2.2 hbx) c0, Aid.cell_ext (Aid.bt hHeld.2.2 hbx) c1, Aid.bt hHeld.2.2 hbx⟩
          clear hK K
          try simp only [Act.put, List.setIfInBounds_toArray, List.set_cons_zero, List.set_cons_succ]
          refine wpAnyH_take (i := 19) (oi := ⟨_, _, _, _, _, _⟩) (v := ?_) rfl (by kernel_rfl) (by kernel_rfl) (by kernel_rfl) (fun _ _ _ h => h) (Or.inl ⟨by kernel_rfl, ?_⟩) (by assumption) ?_
          rotate_left
          · intro w hSw
            try dsimp only at hSw
            first | (go_simp; done) | (go_simp; with_reducible rfl)
          try simp only [Act.put, List.setIfInBounds_toArray, List.set_cons_zero, List.set_cons_succ]
          refine wpAnyH_take (i := 20) (oi := ⟨_, _, _, _, _, _⟩) (v := ?_) rfl (by kernel_rfl) (by kernel_rfl) (by kernel_rfl) (fun _ _ _ h => h) (Or.inl ⟨by kernel_rfl, ?_⟩) (by assumption) ?_
          rotate_left
          · intro w hSw
            try dsimp only at hSw
            first | (go_simp; done) | (go_simp; with_reducible rfl)
          try simp only [Act.put, List.setIfInBounds_toArray, List.set_cons_zero, List.set_cons_succ]
          refine wpAnyH_take (i := 21) (oi := ⟨_, _, _, _, _, _⟩) (v := ?_) rfl (by kernel_rfl) (by kernel_rfl) (by kernel_rfl) (fun _ _ _ h => h) (Or.inl ⟨by kernel_rfl, ?_⟩) (by assumption) ?_
          rotate_left
          · intro w hSw
            try dsimp only at hSw
            first | (go_simp; done) | (go_simp; with_reducible rfl)
          try simp only [Act.put, List.setIfInBounds_toArray, List.set_cons_zero, List.set_cons_succ]
          refine wpAnyH_take (i := 22) (oi := ⟨_, _, _, _, _, _⟩) (v := ?_) rfl (by kernel_rfl) (by kernel_rfl) (by kernel_rfl) (fun _ _ _ h => h) (Or.inl ⟨by kernel_rfl, ?_⟩) (by assumption) ?_
          rotate_left
          · intro w hSw
            try dsimp only at hSw
            first | (go_simp; done) | (go_simp; with_reducible rfl)
          try simp only [Act.put, List.setIfInBounds_toArray, List.set_cons_zero, List.set_cons_succ]
          refine wpAnyH_take (i := 23) (oi := ⟨_, _, _, _, _, _⟩) (v := ?_) rfl (by kernel_rfl) (by kernel_rfl) (by kernel_rfl) (fun _ _ _ h => h) (Or.inl ⟨by kernel_rfl, ?_⟩) (by assumption) ?_
          rotate_left
          · intro w hSw
            try dsimp only at hSw
            first | (go_simp; done) | (go_simp; with_reducible rfl)
          try simp only [Act.put, List.setIfInBounds_toArray, List.set_cons_zero, List.set_cons_succ]
          refine wpAnyH_done (by kernel_rfl) ?_ _
          obtain ⟨_, _, hfin⟩ := hHeld
          rename_i w4 _ _
          go_wp2
          go_ret
          exact ⟨rfl, Aid.bt hB3 hfin⟩
        · go_enter Tryd.func5, Tryd.ntmps5
          go_wp2_with (first
            | (go_at_call 15; refine (HC.out _).mono ?_; rintro e w1 ⟨rfl, hb1⟩)
            | (go_at_call 16; refine (HM.out _).mono ?_; rintro e w2 ⟨rfl, hb2⟩))
          have hB3 := (Aid.bt hb1 hb2).trans ((Below.refl _ _).alloc (by have := hb1.size; have := hb2.size; omega) (.cells #[.int .i64 2, .int .i64 0] 25))
          have hT3 := hT.below hB3
          obtain ⟨c0, c1, _, _⟩ := Aid.cells2 (x := .int .i64 2) (y := .int .i64 0) (T := 25) (Below.refl (w2.heap.size + 1) (w2.alloc (.cells #[.int .i64 2, .int .i64 0] 25)))
          generalize hW0 : w2.alloc (.cells #[.int .i64 2, .int .i64 0] 25) = W0 at *
          refine wp_region_held_drew (S := (fun w' => w'.cell? ⟨w2.heap.size, 0, none⟩ = some (.int .i64 2) ∧ w'.cell? ⟨w2.heap.size, 1, none⟩ = some (.int .i64 0) ∧ Below W0.heap.size W0 w')) (by kernel_rfl) ?_ (fun hHeld => ?_)
          · exact ⟨c0, c1, (Below.refl _ _).drew⟩
          refine wpAnyH_ready (rs := [0]) (by kernel_rfl) (by simp) ?_
          refine AllReadyH.cons (o := ⟨_, _, _, _, _, _⟩) rfl (fun K hK => ?_) AllReadyH.nil
          go_simp
          refine (Tryd.c_awake03 _ (hT3.below hHeld.2.2)).mono ?_; rintro e wx ⟨rfl, hbx⟩
          go_wp2_with fail
          refine hK.out _ _ ?_ (fun hHeld => ?_)
          · exact ⟨Aid.cell_ext (Aid.bt hHeld.2.2 hbx) c0, Aid.cell_ext (Aid.bt hHeld.2.2 hbx) c1, Aid.bt hHeld.2.2 hbx⟩
          clear hK K
          try simp only [Act.put, List.setIfInBounds_toArray, List.set_cons_zero, List.set_cons_succ]
          refine wpAnyH_take (i := 1) (oi := ⟨_, _, _, _, _, _⟩) (v := ?_) rfl (by kernel_rfl) (by kernel_rfl) (by kernel_rfl) (fun _ _ _ h => h) (Or.inl ⟨by kernel_rfl, ?_⟩) (by assumption) ?_
          rotate_left
          · intro w hSw
            try dsimp only at hSw
            first | (go_simp; done) | (go_simp; with_reducible rfl)
          try simp only [Act.put, List.setIfInBounds_toArray, List.set_cons_zero, List.set_cons_succ]
          refine wpAnyH_take (i := 2) (oi := ⟨_, _, _, _, _, _⟩) (v := ?_) rfl (by kernel_rfl) (by kernel_rfl) (by kernel_rfl) (fun _ _ _ h => h) (Or.inl ⟨by kernel_rfl, ?_⟩) (by assumption) ?_
          rotate_left
          · intro w hSw
            try dsimp only at hSw
            first | (go_simp; done) | (go_simp; with_reducible rfl)
          try simp only [Act.put, List.setIfInBounds_toArray, List.set_cons_zero, List.set_cons_succ]
          refine wpAnyH_take (i := 3) (oi := ⟨_, _, _, _, _, _⟩) (v := ?_) rfl (by kernel_rfl) (by kernel_rfl) (by kernel_rfl) (fun _ _ _ h => h) (Or.inl ⟨by kernel_rfl, ?_⟩) (by assumption) ?_
          rotate_left
          · intro w hSw
            try dsimp only at hSw
            first | (go_simp; done) | (go_simp; with_reducible rfl)
          try simp only [Act.put, List.setIfInBounds_toArray, List.set_cons_zero, List.set_cons_succ]
          refine wpAnyH_take (i := 4) (oi := ⟨_, _, _, _, _, _⟩) (v := ?_) rfl (by kernel_rfl) (by kernel_rfl) (by kernel_rfl) (fun _ _ _ h => h) (Or.inl ⟨by kernel_rfl, ?_⟩) (by assumption) ?_
          rotate_left
          · intro w hSw
            try dsimp only at hSw
            first | (go_simp; done) | (go_simp; with_reducible rfl)
          try simp only [Act.put, List.setIfInBounds_toArray, List.set_cons_zero, List.set_cons_succ]
          refine wpAnyH_take (i := 5) (oi := ⟨_, _, _, _, _, _⟩) (v := ?_) rfl (by kernel_rfl) (by kernel_rfl) (by kernel_rfl) (fun _ _ _ h => h) (Or.inl ⟨by kernel_rfl, ?_⟩) (by assumption) ?_
          rotate_left
          · intro w hSw
            try dsimp only at hSw
            first | (go_simp; done) | (go_simp; with_reducible rfl)
          try simp only [Act.put, List.setIfInBounds_toArray, List.set_cons_zero, List.set_cons_succ]
          refine wpAnyH_take (i := 6) (oi := ⟨_, _, _, _, _, _⟩) (v := ?_) rfl (by kernel_rfl) (by kernel_rfl) (by kernel_rfl) (fun _ _ _ h => h) (Or.inl ⟨by kernel_rfl, ?_⟩) (by assumption) ?_
          rotate_left
          · intro w hSw
            try dsimp only at hSw
            first | (go_simp; done) | (go_simp; with_reducible rfl)
          try simp only [Act.put, List.setIfInBounds_toArray, List.set_cons_zero, List.set_cons_succ]
          refine wpAnyH_take (i := 7) (oi := ⟨_, _, _, _, _, _⟩) (v := ?_) rfl (by kernel_rfl) (by kernel_rfl) (by kernel_rfl) (fun _ _ _ h => h) (Or.inl ⟨by kernel_rfl, ?_⟩) (by assumption) ?_
          rotate_left
          · intro w hSw
            try dsimp only at hSw
            first | (go_simp; done) | (go_simp; with_reducible rfl)
          try simp only [Act.put, List.setIfInBounds_toArray, List.set_cons_zero, List.set_cons_succ]
          refine wpAnyH_take (i := 8) (oi := ⟨_, _, _, _, _, _⟩) (v := ?_) rfl (by kernel_rfl) (by kernel_rfl) (by kernel_rfl) (fun _ _ _ h => h) (Or.inl ⟨by kernel_rfl, ?_⟩) (by assumption) ?_
          rotate_left
          · intro w hSw
            try dsimp only at hSw
            first | (go_simp; done) | (go_simp; with_reducible rfl)
          try simp only [Act.put, List.setIfInBounds_toArray, List.set_cons_zero, List.set_cons_succ]
          refine wpAnyH_take (i := 9) (oi := ⟨_, _, _, _, _, _⟩) (v := undef) rfl (by kernel_rfl) (by kernel_rfl) (by kernel_rfl) (fun _ _ _ h => h) (Or.inr ⟨by kernel_rfl, rfl⟩) (by assumption) ?_
          try simp only [Act.put, List.setIfInBounds_toArray, List.set_cons_zero, List.set_cons_succ]
          refine wpAnyH_take (i := 10) (oi := ⟨_, _, _, _, _, _⟩) (v := undef) rfl (by kernel_rfl) (by kernel_rfl) (by kernel_rfl) (fun _ _ _ h => h) (Or.inr ⟨by kernel_rfl, rfl⟩) (by assumption) ?_
          try simp only [Act.put, List.setIfInBounds_toArray, List.set_cons_zero, List.set_cons_succ]
          refine wpAnyH_take (i := 11) (oi := ⟨_, _, _, _, _, _⟩) (v := undef) rfl (by kernel_rfl) (by kernel_rfl) (by kernel_rfl) (fun _ _ _ h => h) (Or.inr ⟨by kernel_rfl, rfl⟩) (by assumption) ?_
          try simp only [Act.put, List.setIfInBounds_toArray, List.set_cons_zero, List.set_cons_succ]
          refine wpAnyH_take (i := 12) (oi := ⟨_, _, _, _, _, _⟩) (v := ?_) rfl (by kernel_rfl) (by kernel_rfl) (by kernel_rfl) (fun _ _ _ h => h) (Or.inl ⟨by kernel_rfl, ?_⟩) (by assumption) ?_
          rotate_left
          · intro w hSw
            try dsimp only at hSw
            first | (go_simp; done) | (go_simp; with_reducible rfl)
          try simp only [Act.put, List.setIfInBounds_toArray, List.set_cons_zero, List.set_cons_succ]
          refine wpAnyH_take (i := 13) (oi := ⟨_, _, _, _, _, _⟩) (v := ?_) rfl (by kernel_rfl) (by kernel_rfl) (by kernel_rfl) (fun _ _ _ h => h) (Or.inl ⟨by kernel_rfl, ?_⟩) (by assumption) ?_
          rotate_left
          · intro w hSw
            try dsimp only at hSw
            first | (go_simp; done) | (go_simp; with_reducible rfl)
          try simp only [Act.put, List.setIfInBounds_toArray, List.set_cons_zero, List.set_cons_succ]
          refine wpAnyH_take (i := 14) (oi := ⟨_, _, _, _, _, _⟩) (v := ?_) rfl (by kernel_rfl) (by kernel_rfl) (by kernel_rfl) (fun _ _ _ h => h) (Or.inl ⟨by kernel_rfl, ?_⟩) (by assumption) ?_
          rotate_left
          · intro w hSw
            try dsimp only at hSw
            first | (go_simp; done) | (go_simp; with_reducible rfl)
          try simp only [Act.put, List.setIfInBounds_toArray, List.set_cons_zero, List.set_cons_succ]
          refine wpAnyH_take (i := 15) (oi := ⟨_, _, _, _, _, _⟩) (v := ?_) rfl (by kernel_rfl) (by kernel_rfl) (by kernel_rfl) (fun _ _ _ h => h) (Or.inl ⟨by kernel_rfl, ?_⟩) (by assumption) ?_
          rotate_left
          · intro w hSw
            try dsimp only at hSw
            first | (go_simp; done) | (go_simp; with_reducible rfl)
          try simp only [Act.put, List.setIfInBounds_toArray, List.set_cons_zero, List.set_cons_succ]
          refine wpAnyH_take (i := 16) (oi := ⟨_, _, _, _, _, _⟩) (v := ?_) rfl (by kernel_rfl) (by kernel_rfl) (by kernel_rfl) (fun _ _ _ h => h) (Or.inl ⟨by kernel_rfl, ?_⟩) (by assumption) ?_
          rotate_left
          · intro w hSw
            try dsimp only at hSw
            first | (go_simp; done) | (go_simp; with_reducible rfl)
          try simp only [Act.put, List.setIfInBounds_toArray, List.set_cons_zero, List.set_cons_succ]
          refine wpAnyH_take (i := 17) (oi := ⟨_, _, _, _, _, _⟩) (v := ?_) rfl (by kernel_rfl) (by kernel_rfl) (by kernel_rfl) (fun _ _ _ h => h) (Or.inl ⟨by kernel_rfl, ?_⟩) (by assumption) ?_
          rotate_left
          · intro w hSw
            try dsimp only at hSw
            first | (go_simp; done) | (go_simp; with_reducible rfl)
          try simp only [Act.put, List.setIfInBounds_toArray, List.set_cons_zero, List.set_cons_succ]
          refine wpAnyH_ready (rs := [18]) (by kernel_rfl) (by simp) ?_
          refine AllReadyH.cons (o := ⟨_, _, _, _, _, _⟩) rfl (fun K hK => ?_) AllReadyH.nil
          go_simp
          refine (Tryd.c_Fault_at 0 _ (by decide)).mono ?_; rintro e wx ⟨rfl, hbx⟩
          go_wp2_with fail
          refine hK.out _ _ ?_ (fun hHeld => ?_)
          · exact ⟨Aid.cell_ext (Aid.bt hHeld.2.2 hbx) c0, Aid.cell_ext (Aid.bt hHeld.2.2 hbx) c1, Aid.bt hHeld.2.2 hbx⟩
          clear hK K
          try simp only [Act.put, List.setIfInBounds_toArray, List.set_cons_zero, List.set_cons_succ]
          refine wpAnyH_take (i := 19) (oi := ⟨_, _, _, _, _, _⟩) (v := ?_) rfl (by kernel_rfl) (by kernel_rfl) (by kernel_rfl) (fun _ _ _ h => h) (Or.inl ⟨by kernel_rfl, ?_⟩) (by assumption) ?_
          rotate_left
          · intro w hSw
            try dsimp only at hSw
            first | (go_simp; done) | (go_simp; with_reducible rfl)
          try simp only [Act.put, List.setIfInBounds_toArray, List.set_cons_zero, List.set_cons_succ]
          refine wpAnyH_take (i := 20) (oi := ⟨_, _, _, _, _, _⟩) (v := ?_) rfl (by kernel_rfl) (by kernel_rfl) (by kernel_rfl) (fun _ _ _ h => h) (Or.inl ⟨by kernel_rfl, ?_⟩) (by assumption) ?_
          rotate_left
          · intro w hSw
            try dsimp only at hSw
            first | (go_simp; done) | (go_simp; with_reducible rfl)
          try simp only [Act.put, List.setIfInBounds_toArray, List.set_cons_zero, List.set_cons_succ]
          refine wpAnyH_take (i := 21) (oi := ⟨_, _, _, _, _, _⟩) (v := ?_) rfl (by kernel_rfl) (by kernel_rfl) (by kernel_rfl) (fun _ _ _ h => h) (Or.inl ⟨by kernel_rfl, ?_⟩) (by assumption) ?_
          rotate_left
          · intro w hSw
            try dsimp only at hSw
            first | (go_simp; done) | (go_simp; with_reducible rfl)
          try simp only [Act.put, List.setIfInBounds_toArray, List.set_cons_zero, List.set_cons_succ]
          refine wpAnyH_take (i := 22) (oi := ⟨_, _, _, _, _, _⟩) (v := ?_) rfl (by kernel_rfl) (by kernel_rfl) (by kernel_rfl) (fun _ _ _ h => h) (Or.inl ⟨by kernel_rfl, ?_⟩) (by assumption) ?_
          rotate_left
          · intro w hSw
            try dsimp only at hSw
            first | (go_simp; done) | (go_simp; with_reducible rfl)
          try simp only [Act.put, List.setIfInBounds_toArray, List.set_cons_zero, List.set_cons_succ]
          refine wpAnyH_take (i := 23) (oi := ⟨_, _, _, _, _, _⟩) (v := ?_) rfl (by kernel_rfl) (by kernel_rfl) (by kernel_rfl) (fun _ _ _ h => h) (Or.inl ⟨by kernel_rfl, ?_⟩) (by assumption) ?_
          rotate_left
          · intro w hSw
            try dsimp only at hSw
            first | (go_simp; done) | (go_simp; with_reducible rfl)
          try simp only [Act.put, List.setIfInBounds_toArray, List.set_cons_zero, List.set_cons_succ]
          refine wpAnyH_done (by kernel_rfl) ?_ _
          obtain ⟨_, _, hfin⟩ := hHeld
          rename_i w4 _ _
          go_wp2
          go_ret
          exact ⟨rfl, Aid.bt hB3 hfin⟩
    · by_cases h0 : s.size = 0
      · obtain rfl : s = ⟨#[]⟩ := by
          apply ByteArray.ext
          exact Array.eq_empty_of_size_eq_zero h0
        have HC : Aid.Hid2 (∀ w, Calls Tryd.prog 15 #[.string ⟨#[]⟩] w fun e w' => e = .returned (.tuple #[.bool false, .bool false]) ∧ Below w.heap.size w w') :=
          ⟨fun w => Tryd.c_Mark ⟨#[]⟩ w hs6⟩
        clear htl
        go_enter Tryd.func5, Tryd.ntmps5
        go_wp2_with (first
          | (go_at_call 15; refine (HC.out _).mono ?_; rintro e w1 ⟨rfl, hb1⟩)
          | (go_at_call 16; refine (Tryd.c_nobytes _).mono ?_; rintro e w2 ⟨rfl, hb2⟩))
        have hB3 := (Aid.bt hb1 hb2).trans ((Below.refl _ _).alloc (by have := hb1.size; have := hb2.size; omega) (.cells #[.int .i64 0, .int .i64 0] 25))
        have hT3 := hT.below hB3
        obtain ⟨c0, c1, _, _⟩ := Aid.cells2 (x := .int .i64 0) (y := .int .i64 0) (T := 25) (Below.refl (w2.heap.size + 1) (w2.alloc (.cells #[.int .i64 0, .int .i64 0] 25)))
        generalize hW0 : w2.alloc (.cells #[.int .i64 0, .int .i64 0] 25) = W0 at *
        refine wp_region_held_drew (S := (fun w' => w'.cell? ⟨w2.heap.size, 0, none⟩ = some (.int .i64 0) ∧ w'.cell? ⟨w2.heap.size, 1, none⟩ = some (.int .i64 0) ∧ Below W0.heap.size W0 w')) (by kernel_rfl) ?_ (fun hHeld => ?_)
        · exact ⟨c0, c1, (Below.refl _ _).drew⟩
        refine wpAnyH_ready (rs := [0]) (by kernel_rfl) (by simp) ?_
        refine AllReadyH.cons (o := ⟨_, _, _, _, _, _⟩) rfl (fun K hK => ?_) AllReadyH.nil
        go_simp
        refine (Tryd.c_awake03 _ (hT3.below hHeld.2.2)).mono ?_; rintro e wx ⟨rfl, hbx⟩
        go_wp2_with fail
        refine hK.out _ _ ?_ (fun hHeld => ?_)
        · exact ⟨Aid.cell_ext (Aid.bt hHeld.2.2 hbx) c0, Aid.cell_ext (Aid.bt hHeld.2.2 hbx) c1, Aid.bt hHeld.2.2 hbx⟩
        clear hK K
        try simp only [Act.put, List.setIfInBounds_toArray, List.set_cons_zero, List.set_cons_succ]
        refine wpAnyH_take (i := 1) (oi := ⟨_, _, _, _, _, _⟩) (v := ?_) rfl (by kernel_rfl) (by kernel_rfl) (by kernel_rfl) (fun _ _ _ h => h) (Or.inl ⟨by kernel_rfl, ?_⟩) (by assumption) ?_
        rotate_left
        · intro w hSw
          try dsimp only at hSw
          first | (go_simp; done) | (go_simp; with_reducible rfl)
        try simp only [Act.put, List.setIfInBounds_toArray, List.set_cons_zero, List.set_cons_succ]
        refine wpAnyH_take (i := 2) (oi := ⟨_, _, _, _, _, _⟩) (v := ?_) rfl (by kernel_rfl) (by kernel_rfl) (by kernel_rfl) (fun _ _ _ h => h) (Or.inl ⟨by kernel_rfl, ?_⟩) (by assumption) ?_
        rotate_left
        · intro w hSw
          try dsimp only at hSw
          first | (go_simp; done) | (go_simp; with_reducible rfl)
        try simp only [Act.put, List.setIfInBounds_toArray, List.set_cons_zero, List.set_cons_succ]
        refine wpAnyH_take (i := 3) (oi := ⟨_, _, _, _, _, _⟩) (v := ?_) rfl (by kernel_rfl) (by kernel_rfl) (by kernel_rfl) (fun _ _ _ h => h) (Or.inl ⟨by kernel_rfl, ?_⟩) (by assumption) ?_
        rotate_left
        · intro w hSw
          try dsimp only at hSw
          first | (go_simp; done) | (go_simp; with_reducible rfl)
        try simp only [Act.put, List.setIfInBounds_toArray, List.set_cons_zero, List.set_cons_succ]
        refine wpAnyH_take (i := 4) (oi := ⟨_, _, _, _, _, _⟩) (v := ?_) rfl (by kernel_rfl) (by kernel_rfl) (by kernel_rfl) (fun _ _ _ h => h) (Or.inl ⟨by kernel_rfl, ?_⟩) (by assumption) ?_
        rotate_left
        · intro w hSw
          try dsimp only at hSw
          first | (go_simp; done) | (go_simp; with_reducible rfl)
        try simp only [Act.put, List.setIfInBounds_toArray, List.set_cons_zero, List.set_cons_succ]
        refine wpAnyH_take (i := 5) (oi := ⟨_, _, _, _, _, _⟩) (v := ?_) rfl (by kernel_rfl) (by kernel_rfl) (by kernel_rfl) (fun _ _ _ h => h) (Or.inl ⟨by kernel_rfl, ?_⟩) (by assumption) ?_
        rotate_left
        · intro w hSw
          try dsimp only at hSw
          first | (go_simp; done) | (go_simp; with_reducible rfl)
        try simp only [Act.put, List.setIfInBounds_toArray, List.set_cons_zero, List.set_cons_succ]
        refine wpAnyH_take (i := 6) (oi := ⟨_, _, _, _, _, _⟩) (v := ?_) rfl (by kernel_rfl) (by kernel_rfl) (by kernel_rfl) (fun _ _ _ h => h) (Or.inl ⟨by kernel_rfl, ?_⟩) (by assumption) ?_
        rotate_left
        · intro w hSw
          try dsimp only at hSw
          first | (go_simp; done) | (go_simp; with_reducible rfl)
        try simp only [Act.put, List.setIfInBounds_toArray, List.set_cons_zero, List.set_cons_succ]
        refine wpAnyH_take (i := 7) (oi := ⟨_, _, _, _, _, _⟩) (v := ?_) rfl (by kernel_rfl) (by kernel_rfl) (by kernel_rfl) (fun _ _ _ h => h) (Or.inl ⟨by kernel_rfl, ?_⟩) (by assumption) ?_
        rotate_left
        · intro w hSw
          try dsimp only at hSw
          first | (go_simp; done) | (go_simp; with_reducible rfl)
        try simp only [Act.put, List.setIfInBounds_toArray, List.set_cons_zero, List.set_cons_succ]
        refine wpAnyH_take (i := 8) (oi := ⟨_, _, _, _, _, _⟩) (v := ?_) rfl (by kernel_rfl) (by kernel_rfl) (by kernel_rfl) (fun _ _ _ h => h) (Or.inl ⟨by kernel_rfl, ?_⟩) (by assumption) ?_
        rotate_left
        · intro w hSw
          try dsimp only at hSw
          first | (go_simp; done) | (go_simp; with_reducible rfl)
        try simp only [Act.put, List.setIfInBounds_toArray, List.set_cons_zero, List.set_cons_succ]
        refine wpAnyH_take (i := 9) (oi := ⟨_, _, _, _, _, _⟩) (v := ?_) rfl (by kernel_rfl) (by kernel_rfl) (by kernel_rfl) (fun _ _ _ h => h) (Or.inl ⟨by kernel_rfl, ?_⟩) (by assumption) ?_
        rotate_left
        · intro w hSw
          try dsimp only at hSw
          first | (go_simp; done) | (go_simp; with_reducible rfl)
        try simp only [Act.put, List.setIfInBounds_toArray, List.set_cons_zero, List.set_cons_succ]
        refine wpAnyH_ready (rs := [10]) (by kernel_rfl) (by simp) ?_
        refine AllReadyH.cons (o := ⟨_, _, _, _, _, _⟩) rfl (fun K hK => ?_) AllReadyH.nil
        go_simp
        refine (Tryd.c_Bad_no _ _).mono ?_; rintro e wx ⟨rfl, hbx⟩
        go_wp2_with fail
        refine hK.out _ _ ?_ (fun hHeld => ?_)
        · exact ⟨Aid.cell_ext (Aid.bt hHeld.2.2 hbx) c0, Aid.cell_ext (Aid.bt hHeld.2.2 hbx) c1, Aid.bt hHeld.2.2 hbx⟩
        clear hK K
        try simp only [Act.put, List.setIfInBounds_toArray, List.set_cons_zero, List.set_cons_succ]
        refine wpAnyH_take (i := 11) (oi := ⟨_, _, _, _, _, _⟩) (v := ?_) rfl (by kernel_rfl) (by kernel_rfl) (by kernel_rfl) (fun _ _ _ h => h) (Or.inl ⟨by kernel_rfl, ?_⟩) (by assumption) ?_
        rotate_left
        · intro w hSw
          try dsimp only at hSw
          first | (go_simp; done) | (go_simp; with_reducible rfl)
        try simp only [Act.put, List.setIfInBounds_toArray, List.set_cons_zero, List.set_cons_succ]
        refine wpAnyH_take (i := 12) (oi := ⟨_, _, _, _, _, _⟩) (v := ?_) rfl (by kernel_rfl) (by kernel_rfl) (by kernel_rfl) (fun _ _ _ h => h) (Or.inl ⟨by kernel_rfl, ?_⟩) (by assumption) ?_
        rotate_left
        · intro w hSw
          try dsimp only at hSw
          first | (go_simp; done) | (go_simp; with_reducible rfl)
        try simp only [Act.put, List.setIfInBounds_toArray, List.set_cons_zero, List.set_cons_succ]
        refine wpAnyH_take (i := 13) (oi := ⟨_, _, _, _, _, _⟩) (v := ?_) rfl (by kernel_rfl) (by kernel_rfl) (by kernel_rfl) (fun _ _ _ h => h) (Or.inl ⟨by kernel_rfl, ?_⟩) (by assumption) ?_
        rotate_left
        · intro w hSw
          try dsimp only at hSw
          first | (go_simp; done) | (go_simp; with_reducible rfl)
        try simp only [Act.put, List.setIfInBounds_toArray, List.set_cons_zero, List.set_cons_succ]
        refine wpAnyH_take (i := 14) (oi := ⟨_, _, _, _, _, _⟩) (v := undef) rfl (by kernel_rfl) (by kernel_rfl) (by kernel_rfl) (fun _ _ _ h => h) (Or.inr ⟨by kernel_rfl, rfl⟩) (by assumption) ?_
        try simp only [Act.put, List.setIfInBounds_toArray, List.set_cons_zero, List.set_cons_succ]
        refine wpAnyH_take (i := 15) (oi := ⟨_, _, _, _, _, _⟩) (v := undef) rfl (by kernel_rfl) (by kernel_rfl) (by kernel_rfl) (fun _ _ _ h => h) (Or.inr ⟨by kernel_rfl, rfl⟩) (by assumption) ?_
        try simp only [Act.put, List.setIfInBounds_toArray, List.set_cons_zero, List.set_cons_succ]
        refine wpAnyH_take (i := 16) (oi := ⟨_, _, _, _, _, _⟩) (v := undef) rfl (by kernel_rfl) (by kernel_rfl) (by kernel_rfl) (fun _ _ _ h => h) (Or.inr ⟨by kernel_rfl, rfl⟩) (by assumption) ?_
        try simp only [Act.put, List.setIfInBounds_toArray, List.set_cons_zero, List.set_cons_succ]
        refine wpAnyH_take (i := 17) (oi := ⟨_, _, _, _, _, _⟩) (v := undef) rfl (by kernel_rfl) (by kernel_rfl) (by kernel_rfl) (fun _ _ _ h => h) (Or.inr ⟨by kernel_rfl, rfl⟩) (by assumption) ?_
        try simp only [Act.put, List.setIfInBounds_toArray, List.set_cons_zero, List.set_cons_succ]
        refine wpAnyH_take (i := 18) (oi := ⟨_, _, _, _, _, _⟩) (v := undef) rfl (by kernel_rfl) (by kernel_rfl) (by kernel_rfl) (fun _ _ _ h => h) (Or.inr ⟨by kernel_rfl, rfl⟩) (by assumption) ?_
        try simp only [Act.put, List.setIfInBounds_toArray, List.set_cons_zero, List.set_cons_succ]
        refine wpAnyH_take (i := 19) (oi := ⟨_, _, _, _, _, _⟩) (v := undef) rfl (by kernel_rfl) (by kernel_rfl) (by kernel_rfl) (fun _ _ _ h => h) (Or.inr ⟨by kernel_rfl, rfl⟩) (by assumption) ?_
        try simp only [Act.put, List.setIfInBounds_toArray, List.set_cons_zero, List.set_cons_succ]
        refine wpAnyH_take (i := 20) (oi := ⟨_, _, _, _, _, _⟩) (v := undef) rfl (by kernel_rfl) (by kernel_rfl) (by kernel_rfl) (fun _ _ _ h => h) (Or.inr ⟨by kernel_rfl, rfl⟩) (by assumption) ?_
        try simp only [Act.put, List.setIfInBounds_toArray, List.set_cons_zero, List.set_cons_succ]
        refine wpAnyH_take (i := 21) (oi := ⟨_, _, _, _, _, _⟩) (v := ?_) rfl (by kernel_rfl) (by kernel_rfl) (by kernel_rfl) (fun _ _ _ h => h) (Or.inl ⟨by kernel_rfl, ?_⟩) (by assumption) ?_
        rotate_left
        · intro w hSw
          try dsimp only at hSw
          first | (go_simp; done) | (go_simp; with_reducible rfl)
        try simp only [Act.put, List.setIfInBounds_toArray, List.set_cons_zero, List.set_cons_succ]
        refine wpAnyH_take (i := 22) (oi := ⟨_, _, _, _, _, _⟩) (v := ?_) rfl (by kernel_rfl) (by kernel_rfl) (by kernel_rfl) (fun _ _ _ h => h) (Or.inl ⟨by kernel_rfl, ?_⟩) (by assumption) ?_
        rotate_left
        · intro w hSw
          try dsimp only at hSw
          first | (go_simp; done) | (go_simp; with_reducible rfl)
        try simp only [Act.put, List.setIfInBounds_toArray, List.set_cons_zero, List.set_cons_succ]
        refine wpAnyH_take (i := 23) (oi := ⟨_, _, _, _, _, _⟩) (v := ?_) rfl (by kernel_rfl) (by kernel_rfl) (by kernel_rfl) (fun _ _ _ h => h) (Or.inl ⟨by kernel_rfl, ?_⟩) (by assumption) ?_
        rotate_left
        · intro w hSw
          try dsimp only at hSw
          first | (go_simp; done) | (go_simp; with_reducible rfl)
        try simp only [Act.put, List.setIfInBounds_toArray, List.set_cons_zero, List.set_cons_succ]
        refine wpAnyH_done (by kernel_rfl) ?_ _
        obtain ⟨_, _, hfin⟩ := hHeld
        rename_i w4 _ _
        go_wp2
        go_ret
        exact ⟨rfl, Aid.bt hB3 hfin⟩
      · have h2' : (s.size : Int) < 2 := by omega
        have hne : s.data.toList ≠ [] := by
          intro e
          have h8 := congrArg List.length e
          have h9 : s.data.toList.length = s.size := rfl
          rw [h9] at h8; simp at h8
          exact h0 (by rw [h8]; rfl)
        have hq : (s.toList == []) = false := by rw [htl]; simpa using hne
        have hm := Dia.mark_short s (by omega)
        have HC : Aid.Hid2 (∀ w, Calls Tryd.prog 15 #[.string s] w fun e w' => e = .returned (.tuple #[.bool false, .bool false]) ∧ Below w.heap.size w w') :=
          ⟨fun w => by have := Tryd.c_Mark s w hs6; rw [hm] at this; exact this⟩
        have HM := Aid.Hid2.mk (Tryd.c_nomark s (by rw [hm]) hne hs6)
        clear hm hne htl
        go_enter Tryd.func5, Tryd.ntmps5
        go_wp2_with (first
          | (go_at_call 15; refine (HC.out _).mono ?_; rintro e w1 ⟨rfl, hb1⟩)
          | (go_at_call 16; refine (HM.out _).mono ?_; rintro e w2 ⟨rfl, hb2⟩))
        have hB3 := (Aid.bt hb1 hb2).trans ((Below.refl _ _).alloc (by have := hb1.size; have := hb2.size; omega) (.cells #[.int .i64 2, .int .i64 0] 25))
        have hT3 := hT.below hB3
        obtain ⟨c0, c1, _, _⟩ := Aid.cells2 (x := .int .i64 2) (y := .int .i64 0) (T := 25) (Below.refl (w2.heap.size + 1) (w2.alloc (.cells #[.int .i64 2, .int .i64 0] 25)))
        generalize hW0 : w2.alloc (.cells #[.int .i64 2, .int .i64 0] 25) = W0 at *
        refine wp_region_held_drew (S := (fun w' => w'.cell? ⟨w2.heap.size, 0, none⟩ = some (.int .i64 2) ∧ w'.cell? ⟨w2.heap.size, 1, none⟩ = some (.int .i64 0) ∧ Below W0.heap.size W0 w')) (by kernel_rfl) ?_ (fun hHeld => ?_)
        · exact ⟨c0, c1, (Below.refl _ _).drew⟩
        refine wpAnyH_ready (rs := [0]) (by kernel_rfl) (by simp) ?_
        refine AllReadyH.cons (o := ⟨_, _, _, _, _, _⟩) rfl (fun K hK => ?_) AllReadyH.nil
        go_simp
        refine (Tryd.c_awake03 _ (hT3.below hHeld.2.2)).mono ?_; rintro e wx ⟨rfl, hbx⟩
        go_wp2_with fail
        refine hK.out _ _ ?_ (fun hHeld => ?_)
        · exact ⟨Aid.cell_ext (Aid.bt hHeld.2.2 hbx) c0, Aid.cell_ext (Aid.bt hHeld.2.2 hbx) c1, Aid.bt hHeld.2.2 hbx⟩
        clear hK K
        try simp only [Act.put, List.setIfInBounds_toArray, List.set_cons_zero, List.set_cons_succ]
        refine wpAnyH_take (i := 1) (oi := ⟨_, _, _, _, _, _⟩) (v := ?_) rfl (by kernel_rfl) (by kernel_rfl) (by kernel_rfl) (fun _ _ _ h => h) (Or.inl ⟨by kernel_rfl, ?_⟩) (by assumption) ?_
        rotate_left
        · intro w hSw
          try dsimp only at hSw
          first | (go_simp; done) | (go_simp; with_reducible rfl)
        try simp only [Act.put, List.setIfInBounds_toArray, List.set_cons_zero, List.set_cons_succ]
        refine wpAnyH_take (i := 2) (oi := ⟨_, _, _, _, _, _⟩) (v := ?_) rfl (by kernel_rfl) (by kernel_rfl) (by kernel_rfl) (fun _ _ _ h => h) (Or.inl ⟨by kernel_rfl, ?_⟩) (by assumption) ?_
        rotate_left
        · intro w hSw
          try dsimp only at hSw
          first | (go_simp; done) | (go_simp; with_reducible rfl)
        try simp only [Act.put, List.setIfInBounds_toArray, List.set_cons_zero, List.set_cons_succ]
        refine wpAnyH_take (i := 3) (oi := ⟨_, _, _, _, _, _⟩) (v := ?_) rfl (by kernel_rfl) (by kernel_rfl) (by kernel_rfl) (fun _ _ _ h => h) (Or.inl ⟨by kernel_rfl, ?_⟩) (by assumption) ?_
        rotate_left
        · intro w hSw
          try dsimp only at hSw
          first | (go_simp; done) | (go_simp; with_reducible rfl)
        try simp only [Act.put, List.setIfInBounds_toArray, List.set_cons_zero, List.set_cons_succ]
        refine wpAnyH_take (i := 4) (oi := ⟨_, _, _, _, _, _⟩) (v := ?_) rfl (by kernel_rfl) (by kernel_rfl) (by kernel_rfl) (fun _ _ _ h => h) (Or.inl ⟨by kernel_rfl, ?_⟩) (by assumption) ?_
        rotate_left
        · intro w hSw
          try dsimp only at hSw
          first | (go_simp; done) | (go_simp; with_reducible rfl)
        try simp only [Act.put, List.setIfInBounds_toArray, List.set_cons_zero, List.set_cons_succ]
        refine wpAnyH_take (i := 5) (oi := ⟨_, _, _, _, _, _⟩) (v := ?_) rfl (by kernel_rfl) (by kernel_rfl) (by kernel_rfl) (fun _ _ _ h => h) (Or.inl ⟨by kernel_rfl, ?_⟩) (by assumption) ?_
        rotate_left
        · intro w hSw
          try dsimp only at hSw
          first | (go_simp; done) | (go_simp; with_reducible rfl)
        try simp only [Act.put, List.setIfInBounds_toArray, List.set_cons_zero, List.set_cons_succ]
        refine wpAnyH_take (i := 6) (oi := ⟨_, _, _, _, _, _⟩) (v := ?_) rfl (by kernel_rfl) (by kernel_rfl) (by kernel_rfl) (fun _ _ _ h => h) (Or.inl ⟨by kernel_rfl, ?_⟩) (by assumption) ?_
        rotate_left
        · intro w hSw
          try dsimp only at hSw
          first | (go_simp; done) | (go_simp; with_reducible rfl)
        try simp only [Act.put, List.setIfInBounds_toArray, List.set_cons_zero, List.set_cons_succ]
        refine wpAnyH_take (i := 7) (oi := ⟨_, _, _, _, _, _⟩) (v := ?_) rfl (by kernel_rfl) (by kernel_rfl) (by kernel_rfl) (fun _ _ _ h => h) (Or.inl ⟨by kernel_rfl, ?_⟩) (by assumption) ?_
        rotate_left
        · intro w hSw
          try dsimp only at hSw
          first | (go_simp; done) | (go_simp; with_reducible rfl)
        try simp only [Act.put, List.setIfInBounds_toArray, List.set_cons_zero, List.set_cons_succ]
        refine wpAnyH_take (i := 8) (oi := ⟨_, _, _, _, _, _⟩) (v := ?_) rfl (by kernel_rfl) (by kernel_rfl) (by kernel_rfl) (fun _ _ _ h => h) (Or.inl ⟨by kernel_rfl, ?_⟩) (by assumption) ?_
        rotate_left
        · intro w hSw
          try dsimp only at hSw
          first | (go_simp; done) | (go_simp; with_reducible rfl)
        try simp only [Act.put, List.setIfInBounds_toArray, List.set_cons_zero, List.set_cons_succ]
        refine wpAnyH_take (i := 9) (oi := ⟨_, _, _, _, _, _⟩) (v := undef) rfl (by kernel_rfl) (by kernel_rfl) (by kernel_rfl) (fun _ _ _ h => h) (Or.inr ⟨by kernel_rfl, rfl⟩) (by assumption) ?_
        try simp only [Act.put, List.setIfInBounds_toArray, List.set_cons_zero, List.set_cons_succ]
        refine wpAnyH_take (i := 10) (oi := ⟨_, _, _, _, _, _⟩) (v := undef) rfl (by kernel_rfl) (by kernel_rfl) (by kernel_rfl) (fun _ _ _ h => h) (Or.inr ⟨by kernel_rfl, rfl⟩) (by assumption) ?_
        try simp only [Act.put, List.setIfInBounds_toArray, List.set_cons_zero, List.set_cons_succ]
        refine wpAnyH_take (i := 11) (oi := ⟨_, _, _, _, _, _⟩) (v := undef) rfl (by kernel_rfl) (by kernel_rfl) (by kernel_rfl) (fun _ _ _ h => h) (Or.inr ⟨by kernel_rfl, rfl⟩) (by assumption) ?_
        try simp only [Act.put, List.setIfInBounds_toArray, List.set_cons_zero, List.set_cons_succ]
        refine wpAnyH_take (i := 12) (oi := ⟨_, _, _, _, _, _⟩) (v := ?_) rfl (by kernel_rfl) (by kernel_rfl) (by kernel_rfl) (fun _ _ _ h => h) (Or.inl ⟨by kernel_rfl, ?_⟩) (by assumption) ?_
        rotate_left
        · intro w hSw
          try dsimp only at hSw
          first | (go_simp; done) | (go_simp; with_reducible rfl)
        try simp only [Act.put, List.setIfInBounds_toArray, List.set_cons_zero, List.set_cons_succ]
        refine wpAnyH_take (i := 13) (oi := ⟨_, _, _, _, _, _⟩) (v := ?_) rfl (by kernel_rfl) (by kernel_rfl) (by kernel_rfl) (fun _ _ _ h => h) (Or.inl ⟨by kernel_rfl, ?_⟩) (by assumption) ?_
        rotate_left
        · intro w hSw
          try dsimp only at hSw
          first | (go_simp; done) | (go_simp; with_reducible rfl)
        try simp only [Act.put, List.setIfInBounds_toArray, List.set_cons_zero, List.set_cons_succ]
        refine wpAnyH_take (i := 14) (oi := ⟨_, _, _, _, _, _⟩) (v := ?_) rfl (by kernel_rfl) (by kernel_rfl) (by kernel_rfl) (fun _ _ _ h => h) (Or.inl ⟨by kernel_rfl, ?_⟩) (by assumption) ?_
        rotate_left
        · intro w hSw
          try dsimp only at hSw
          first | (go_simp; done) | (go_simp; with_reducible rfl)
        try simp only [Act.put, List.setIfInBounds_toArray, List.set_cons_zero, List.set_cons_succ]
        refine wpAnyH_take (i := 15) (oi := ⟨_, _, _, _, _, _⟩) (v := ?_) rfl (by kernel_rfl) (by kernel_rfl) (by kernel_rfl) (fun _ _ _ h => h) (Or.inl ⟨by kernel_rfl, ?_⟩) (by assumption) ?_
        rotate_left
        · intro w hSw
          try dsimp only at hSw
          first | (go_simp; done) | (go_simp; with_reducible rfl)
        try simp only [Act.put, List.setIfInBounds_toArray, List.set_cons_zero, List.set_cons_succ]
        refine wpAnyH_take (i := 16) (oi := ⟨_, _, _, _, _, _⟩) (v := ?_) rfl (by kernel_rfl) (by kernel_rfl) (by kernel_rfl) (fun _ _ _ h => h) (Or.inl ⟨by kernel_rfl, ?_⟩) (by assumption) ?_
        rotate_left
        · intro w hSw
          try dsimp only at hSw
          first | (go_simp; done) | (go_simp; with_reducible rfl)
        try simp only [Act.put, List.setIfInBounds_toArray, List.set_cons_zero, List.set_cons_succ]
        refine wpAnyH_take (i := 17) (oi := ⟨_, _, _, _, _, _⟩) (v := ?_) rfl (by kernel_rfl) (by kernel_rfl) (by kernel_rfl) (fun _ _ _ h => h) (Or.inl ⟨by kernel_rfl, ?_⟩) (by assumption) ?_
        rotate_left
        · intro w hSw
          try dsimp only at hSw
          first | (go_simp; done) | (go_simp; with_reducible rfl)
        try simp only [Act.put, List.setIfInBounds_toArray, List.set_cons_zero, List.set_cons_succ]
        refine wpAnyH_ready (rs := [18]) (by kernel_rfl) (by simp) ?_
        refine AllReadyH.cons (o := ⟨_, _, _, _, _, _⟩) rfl (fun K hK => ?_) AllReadyH.nil
        go_simp
        refine (Tryd.c_Fault_at 0 _ (by decide)).mono ?_; rintro e wx ⟨rfl, hbx⟩
        go_wp2_with fail
        refine hK.out _ _ ?_ (fun hHeld => ?_)
        · exact ⟨Aid.cell_ext (Aid.bt hHeld.2.2 hbx) c0, Aid.cell_ext (Aid.bt hHeld.2.2 hbx) c1, Aid.bt hHeld.2.2 hbx⟩
        clear hK K
        try simp only [Act.put, List.setIfInBounds_toArray, List.set_cons_zero, List.set_cons_succ]
        refine wpAnyH_take (i := 19) (oi := ⟨_, _, _, _, _, _⟩) (v := ?_) rfl (by kernel_rfl) (by kernel_rfl) (by kernel_rfl) (fun _ _ _ h => h) (Or.inl ⟨by kernel_rfl, ?_⟩) (by assumption) ?_
        rotate_left
        · intro w hSw
          try dsimp only at hSw
          first | (go_simp; done) | (go_simp; with_reducible rfl)
        try simp only [Act.put, List.setIfInBounds_toArray, List.set_cons_zero, List.set_cons_succ]
        refine wpAnyH_take (i := 20) (oi := ⟨_, _, _, _, _, _⟩) (v := ?_) rfl (by kernel_rfl) (by kernel_rfl) (by kernel_rfl) (fun _ _ _ h => h) (Or.inl ⟨by kernel_rfl, ?_⟩) (by assumption) ?_
        rotate_left
        · intro w hSw
          try dsimp only at hSw
          first | (go_simp; done) | (go_simp; with_reducible rfl)
        try simp only [Act.put, List.setIfInBounds_toArray, List.set_cons_zero, List.set_cons_succ]
        refine wpAnyH_take (i := 21) (oi := ⟨_, _, _, _, _, _⟩) (v := ?_) rfl (by kernel_rfl) (by kernel_rfl) (by kernel_rfl) (fun _ _ _ h => h) (Or.inl ⟨by kernel_rfl, ?_⟩) (by assumption) ?_
        rotate_left
        · intro w hSw
          try dsimp only at hSw
          first | (go_simp; done) | (go_simp; with_reducible rfl)
        try simp only [Act.put, List.setIfInBounds_toArray, List.set_cons_zero, List.set_cons_succ]
        refine wpAnyH_take (i := 22) (oi := ⟨_, _, _, _, _, _⟩) (v := ?_) rfl (by kernel_rfl) (by kernel_rfl) (by kernel_rfl) (fun _ _ _ h => h) (Or.inl ⟨by kernel_rfl, ?_⟩) (by assumption) ?_
        rotate_left
        · intro w hSw
          try dsimp only at hSw
          first | (go_simp; done) | (go_simp; with_reducible rfl)
        try simp only [Act.put, List.setIfInBounds_toArray, List.set_cons_zero, List.set_cons_succ]
        refine wpAnyH_take (i := 23) (oi := ⟨_, _, _, _, _, _⟩) (v := ?_) rfl (by kernel_rfl) (by kernel_rfl) (by kernel_rfl) (fun _ _ _ h => h) (Or.inl ⟨by kernel_rfl, ?_⟩) (by assumption) ?_
        rotate_left
        · intro w hSw
          try dsimp only at hSw
          first | (go_simp; done) | (go_simp; with_reducible rfl)
        try simp only [Act.put, List.setIfInBounds_toArray, List.set_cons_zero, List.set_cons_succ]
        refine wpAnyH_done (by kernel_rfl) ?_ _
        obtain ⟨_, _, hfin⟩ := hHeld
        rename_i w4 _ _
        go_wp2
        go_ret
        exact ⟨rfl, Aid.bt hB3 hfin⟩
  · have hgt : (2000 : Int) < (s.size : Int) := by omega
    go_enter Tryd.func5, Tryd.ntmps5
    go_wp2_with (go_at_call 7; refine (Tryd.c_awake03 _ hT).mono ?_; rintro e w2 ⟨rfl, hb2⟩)
    go_ret
    exact ⟨rfl, hb2⟩
end Go.Proofs
