/- the laws of layer 2, walked: PointCuts -/
import Derived.Test.YtpiegilccciinaaDoorL02b
namespace Go.Proofs
open Go.RowKit

theorem Tryd.c_Bad_no (b : Int) (w : World) : Calls Tryd.prog 14 #[.agg #[.int .i64 0, .int .i64 b]] w fun e w' => e = .returned (.bool false) ∧ Below w.heap.size w w' := Tryd.c_Bad 0 b w
theorem Tryd.c_Bad_yes (b : Int) (w : World) : Calls Tryd.prog 14 #[.agg #[.int .i64 2, .int .i64 b]] w fun e w' => e = .returned (.bool true) ∧ Below w.heap.size w w' := Tryd.c_Bad 2 b w
theorem Dia.pts_append {l : List Int} (h : ∀ p ∈ l, Dia.sc p = true) (r : List UInt8) : (Dia.pts (Dia.encs l ++ r)).2 = if (Dia.pts r).2 < 0 then -1 else ((Dia.encs l).length : Int) + (Dia.pts r).2 := by
  rcases Dia.pts_cases r with ⟨ps, h1, h2, h3⟩ | ⟨ps, r', h1, h2, h3, h4, h5⟩
  · have hn : (Dia.pts r).2 < 0 := by rw [h3]; show (-1 : Int) < 0; omega
    rw [if_pos hn, h2, ← Dia.encs_append, Dia.pts_ok _ (by
      intro p hp
      rcases List.mem_append.1 hp with hp | hp
      · exact h p hp
      · exact h1 p hp)]
  · have hn : ¬ (Dia.pts r).2 < 0 := by rw [h5]; simp only; omega
    rw [if_neg hn, h5, h4, ← List.append_assoc, ← Dia.encs_append, Dia.pts_bad _ (by
      intro p hp
      rcases List.mem_append.1 hp with hp | hp
      · exact h p hp
      · exact h1 p hp) r' h2 h3, Dia.encs_append, List.length_append]
    simp

set_option maxRecDepth 100000 in
set_option maxHeartbeats 8000000 in
theorem Tryd.w_PointCuts (a : Option Addr) (l : List Int) (cap : Nat) (s : ByteArray) (w : World) (hT : Tryd.Tabs w) (hrow : Aid.RowAt w a (l.map Dia.rv)) (_hw : ∀ p ∈ l, -2147483648 ≤ p ∧ p ≤ 2147483647) (hmax : l.length ≤ 9223372036854775807) (hmaxs : s.size ≤ 9223372036854775807) :
    Calls Tryd.prog 4 #[.slice a l.length cap, .string s] w fun e w' => e = .returned (.bool true) ∧ Below w.heap.size w w' := by
  by_cases hlen : l.length ≤ 200
  · have hlen' : ¬ (200 : Int) < (l.length : Int) := by omega
    by_cases hls : s.size ≤ 500
    · have hl6 : l.length ≤ 1000000 := by omega
      have hs6 : s.size ≤ 9223372036854775000 := by omega
      have hls' : ¬ (500 : Int) < (s.size : Int) := by omega
      rcases Dia.txt_cases l with ⟨hsc, htx⟩ | ⟨kb, hkb, hbad, htx⟩
      · have hel := Dia.encs_le l
        obtain ⟨t, ht⟩ : ∃ t : ByteArray, t = ⟨(Dia.encs l).toArray⟩ := ⟨_, rfl⟩
        have htl : t.data.toList = Dia.encs l := by rw [ht]
        have htsz : t.size = (Dia.encs l).length := by rw [← htl]; rfl
        have hts : t.size ≤ 800 := by rw [htsz]; omega
        have hap : (t ++ s).data.toList = Dia.encs l ++ s.data.toList := by rw [← htl]; simp
        have hasz : (t ++ s).size = t.size + s.size := by simp
        have hpa := Dia.pts_append hsc s.data.toList
        have HTx : Aid.Hid2 (∀ w, Aid.RowAt w a (l.map Dia.rv) → Calls Tryd.prog 8 #[.slice a l.length cap] w fun e w' => e = .returned (.tuple #[.string t, .bool true]) ∧ Below w.heap.size w w') :=
          ⟨fun w hr => by have := Tryd.c_Text a l cap w hr hl6; rw [htx] at this; rw [ht]; exact this⟩
        by_cases hneg : (Dia.pts s.data.toList).2 < 0
        · have HC1 : Aid.Hid2 (∀ w, Tryd.Tabs w → Calls Tryd.prog 13 #[.string s] w fun e w' => e = .returned (.agg #[.int .i64 0, .int .i64 0]) ∧ Below w.heap.size w w') :=
            ⟨fun w hT => (Tryd.c_Check s w (by omega) hT).mono fun e w' ⟨x, y, h1, ⟨h2, h3⟩, h4⟩ => ⟨by rw [h1, h2, h3, if_pos hneg, if_pos hneg], h4⟩⟩
          have HC2 : Aid.Hid2 (∀ w, Tryd.Tabs w → Calls Tryd.prog 13 #[.string (t ++ s)] w fun e w' => e = .returned (.agg #[.int .i64 0, .int .i64 0]) ∧ Below w.heap.size w w') :=
            ⟨fun w hT => (Tryd.c_Check (t ++ s) w (by omega) hT).mono fun e w' ⟨x, y, h1, ⟨h2, h3⟩, h4⟩ => ⟨by rw [h1, h2, h3, hap, hpa, if_pos hneg]; rfl, h4⟩⟩
          clear htx hap hpa htl htsz ht hel hsc hneg hasz
          go_enter Tryd.func4, Tryd.ntmps4
          go_wp2_with (first
            | (go_at_call 8; refine (HTx.out _ hrow).mono ?_; rintro e w1 ⟨rfl, hb1⟩)
            | (go_at_call 13; (with_reducible refine (HC1.out _ (hT.below hb1)).mono ?_); rintro e w2 ⟨rfl, hb2⟩)
            | (go_at_call 13; (with_reducible refine (HC2.out _ ((hT.below hb1).below hb2)).mono ?_); rintro e w3 ⟨rfl, hb3⟩))
          have hB3 := Aid.bt (Aid.bt hb1 hb2) hb3
          obtain ⟨W0, hW0⟩ : ∃ W0, W0 = (w3.alloc (.cells #[.int .i64 0, .int .i64 0] 30)).alloc (.cells #[.int .i64 0, .int .i64 0] 30) := ⟨_, rfl⟩
          have hBW : Below w.heap.size w W0 := by rw [hW0]; exact (hB3.alloc hB3.size _).alloc (by have := hB3.size; simp; omega) _
          have c0 : W0.cell? ⟨w3.heap.size, 0, none⟩ = some (.int .i64 0) := by rw [hW0]; simp
          have c1 : W0.cell? ⟨w3.heap.size, 1, none⟩ = some (.int .i64 0) := by rw [hW0]; simp
          have c2 : W0.cell? ⟨w3.heap.size + 1, 0, none⟩ = some (.int .i64 0) := by rw [hW0]; simp
          have c3 : W0.cell? ⟨w3.heap.size + 1, 1, none⟩ = some (.int .i64 0) := by rw [hW0]; simp
          rw [← hW0]
          clear hW0
          have hT0 := hT.below hBW
          refine wp_region_held_drew (S := (fun w' => w'.cell? ⟨w3.heap.size, 0, none⟩ = some (.int .i64 0) ∧ w'.cell? ⟨w3.heap.size, 1, none⟩ = some (.int .i64 0) ∧ w'.cell? ⟨w3.heap.size + 1, 0, none⟩ = some (.int .i64 0) ∧ w'.cell? ⟨w3.heap.size + 1, 1, none⟩ = some (.int .i64 0) ∧ Below W0.heap.size W0 w')) (by kernel_rfl) ?_ (fun hHeld => ?_)
          · exact ⟨c0, c1, c2, c3, (Below.refl _ _).drew⟩
          refine wpAnyH_ready (rs := [0]) (by kernel_rfl) (by simp) ?_
          refine AllReadyH.cons (o := ⟨_, _, _, _, _, _⟩) rfl (fun K hK => ?_) AllReadyH.nil
          go_simp
          refine (Tryd.c_awake02 _ (hT0.below hHeld.2.2.2.2)).mono ?_; rintro e wx ⟨rfl, hbx⟩
          go_wp2_with fail
          refine hK.out _ _ ?_ (fun hHeld => ?_)
          · exact ⟨Aid.cell_ext (Aid.bt hHeld.2.2.2.2 hbx) c0, Aid.cell_ext (Aid.bt hHeld.2.2.2.2 hbx) c1, Aid.cell_ext (Aid.bt hHeld.2.2.2.2 hbx) c2, Aid.cell_ext (Aid.bt hHeld.2.2.2.2 hbx) c3, Aid.bt hHeld.2.2.2.2 hbx⟩
          clear hK K
          try simp only [Act.put, List.setIfInBounds_toArray, List.set_cons_zero, List.set_cons_succ]
          refine wpAnyH_take (i := 1) (oi := ⟨_, _, _, _, _, _⟩) (v := ?_) rfl (by kernel_rfl) (by kernel_rfl) (by kernel_rfl) (fun _ _ _ h => h) (Or.inl ⟨by kernel_rfl, ?_⟩) (by assumption) ?_
          rotate_left
          · intro w hSw
            try dsimp only at hSw
            first | (go_simp; done) | (go_simp; with_reducible rfl)
          try simp only [Act.put, List.setIfInBounds_toArray, List.set_cons_zero, List.set_cons_succ]
          refine wpAnyH_take (i := 2) (oi := ⟨_, _, _, _, _, _⟩) (v := ?_) rfl (by kernel_rfl) (by kernel_rfl) (by kernel_rfl) (fun _ _ _ h => h) (Or.inl ⟨by kernel_rfl, ?_⟩) (by assumption) ?_
          rotate_left
          · intro w hSw
            try dsimp only at hSw
            first | (go_simp; done) | (go_simp; with_reducible rfl)
          try simp only [Act.put, List.setIfInBounds_toArray, List.set_cons_zero, List.set_cons_succ]
          refine wpAnyH_take (i := 4) (oi := ⟨_, _, _, _, _, _⟩) (v := ?_) rfl (by kernel_rfl) (by kernel_rfl) (by kernel_rfl) (fun _ _ _ h => h) (Or.inl ⟨by kernel_rfl, ?_⟩) (by assumption) ?_
          rotate_left
          · intro w hSw
            try dsimp only at hSw
            first | (go_simp; done) | (go_simp; with_reducible rfl)
          try simp only [Act.put, List.setIfInBounds_toArray, List.set_cons_zero, List.set_cons_succ]
          refine wpAnyH_ready (rs := [3]) (by kernel_rfl) (by simp) ?_
          refine AllReadyH.cons (o := ⟨_, _, _, _, _, _⟩) rfl (fun K hK => ?_) AllReadyH.nil
          go_simp
          refine (Tryd.c_Bad_no _ _).mono ?_; rintro e wx ⟨rfl, hbx⟩
          go_wp2_with fail
          refine hK.out _ _ ?_ (fun hHeld => ?_)
          · exact ⟨Aid.cell_ext (Aid.bt hHeld.2.2.2.2 hbx) c0, Aid.cell_ext (Aid.bt hHeld.2.2.2.2 hbx) c1, Aid.cell_ext (Aid.bt hHeld.2.2.2.2 hbx) c2, Aid.cell_ext (Aid.bt hHeld.2.2.2.2 hbx) c3, Aid.bt hHeld.2.2.2.2 hbx⟩
          clear hK K
          try simp only [Act.put, List.setIfInBounds_toArray, List.set_cons_zero, List.set_cons_succ]
          refine wpAnyH_ready (rs := [5]) (by kernel_rfl) (by simp) ?_
          refine AllReadyH.cons (o := ⟨_, _, _, _, _, _⟩) rfl (fun K hK => ?_) AllReadyH.nil
          go_simp
          refine (Tryd.c_Bad_no _ _).mono ?_; rintro e wx ⟨rfl, hbx⟩
          go_wp2_with fail
          refine hK.out _ _ ?_ (fun hHeld => ?_)
          · exact ⟨Aid.cell_ext (Aid.bt hHeld.2.2.2.2 hbx) c0, Aid.cell_ext (Aid.bt hHeld.2.2.2.2 hbx) c1, Aid.cell_ext (Aid.bt hHeld.2.2.2.2 hbx) c2, Aid.cell_ext (Aid.bt hHeld.2.2.2.2 hbx) c3, Aid.bt hHeld.2.2.2.2 hbx⟩
          clear hK K
          try simp only [Act.put, List.setIfInBounds_toArray, List.set_cons_zero, List.set_cons_succ]
          refine wpAnyH_take (i := 6) (oi := ⟨_, _, _, _, _, _⟩) (v := ?_) rfl (by kernel_rfl) (by kernel_rfl) (by kernel_rfl) (fun _ _ _ h => h) (Or.inl ⟨by kernel_rfl, ?_⟩) (by assumption) ?_
          rotate_left
          · intro w hSw
            try dsimp only at hSw
            first | (go_simp; done) | (go_simp; with_reducible rfl)
          try simp only [Act.put, List.setIfInBounds_toArray, List.set_cons_zero, List.set_cons_succ]
          refine wpAnyH_take (i := 7) (oi := ⟨_, _, _, _, _, _⟩) (v := ?_) rfl (by kernel_rfl) (by kernel_rfl) (by kernel_rfl) (fun _ _ _ h => h) (Or.inl ⟨by kernel_rfl, ?_⟩) (by assumption) ?_
          rotate_left
          · intro w hSw
            try dsimp only at hSw
            first | (go_simp; done) | (go_simp; with_reducible rfl)
          try simp only [Act.put, List.setIfInBounds_toArray, List.set_cons_zero, List.set_cons_succ]
          refine wpAnyH_take (i := 8) (oi := ⟨_, _, _, _, _, _⟩) (v := ?_) rfl (by kernel_rfl) (by kernel_rfl) (by kernel_rfl) (fun _ _ _ h => h) (Or.inl ⟨by kernel_rfl, ?_⟩) (by assumption) ?_
          rotate_left
          · intro w hSw
            try dsimp only at hSw
            first | (go_simp; done) | (go_simp; with_reducible rfl)
          try simp only [Act.put, List.setIfInBounds_toArray, List.set_cons_zero, List.set_cons_succ]
          refine wpAnyH_take (i := 9) (oi := ⟨_, _, _, _, _, _⟩) (v := ?_) rfl (by kernel_rfl) (by kernel_rfl) (by kernel_rfl) (fun _ _ _ h => h) (Or.inl ⟨by kernel_rfl, ?_⟩) (by assumption) ?_
          rotate_left
          · intro w hSw
            try dsimp only at hSw
            first | (go_simp; done) | (go_simp; with_reducible rfl)
          try simp only [Act.put, List.setIfInBounds_toArray, List.set_cons_zero, List.set_cons_succ]
          refine wpAnyH_ready (rs := [10]) (by kernel_rfl) (by simp) ?_
          refine AllReadyH.cons (o := ⟨_, _, _, _, _, _⟩) rfl (fun K hK => ?_) AllReadyH.nil
          go_simp
          refine (Tryd.c_Bad_no _ _).mono ?_; rintro e wx ⟨rfl, hbx⟩
          go_wp2_with fail
          refine hK.out _ _ ?_ (fun hHeld => ?_)
          · exact ⟨Aid.cell_ext (Aid.bt hHeld.2.2.2.2 hbx) c0, Aid.cell_ext (Aid.bt hHeld.2.2.2.2 hbx) c1, Aid.cell_ext (Aid.bt hHeld.2.2.2.2 hbx) c2, Aid.cell_ext (Aid.bt hHeld.2.2.2.2 hbx) c3, Aid.bt hHeld.2.2.2.2 hbx⟩
          clear hK K
          try simp only [Act.put, List.setIfInBounds_toArray, List.set_cons_zero, List.set_cons_succ]
          refine wpAnyH_take (i := 11) (oi := ⟨_, _, _, _, _, _⟩) (v := ?_) rfl (by kernel_rfl) (by kernel_rfl) (by kernel_rfl) (fun _ _ _ h => h) (Or.inl ⟨by kernel_rfl, ?_⟩) (by assumption) ?_
          rotate_left
          · intro w hSw
            try dsimp only at hSw
            first | (go_simp; done) | (go_simp; with_reducible rfl)
          try simp only [Act.put, List.setIfInBounds_toArray, List.set_cons_zero, List.set_cons_succ]
          refine wpAnyH_take (i := 12) (oi := ⟨_, _, _, _, _, _⟩) (v := ?_) rfl (by kernel_rfl) (by kernel_rfl) (by kernel_rfl) (fun _ _ _ h => h) (Or.inl ⟨by kernel_rfl, ?_⟩) (by assumption) ?_
          rotate_left
          · intro w hSw
            try dsimp only at hSw
            first | (go_simp; done) | (go_simp; with_reducible rfl)
          try simp only [Act.put, List.setIfInBounds_toArray, List.set_cons_zero, List.set_cons_succ]
          refine wpAnyH_take (i := 13) (oi := ⟨_, _, _, _, _, _⟩) (v := undef) rfl (by kernel_rfl) (by kernel_rfl) (by kernel_rfl) (fun _ _ _ h => h) (Or.inr ⟨by kernel_rfl, rfl⟩) (by assumption) ?_
          try simp only [Act.put, List.setIfInBounds_toArray, List.set_cons_zero, List.set_cons_succ]
          refine wpAnyH_take (i := 14) (oi := ⟨_, _, _, _, _, _⟩) (v := undef) rfl (by kernel_rfl) (by kernel_rfl) (by kernel_rfl) (fun _ _ _ h => h) (Or.inr ⟨by kernel_rfl, rfl⟩) (by assumption) ?_
          try simp only [Act.put, List.setIfInBounds_toArray, List.set_cons_zero, List.set_cons_succ]
          refine wpAnyH_take (i := 15) (oi := ⟨_, _, _, _, _, _⟩) (v := undef) rfl (by kernel_rfl) (by kernel_rfl) (by kernel_rfl) (fun _ _ _ h => h) (Or.inr ⟨by kernel_rfl, rfl⟩) (by assumption) ?_
          try simp only [Act.put, List.setIfInBounds_toArray, List.set_cons_zero, List.set_cons_succ]
          refine wpAnyH_take (i := 16) (oi := ⟨_, _, _, _, _, _⟩) (v := undef) rfl (by kernel_rfl) (by kernel_rfl) (by kernel_rfl) (fun _ _ _ h => h) (Or.inr ⟨by kernel_rfl, rfl⟩) (by assumption) ?_
          try simp only [Act.put, List.setIfInBounds_toArray, List.set_cons_zero, List.set_cons_succ]
          refine wpAnyH_take (i := 17) (oi := ⟨_, _, _, _, _, _⟩) (v := undef) rfl (by kernel_rfl) (by kernel_rfl) (by kernel_rfl) (fun _ _ _ h => h) (Or.inr ⟨by kernel_rfl, rfl⟩) (by assumption) ?_
          try simp only [Act.put, List.setIfInBounds_toArray, List.set_cons_zero, List.set_cons_succ]
          refine wpAnyH_take (i := 18) (oi := ⟨_, _, _, _, _, _⟩) (v := undef) rfl (by kernel_rfl) (by kernel_rfl) (by kernel_rfl) (fun _ _ _ h => h) (Or.inr ⟨by kernel_rfl, rfl⟩) (by assumption) ?_
          try simp only [Act.put, List.setIfInBounds_toArray, List.set_cons_zero, List.set_cons_succ]
          refine wpAnyH_take (i := 19) (oi := ⟨_, _, _, _, _, _⟩) (v := undef) rfl (by kernel_rfl) (by kernel_rfl) (by kernel_rfl) (fun _ _ _ h => h) (Or.inr ⟨by kernel_rfl, rfl⟩) (by assumption) ?_
          try simp only [Act.put, List.setIfInBounds_toArray, List.set_cons_zero, List.set_cons_succ]
          refine wpAnyH_take (i := 20) (oi := ⟨_, _, _, _, _, _⟩) (v := undef) rfl (by kernel_rfl) (by kernel_rfl) (by kernel_rfl) (fun _ _ _ h => h) (Or.inr ⟨by kernel_rfl, rfl⟩) (by assumption) ?_
          try simp only [Act.put, List.setIfInBounds_toArray, List.set_cons_zero, List.set_cons_succ]
          refine wpAnyH_take (i := 21) (oi := ⟨_, _, _, _, _, _⟩) (v := ?_) rfl (by kernel_rfl) (by kernel_rfl) (by kernel_rfl) (fun _ _ _ h => h) (Or.inl ⟨by kernel_rfl, ?_⟩) (by assumption) ?_
          rotate_left
          · intro w hSw
            try dsimp only at hSw
            first | (go_simp; done) | (go_simp; with_reducible rfl)
          try simp only [Act.put, List.setIfInBounds_toArray, List.set_cons_zero, List.set_cons_succ]
          refine wpAnyH_take (i := 22) (oi := ⟨_, _, _, _, _, _⟩) (v := ?_) rfl (by kernel_rfl) (by kernel_rfl) (by kernel_rfl) (fun _ _ _ h => h) (Or.inl ⟨by kernel_rfl, ?_⟩) (by assumption) ?_
          rotate_left
          · intro w hSw
            try dsimp only at hSw
            first | (go_simp; done) | (go_simp; with_reducible rfl)
          try simp only [Act.put, List.setIfInBounds_toArray, List.set_cons_zero, List.set_cons_succ]
          refine wpAnyH_take (i := 23) (oi := ⟨_, _, _, _, _, _⟩) (v := ?_) rfl (by kernel_rfl) (by kernel_rfl) (by kernel_rfl) (fun _ _ _ h => h) (Or.inl ⟨by kernel_rfl, ?_⟩) (by assumption) ?_
          rotate_left
          · intro w hSw
            try dsimp only at hSw
            first | (go_simp; done) | (go_simp; with_reducible rfl)
          try simp only [Act.put, List.setIfInBounds_toArray, List.set_cons_zero, List.set_cons_succ]
          refine wpAnyH_done (by kernel_rfl) ?_ _
          obtain ⟨_, _, _, _, hfin⟩ := hHeld
          go_wp2
          go_ret
          exact ⟨rfl, Aid.bt hBW hfin⟩
        · have hneg' : 0 ≤ (Dia.pts s.data.toList).2 := by omega
          have HC1 : Aid.Hid2 (∀ w, Tryd.Tabs w → Calls Tryd.prog 13 #[.string s] w fun e w' => e = .returned (.agg #[.int .i64 2, .int .i64 (Dia.pts s.data.toList).2]) ∧ Below w.heap.size w w') :=
            ⟨fun w hT => (Tryd.c_Check s w (by omega) hT).mono fun e w' ⟨x, y, h1, ⟨h2, h3⟩, h4⟩ => ⟨by rw [h1, h2, h3, if_neg hneg, if_neg hneg], h4⟩⟩
          have HC2 : Aid.Hid2 (∀ w, Tryd.Tabs w → Calls Tryd.prog 13 #[.string (t ++ s)] w fun e w' => e = .returned (.agg #[.int .i64 2, .int .i64 ((t.size : Int) + (Dia.pts s.data.toList).2)]) ∧ Below w.heap.size w w') :=
            ⟨fun w hT => (Tryd.c_Check (t ++ s) w (by omega) hT).mono fun e w' ⟨x, y, h1, ⟨h2, h3⟩, h4⟩ => ⟨by rw [h1, h2, h3, hap, hpa, if_neg hneg, htsz, if_neg (by omega), if_neg (by omega)], h4⟩⟩
          have hPb : (Dia.pts s.data.toList).2 ≤ 500 := by
            rcases Dia.pts_cases s.data.toList with ⟨ps, h1, h2, h3⟩ | ⟨ps, r', h1, h2, h3, h4, h5⟩
            · rw [h3]; simp
            · rw [h5]
              have := congrArg List.length h4
              rw [List.length_append] at this
              have hsz : s.data.toList.length = s.size := rfl
              simp only; omega
          generalize (Dia.pts s.data.toList).2 = P at *
          have hwrap : IntKind.i64.wrap ((t.size : Int) + P) = (t.size : Int) + P := IntWalk.i64_in _ (by omega)
          clear htx hap hpa htl htsz ht hel hsc hneg hasz
          go_enter Tryd.func4, Tryd.ntmps4
          go_wp2_with (first
            | (go_at_call 8; refine (HTx.out _ hrow).mono ?_; rintro e w1 ⟨rfl, hb1⟩)
            | (go_at_call 13; (with_reducible refine (HC1.out _ (hT.below hb1)).mono ?_); rintro e w2 ⟨rfl, hb2⟩)
            | (go_at_call 13; (with_reducible refine (HC2.out _ ((hT.below hb1).below hb2)).mono ?_); rintro e w3 ⟨rfl, hb3⟩))
          have hB3 := Aid.bt (Aid.bt hb1 hb2) hb3
          obtain ⟨W0, hW0⟩ : ∃ W0, W0 = (w3.alloc (.cells #[.int .i64 2, .int .i64 P] 30)).alloc (.cells #[.int .i64 2, .int .i64 ((t.size : Int) + P)] 30) := ⟨_, rfl⟩
          have hBW : Below w.heap.size w W0 := by rw [hW0]; exact (hB3.alloc hB3.size _).alloc (by have := hB3.size; simp; omega) _
          have c0 : W0.cell? ⟨w3.heap.size, 0, none⟩ = some (.int .i64 2) := by rw [hW0]; simp
          have c1 : W0.cell? ⟨w3.heap.size, 1, none⟩ = some (.int .i64 P) := by rw [hW0]; simp
          have c2 : W0.cell? ⟨w3.heap.size + 1, 0, none⟩ = some (.int .i64 2) := by rw [hW0]; simp
          have c3 : W0.cell? ⟨w3.heap.size + 1, 1, none⟩ = some (.int .i64 ((t.size : Int) + P)) := by rw [hW0]; simp
          rw [← hW0]
          clear hW0
          have hT0 := hT.below hBW
          refine wp_region_held_drew (S := (fun w' => w'.cell? ⟨w3.heap.size, 0, none⟩ = some (.int .i64 2) ∧ w'.cell? ⟨w3.heap.size, 1, none⟩ = some (.int .i64 P) ∧ w'.cell? ⟨w3.heap.size + 1, 0, none⟩ = some (.int .i64 2) ∧ w'.cell? ⟨w3.heap.size + 1, 1, none⟩ = some (.int .i64 ((t.size : Int) + P)) ∧ Below W0.heap.size W0 w')) (by kernel_rfl) ?_ (fun hHeld => ?_)
          · exact ⟨c0, c1, c2, c3, (Below.refl _ _).drew⟩
          refine wpAnyH_ready (rs := [0]) (by kernel_rfl) (by simp) ?_
          refine AllReadyH.cons (o := ⟨_, _, _, _, _, _⟩) rfl (fun K hK => ?_) AllReadyH.nil
          go_simp
          refine (Tryd.c_awake02 _ (hT0.below hHeld.2.2.2.2)).mono ?_; rintro e wx ⟨rfl, hbx⟩
          go_wp2_with fail
          refine hK.out _ _ ?_ (fun hHeld => ?_)
          · exact ⟨Aid.cell_ext (Aid.bt hHeld.2.2.2.2 hbx) c0, Aid.cell_ext (Aid.bt hHeld.2.2.2.2 hbx) c1, Aid.cell_ext (Aid.bt hHeld.2.2.2.2 hbx) c2, Aid.cell_ext (Aid.bt hHeld.2.2.2.2 hbx) c3, Aid.bt hHeld.2.2.2.2 hbx⟩
          clear hK K
          try simp only [Act.put, List.setIfInBounds_toArray, List.set_cons_zero, List.set_cons_succ]
          refine wpAnyH_take (i := 1) (oi := ⟨_, _, _, _, _, _⟩) (v := ?_) rfl (by kernel_rfl) (by kernel_rfl) (by kernel_rfl) (fun _ _ _ h => h) (Or.inl ⟨by kernel_rfl, ?_⟩) (by assumption) ?_
          rotate_left
          · intro w hSw
            try dsimp only at hSw
            first | (go_simp; done) | (go_simp; with_reducible rfl)
          try simp only [Act.put, List.setIfInBounds_toArray, List.set_cons_zero, List.set_cons_succ]
          refine wpAnyH_take (i := 2) (oi := ⟨_, _, _, _, _, _⟩) (v := ?_) rfl (by kernel_rfl) (by kernel_rfl) (by kernel_rfl) (fun _ _ _ h => h) (Or.inl ⟨by kernel_rfl, ?_⟩) (by assumption) ?_
          rotate_left
          · intro w hSw
            try dsimp only at hSw
            first | (go_simp; done) | (go_simp; with_reducible rfl)
          try simp only [Act.put, List.setIfInBounds_toArray, List.set_cons_zero, List.set_cons_succ]
          refine wpAnyH_take (i := 4) (oi := ⟨_, _, _, _, _, _⟩) (v := ?_) rfl (by kernel_rfl) (by kernel_rfl) (by kernel_rfl) (fun _ _ _ h => h) (Or.inl ⟨by kernel_rfl, ?_⟩) (by assumption) ?_
          rotate_left
          · intro w hSw
            try dsimp only at hSw
            first | (go_simp; done) | (go_simp; with_reducible rfl)
          try simp only [Act.put, List.setIfInBounds_toArray, List.set_cons_zero, List.set_cons_succ]
          refine wpAnyH_ready (rs := [3]) (by kernel_rfl) (by simp) ?_
          refine AllReadyH.cons (o := ⟨_, _, _, _, _, _⟩) rfl (fun K hK => ?_) AllReadyH.nil
          go_simp
          refine (Tryd.c_Bad_yes _ _).mono ?_; rintro e wx ⟨rfl, hbx⟩
          go_wp2_with fail
          refine hK.out _ _ ?_ (fun hHeld => ?_)
          · exact ⟨Aid.cell_ext (Aid.bt hHeld.2.2.2.2 hbx) c0, Aid.cell_ext (Aid.bt hHeld.2.2.2.2 hbx) c1, Aid.cell_ext (Aid.bt hHeld.2.2.2.2 hbx) c2, Aid.cell_ext (Aid.bt hHeld.2.2.2.2 hbx) c3, Aid.bt hHeld.2.2.2.2 hbx⟩
          clear hK K
          try simp only [Act.put, List.setIfInBounds_toArray, List.set_cons_zero, List.set_cons_succ]
          refine wpAnyH_ready (rs := [5]) (by kernel_rfl) (by simp) ?_
          refine AllReadyH.cons (o := ⟨_, _, _, _, _, _⟩) rfl (fun K hK => ?_) AllReadyH.nil
          go_simp
          refine (Tryd.c_Bad_yes _ _).mono ?_; rintro e wx ⟨rfl, hbx⟩
          go_wp2_with fail
          refine hK.out _ _ ?_ (fun hHeld => ?_)
          · exact ⟨Aid.cell_ext (Aid.bt hHeld.2.2.2.2 hbx) c0, Aid.cell_ext (Aid.bt hHeld.2.2.2.2 hbx) c1, Aid.cell_ext (Aid.bt hHeld.2.2.2.2 hbx) c2, Aid.cell_ext (Aid.bt hHeld.2.2.2.2 hbx) c3, Aid.bt hHeld.2.2.2.2 hbx⟩
          clear hK K
          try simp only [Act.put, List.setIfInBounds_toArray, List.set_cons_zero, List.set_cons_succ]
          refine wpAnyH_take (i := 6) (oi := ⟨_, _, _, _, _, _⟩) (v := ?_) rfl (by kernel_rfl) (by kernel_rfl) (by kernel_rfl) (fun _ _ _ h => h) (Or.inl ⟨by kernel_rfl, ?_⟩) (by assumption) ?_
          rotate_left
          · intro w hSw
            try dsimp only at hSw
            first | (go_simp; done) | (go_simp; with_reducible rfl)
          try simp only [Act.put, List.setIfInBounds_toArray, List.set_cons_zero, List.set_cons_succ]
          refine wpAnyH_take (i := 7) (oi := ⟨_, _, _, _, _, _⟩) (v := ?_) rfl (by kernel_rfl) (by kernel_rfl) (by kernel_rfl) (fun _ _ _ h => h) (Or.inl ⟨by kernel_rfl, ?_⟩) (by assumption) ?_
          rotate_left
          · intro w hSw
            try dsimp only at hSw
            first | (go_simp; done) | (go_simp; with_reducible rfl)
          try simp only [Act.put, List.setIfInBounds_toArray, List.set_cons_zero, List.set_cons_succ]
          refine wpAnyH_take (i := 8) (oi := ⟨_, _, _, _, _, _⟩) (v := ?_) rfl (by kernel_rfl) (by kernel_rfl) (by kernel_rfl) (fun _ _ _ h => h) (Or.inl ⟨by kernel_rfl, ?_⟩) (by assumption) ?_
          rotate_left
          · intro w hSw
            try dsimp only at hSw
            first | (go_simp; done) | (go_simp; with_reducible rfl)
          try simp only [Act.put, List.setIfInBounds_toArray, List.set_cons_zero, List.set_cons_succ]
          refine wpAnyH_take (i := 9) (oi := ⟨_, _, _, _, _, _⟩) (v := ?_) rfl (by kernel_rfl) (by kernel_rfl) (by kernel_rfl) (fun _ _ _ h => h) (Or.inl ⟨by kernel_rfl, ?_⟩) (by assumption) ?_
          rotate_left
          · intro w hSw
            try dsimp only at hSw
            first | (go_simp; done) | (go_simp; with_reducible rfl)
          try simp only [Act.put, List.setIfInBounds_toArray, List.set_cons_zero, List.set_cons_succ]
          refine wpAnyH_ready (rs := [10]) (by kernel_rfl) (by simp) ?_
          refine AllReadyH.cons (o := ⟨_, _, _, _, _, _⟩) rfl (fun K hK => ?_) AllReadyH.nil
          go_simp
          refine (Tryd.c_Bad_yes _ _).mono ?_; rintro e wx ⟨rfl, hbx⟩
          go_wp2_with fail
          refine hK.out _ _ ?_ (fun hHeld => ?_)
          · exact ⟨Aid.cell_ext (Aid.bt hHeld.2.2.2.2 hbx) c0, Aid.cell_ext (Aid.bt hHeld.2.2.2.2 hbx) c1, Aid.cell_ext (Aid.bt hHeld.2.2.2.2 hbx) c2, Aid.cell_ext (Aid.bt hHeld.2.2.2.2 hbx) c3, Aid.bt hHeld.2.2.2.2 hbx⟩
          clear hK K
          try simp only [Act.put, List.setIfInBounds_toArray, List.set_cons_zero, List.set_cons_succ]
          refine wpAnyH_take (i := 11) (oi := ⟨_, _, _, _, _, _⟩) (v := ?_) rfl (by kernel_rfl) (by kernel_rfl) (by kernel_rfl) (fun _ _ _ h => h) (Or.inl ⟨by kernel_rfl, ?_⟩) (by assumption) ?_
          rotate_left
          · intro w hSw
            try dsimp only at hSw
            first | (go_simp; done) | (go_simp; with_reducible rfl)
          try simp only [Act.put, List.setIfInBounds_toArray, List.set_cons_zero, List.set_cons_succ]
          refine wpAnyH_take (i := 12) (oi := ⟨_, _, _, _, _, _⟩) (v := ?_) rfl (by kernel_rfl) (by kernel_rfl) (by kernel_rfl) (fun _ _ _ h => h) (Or.inl ⟨by kernel_rfl, ?_⟩) (by assumption) ?_
          rotate_left
          · intro w hSw
            try dsimp only at hSw
            first | (go_simp; done) | (go_simp; with_reducible rfl)
          try simp only [Act.put, List.setIfInBounds_toArray, List.set_cons_zero, List.set_cons_succ]
          refine wpAnyH_take (i := 13) (oi := ⟨_, _, _, _, _, _⟩) (v := ?_) rfl (by kernel_rfl) (by kernel_rfl) (by kernel_rfl) (fun _ _ _ h => h) (Or.inl ⟨by kernel_rfl, ?_⟩) (by assumption) ?_
          rotate_left
          · intro w hSw
            try dsimp only at hSw
            first | (go_simp; done) | (go_simp; with_reducible rfl)
          try simp only [Act.put, List.setIfInBounds_toArray, List.set_cons_zero, List.set_cons_succ]
          refine wpAnyH_take (i := 14) (oi := ⟨_, _, _, _, _, _⟩) (v := ?_) rfl (by kernel_rfl) (by kernel_rfl) (by kernel_rfl) (fun _ _ _ h => h) (Or.inl ⟨by kernel_rfl, ?_⟩) (by assumption) ?_
          rotate_left
          · intro w hSw
            try dsimp only at hSw
            first | (go_simp; done) | (go_simp; with_reducible rfl)
          try simp only [Act.put, List.setIfInBounds_toArray, List.set_cons_zero, List.set_cons_succ]
          refine wpAnyH_take (i := 15) (oi := ⟨_, _, _, _, _, _⟩) (v := ?_) rfl (by kernel_rfl) (by kernel_rfl) (by kernel_rfl) (fun _ _ _ h => h) (Or.inl ⟨by kernel_rfl, ?_⟩) (by assumption) ?_
          rotate_left
          · intro w hSw
            try dsimp only at hSw
            first | (go_simp; done) | (go_simp; with_reducible rfl)
          try simp only [Act.put, List.setIfInBounds_toArray, List.set_cons_zero, List.set_cons_succ]
          refine wpAnyH_take (i := 16) (oi := ⟨_, _, _, _, _, _⟩) (v := ?_) rfl (by kernel_rfl) (by kernel_rfl) (by kernel_rfl) (fun _ _ _ h => h) (Or.inl ⟨by kernel_rfl, ?_⟩) (by assumption) ?_
          rotate_left
          · intro w hSw
            try dsimp only at hSw
            first | (go_simp; done) | (go_simp; with_reducible rfl)
          try simp only [Act.put, List.setIfInBounds_toArray, List.set_cons_zero, List.set_cons_succ]
          refine wpAnyH_take (i := 17) (oi := ⟨_, _, _, _, _, _⟩) (v := ?_) rfl (by kernel_rfl) (by kernel_rfl) (by kernel_rfl) (fun _ _ _ h => h) (Or.inl ⟨by kernel_rfl, ?_⟩) (by assumption) ?_
          rotate_left
          · intro w hSw
            try dsimp only at hSw
            first | (go_simp; done) | (go_simp; with_reducible rfl)
          try simp only [Act.put, List.setIfInBounds_toArray, List.set_cons_zero, List.set_cons_succ]
          refine wpAnyH_take (i := 18) (oi := ⟨_, _, _, _, _, _⟩) (v := ?_) rfl (by kernel_rfl) (by kernel_rfl) (by kernel_rfl) (fun _ _ _ h => h) (Or.inl ⟨by kernel_rfl, ?_⟩) (by assumption) ?_
          rotate_left
          · intro w hSw
            try dsimp only at hSw
            first | (go_simp; done) | (go_simp; with_reducible rfl)
          try simp only [Act.put, List.setIfInBounds_toArray, List.set_cons_zero, List.set_cons_succ]
          refine wpAnyH_take (i := 19) (oi := ⟨_, _, _, _, _, _⟩) (v := ?_) rfl (by kernel_rfl) (by kernel_rfl) (by kernel_rfl) (fun _ _ _ h => h) (Or.inl ⟨by kernel_rfl, ?_⟩) (by assumption) ?_
          rotate_left
          · intro w hSw
            try dsimp only at hSw
            first | (go_simp; done) | (go_simp; with_reducible rfl)
          try simp only [Act.put, List.setIfInBounds_toArray, List.set_cons_zero, List.set_cons_succ]
          refine wpAnyH_take (i := 20) (oi := ⟨_, _, _, _, _, _⟩) (v := ?_) rfl (by kernel_rfl) (by kernel_rfl) (by kernel_rfl) (fun _ _ _ h => h) (Or.inl ⟨by kernel_rfl, ?_⟩) (by assumption) ?_
          rotate_left
          · intro w hSw
            try dsimp only at hSw
            first | (go_simp; done) | (go_simp; with_reducible rfl)
          try simp only [Act.put, List.setIfInBounds_toArray, List.set_cons_zero, List.set_cons_succ]
          refine wpAnyH_take (i := 21) (oi := ⟨_, _, _, _, _, _⟩) (v := ?_) rfl (by kernel_rfl) (by kernel_rfl) (by kernel_rfl) (fun _ _ _ h => h) (Or.inl ⟨by kernel_rfl, ?_⟩) (by assumption) ?_
          rotate_left
          · intro w hSw
            try dsimp only at hSw
            first | (go_simp; done) | (go_simp; with_reducible rfl)
          try simp only [Act.put, List.setIfInBounds_toArray, List.set_cons_zero, List.set_cons_succ]
          refine wpAnyH_take (i := 22) (oi := ⟨_, _, _, _, _, _⟩) (v := ?_) rfl (by kernel_rfl) (by kernel_rfl) (by kernel_rfl) (fun _ _ _ h => h) (Or.inl ⟨by kernel_rfl, ?_⟩) (by assumption) ?_
          rotate_left
          · intro w hSw
            try dsimp only at hSw
            first | (go_simp; done) | (go_simp; with_reducible rfl)
          try simp only [Act.put, List.setIfInBounds_toArray, List.set_cons_zero, List.set_cons_succ]
          refine wpAnyH_take (i := 23) (oi := ⟨_, _, _, _, _, _⟩) (v := ?_) rfl (by kernel_rfl) (by kernel_rfl) (by kernel_rfl) (fun _ _ _ h => h) (Or.inl ⟨by kernel_rfl, ?_⟩) (by assumption) ?_
          rotate_left
          · intro w hSw
            try dsimp only at hSw
            first | (go_simp; done) | (go_simp; with_reducible rfl)
          try simp only [Act.put, List.setIfInBounds_toArray, List.set_cons_zero, List.set_cons_succ]
          refine wpAnyH_done (by kernel_rfl) ?_ _
          obtain ⟨_, _, _, _, hfin⟩ := hHeld
          go_wp2
          go_ret
          exact ⟨rfl, Aid.bt hBW hfin⟩
      · have HTx : Aid.Hid2 (∀ w, Aid.RowAt w a (l.map Dia.rv) → Calls Tryd.prog 8 #[.slice a l.length cap] w fun e w' => e = .returned (.tuple #[.string ⟨#[]⟩, .bool false]) ∧ Below w.heap.size w w') :=
          ⟨fun w hr => by have := Tryd.c_Text a l cap w hr hl6; rw [htx] at this; exact this⟩
        clear htx hbad
        go_enter Tryd.func4, Tryd.ntmps4
        go_wp2_with (first
          | (go_at_call 8; refine (HTx.out _ hrow).mono ?_; rintro e w1 ⟨rfl, hb1⟩)
          | (go_at_call 11; refine (Tryd.c_awake02 _ (hT.below hb1)).mono ?_; rintro e w2 ⟨rfl, hb2⟩))
        go_ret
        exact ⟨rfl, Aid.bt hb1 hb2⟩
    · have hgt : (500 : Int) < (s.size : Int) := by omega
      go_enter Tryd.func4, Tryd.ntmps4
      go_wp2_with (go_at_call 11; refine (Tryd.c_awake02 _ hT).mono ?_; rintro e w2 ⟨rfl, hb2⟩)
      go_ret
      exact ⟨rfl, hb2⟩
  · have hgt : (200 : Int) < (l.length : Int) := by omega
    go_enter Tryd.func4, Tryd.ntmps4
    go_wp2_with (go_at_call 11; refine (Tryd.c_awake02 _ hT).mono ?_; rintro e w2 ⟨rfl, hb2⟩)
    go_ret
    exact ⟨rfl, hb2⟩
end Go.Proofs
