/- walks of run: right, of listed signs -/
import Derived.Test.YtfdkolodpealmaaDoorN4b
namespace Go.Proofs
open Go.RowKit

theorem Aid.four {w : World} {k : Nat} {a b c d : Value} {T : TypeId} (h : w.heap[k]? = some (.cells #[a, b, c, d] T (0, 0))) :
    w.cell? ⟨k, 0, none⟩ = some a ∧ w.cell? ⟨k, 1, none⟩ = some b ∧ w.cell? ⟨k, 2, none⟩ = some c ∧ w.cell? ⟨k, 3, none⟩ = some d ∧
    w.frozen? ⟨k, 0, none⟩ = false ∧ w.frozen? ⟨k, 1, none⟩ = false ∧ w.frozen? ⟨k, 2, none⟩ = false ∧ w.frozen? ⟨k, 3, none⟩ = false := by
  refine ⟨?_, ?_, ?_, ?_, ?_, ?_, ?_, ?_⟩ <;> simp [World.cell?, World.frozen?, h]
theorem Aid.blk {W w1 : World} {k : Nat} {o : Obj} (hb : Below W.heap.size W w1) (hk : W.heap[k]? = some o) : w1.heap[k]? = some o := by
  rw [hb.block k (Array.getElem?_eq_some_iff.1 hk).1, hk]
theorem Aid.blk_alloc {w : World} {k : Nat} {o o' : Obj} (hk : w.heap[k]? = some o) : (w.alloc o').heap[k]? = some o := Aid.blk ((Below.refl _ _).alloc (Nat.le_refl _) _) hk
theorem Aid.heap3 (w : World) (o1 o2 o3 : Obj) : (((w.alloc o1).alloc o2).alloc o3).heap[w.heap.size + 1]? = some o2 ∧ (((w.alloc o1).alloc o2).alloc o3).heap[w.heap.size + 1 + 1]? = some o3 := by
  have h1 := heap_alloc_new (w.alloc o1) o2
  have h2 := heap_alloc_new ((w.alloc o1).alloc o2) o3
  simp only [World.size_alloc] at h1 h2
  exact ⟨Aid.blk_alloc h1, h2⟩
theorem Aid.own_set {w : World} {B k j : Nat} {e T : TypeId} {sz : Nat} {v u : Value} {n : Nat} {xs : List Value} (h : w.ownsRow B e sz v n xs) (hk : Aid.Tag w k T) (hne : T ≠ e) : (w.setCell ⟨k, j, none⟩ u).ownsRow B e sz v n xs := by
  refine ⟨h.1, ?_⟩
  rcases h.2 with h2 | ⟨g, cap, cur, h3, h4, h5, h6⟩
  · exact .inl h2
  · refine .inr ⟨g, cap, cur, h3, h4, ?_, h6⟩
    have hgk : g ≠ k := by
      intro e'
      subst e'
      obtain ⟨C, fr, hC⟩ := hk
      rw [h5] at hC
      simp at hC
      exact hne hC.2.1.symm
    simp [World.setCell, Array.getElem?_modify, h5, Ne.symm hgk]
theorem Aid.set4 {B k : Nat} {w w' : World} {a b c d : Value} (h : Below B w w') (hk : B ≤ k) : Below B w ((((w'.setCell ⟨k, 0, none⟩ a).setCell ⟨k, 1, none⟩ b).setCell ⟨k, 2, none⟩ c).setCell ⟨k, 3, none⟩ d) :=
  (((h.setCell hk _).setCell hk _).setCell hk _).setCell hk _
theorem Dia.bad_no {pl a b : Int} (h : Dia.IsFault pl a b) (hp : pl < 0) : a = 0 ∧ b = 0 := by
  obtain ⟨h1, h2⟩ := h
  rw [if_pos hp] at h1 h2
  exact ⟨h1, h2⟩
theorem Dia.bad_yes {pl a b : Int} (h : Dia.IsFault pl a b) (hp : ¬ pl < 0) : a = 2 ∧ b = pl := by
  obtain ⟨h1, h2⟩ := h
  rw [if_neg hp] at h1 h2
  exact ⟨h1, h2⟩
set_option maxRecDepth 100000 in
set_option maxHeartbeats 1000000 in
theorem Tryd.c_right_list (f t c : Int) (s : ByteArray) (w : World) (hf : -9223372036854775808 ≤ f ∧ f ≤ 9223372036854775807) (hs : s.size ≤ 1000000) (hne : s.data.toList ≠ []) (hT : Tryd.Tabs w) :
    Calls Tryd.prog 55 #[.agg #[.int .i64 f, .int .i32 t, .int .i64 c, .string s]] w fun e w' => Tryd.IsRight (Dia.right ⟨f, t, c, s.data.toList⟩) w w' e := by
  obtain ⟨hf0, hf1⟩ := hf
  have hq : (s.toList == []) = false := by rw [Lib.toList_data]; simpa using hne
  have hpl := Dia.pts_len s.data.toList
  have hsz : s.data.toList.length = s.size := rfl
  have HE : Aid.Hid2 (Dia.right ⟨f, t, c, s.data.toList⟩ = if (decide ((Dia.pts s.data.toList).2 < 0) && Dia.inRange f (Dia.pts s.data.toList).1.length) = true then some ⟨f, t, (Dia.pts s.data.toList).1.length, (Dia.pts s.data.toList).1⟩ else none) := ⟨by
    unfold Dia.right
    simp only
    rw [if_neg hne]⟩
  have HP : Aid.Hid2 (∀ w, Tryd.Tabs w → Calls Tryd.prog 31 #[.string s] w fun e w' => Tryd.IsPointsF s.data.toList w w' e) := ⟨fun w hT => Tryd.c_PointsF s w hs hT⟩
  have hll : (Dia.pts s.data.toList).1.length ≤ 1000000 := by omega
  have HN := Aid.Hid2.mk (Dia.pts_ne hne)
  clear hpl hsz hne
  by_cases hbad : (Dia.pts s.data.toList).2 < 0
  · have HB := Aid.Hid2.mk hbad
    have hl1 : 1 ≤ (Dia.pts s.data.toList).1.length := by
      have := HN.out hbad
      cases e : (Dia.pts s.data.toList).1 with
      | nil => exact absurd e this
      | cons => simp
    have HE2 : Aid.Hid2 (Dia.right ⟨f, t, c, s.data.toList⟩ = if Dia.inRange f (Dia.pts s.data.toList).1.length = true then some ⟨f, t, (Dia.pts s.data.toList).1.length, (Dia.pts s.data.toList).1⟩ else none) := ⟨by rw [HE.out, decide_eq_true hbad, Bool.true_and]⟩
    clear hbad HE HN
    by_cases hr : f < 0 ∨ 1048576 - ((Dia.pts s.data.toList).1.length : Int) < f
    · have HNo : Aid.Hid2 (Dia.right ⟨f, t, c, s.data.toList⟩ = none) := ⟨by
        rw [HE2.out, if_neg]
        unfold Dia.inRange
        simp only [decide_eq_true_eq]
        omega⟩
      clear HE2
      go_enter Tryd.func55, Tryd.ntmps55
      go_wp2_with (first
        | (go_at_call 31; refine (HP.out _ (hT.below (Aid.b3 _ _ _ _))).mono ?_; rintro e w1 ⟨aa, cap, a, b, rfl, hown, hfa, hb1⟩; obtain ⟨rfl, rfl⟩ := Dia.bad_no hfa HB.out)
        | (go_at_call 16; refine (Tryd.c_Bad_no _ _).mono ?_; rintro e w2 ⟨rfl, hb2⟩; have k2 := Aid.blk hb2 (Aid.blk_alloc (Aid.blk hb1 (Aid.heap3 _ _ _ _).1)); obtain ⟨_, _, _, _, _, _, _, _⟩ := Aid.four k2; have k4 := Aid.blk hb2 (Aid.blk_alloc (Aid.blk hb1 (Aid.heap3 _ _ _ _).2)); obtain ⟨_, _, _, _, _, _, _, _⟩ := Aid.four k4))
      all_goals first
        | (exfalso; omega)
        | exact bodyPost_ret (v := .tuple #[.agg #[.int .i64 0, .int .i32 0, .int .i64 0, .slice none 0 0], .bool false]) (by simp [results, Tryd.results55, go_sem, *]) rfl (by
            refine ⟨0, 0, 0, none, 0, 0, by rw [HNo.out]; rfl, (by rw [HNo.out]; intro r hr; cases hr), ?_⟩
            exact Aid.set4 (((Aid.bt ((Aid.b3 _ _ _ _).trans (hb1.mono (by simp; omega))) (Aid.below_new (hb2.mono (by simp)) (Nat.le_refl _))).setCell (by show w.heap.size ≤ w.heap.size + 1 + 1; omega) _).setCell (by show w.heap.size ≤ w.heap.size + 1 + 1; omega) _) (by omega))
    · have HY : Aid.Hid2 (Dia.right ⟨f, t, c, s.data.toList⟩ = some ⟨f, t, (Dia.pts s.data.toList).1.length, (Dia.pts s.data.toList).1⟩) := ⟨by
        rw [HE2.out, if_pos]
        unfold Dia.inRange
        simp only [decide_eq_true_eq]
        omega⟩
      have hr0 : 0 ≤ f := by omega
      have hr1 : f ≤ 1048576 - ((Dia.pts s.data.toList).1.length : Int) := by omega
      clear HE2 hr
      go_enter Tryd.func55, Tryd.ntmps55
      go_wp2_with (first
        | (go_at_call 31; refine (HP.out _ (hT.below (Aid.b3 _ _ _ _))).mono ?_; rintro e w1 ⟨aa, cap, a, b, rfl, hown, hfa, hb1⟩; obtain ⟨rfl, rfl⟩ := Dia.bad_no hfa HB.out)
        | (go_at_call 16; refine (Tryd.c_Bad_no _ _).mono ?_; rintro e w2 ⟨rfl, hb2⟩; have k2 := Aid.blk hb2 (Aid.blk_alloc (Aid.blk hb1 (Aid.heap3 _ _ _ _).1)); obtain ⟨_, _, _, _, _, _, _, _⟩ := Aid.four k2; have k4 := Aid.blk hb2 (Aid.blk_alloc (Aid.blk hb1 (Aid.heap3 _ _ _ _).2)); obtain ⟨_, _, _, _, _, _, _, _⟩ := Aid.four k4))
      all_goals first
        | (exfalso; omega)
        | exact bodyPost_ret (v := .tuple #[.agg #[.int .i64 f, .int .i32 t, .int .i64 (Dia.pts s.data.toList).1.length, .slice aa (Dia.pts s.data.toList).1.length cap], .bool true]) (by simp [results, Tryd.results55, go_sem, *]) rfl (by
            have hbW : Below w.heap.size w w2 := Aid.bt ((Aid.b3 _ _ _ _).trans (hb1.mono (by simp; omega))) (Aid.below_new (hb2.mono (by simp)) (Nat.le_refl _))
            refine ⟨f, t, (Dia.pts s.data.toList).1.length, aa, (Dia.pts s.data.toList).1.length, cap, by rw [HY.out]; rfl, ?_, Aid.set4 ((hbW.setCell (by show w.heap.size ≤ w.heap.size + 1 + 1; omega) _).setCell (by show w.heap.size ≤ w.heap.size + 1 + 1; omega) _) (by omega)⟩
            rw [HY.out]
            intro r hr
            cases hr
            refine ⟨rfl, rfl, rfl, rfl, ?_⟩
            have h2 : w2.ownsRow 0 21 1 (.slice aa (Dia.pts s.data.toList).1.length cap) (Dia.pts s.data.toList).1.length ((Dia.pts s.data.toList).1.map Dia.rv) := Aid.ownsRow_below (Aid.ownsRow_below hown ((Below.refl _ _).alloc (Nat.le_refl _) _)) (hb2.mono (by simp))
            have t2 : Aid.Tag w2 (w.heap.size + 1) 88 := ⟨_, _, k2⟩
            have t4 : Aid.Tag w2 (w.heap.size + 1 + 1) 88 := ⟨_, _, k4⟩
            exact Aid.own_set (Aid.own_set (Aid.own_set (Aid.own_set (Aid.own_set (Aid.own_set h2 t4 (by decide)) t4.set (by decide)) t2.set.set (by decide)) t2.set.set.set (by decide)) t2.set.set.set.set (by decide)) t2.set.set.set.set.set (by decide))
  · have HB := Aid.Hid2.mk hbad
    have HNo : Aid.Hid2 (Dia.right ⟨f, t, c, s.data.toList⟩ = none) := ⟨by rw [HE.out, decide_eq_false hbad]; rfl⟩
    clear hbad HE
    go_enter Tryd.func55, Tryd.ntmps55
    go_wp2_with (first
      | (go_at_call 31; refine (HP.out _ (hT.below (Aid.b3 _ _ _ _))).mono ?_; rintro e w1 ⟨aa, cap, a, b, rfl, hown, hfa, hb1⟩; obtain ⟨rfl, rfl⟩ := Dia.bad_yes hfa HB.out)
      | (go_at_call 16; refine (Tryd.c_Bad_yes _ _).mono ?_; rintro e w2 ⟨rfl, hb2⟩; have k2 := Aid.blk hb2 (Aid.blk_alloc (Aid.blk hb1 (Aid.heap3 _ _ _ _).1)); obtain ⟨_, _, _, _, _, _, _, _⟩ := Aid.four k2))
    exact bodyPost_ret (v := .tuple #[.agg #[.int .i64 0, .int .i32 0, .int .i64 0, .slice none 0 0], .bool false]) (by simp [results, Tryd.results55, go_sem, *]) rfl (by
      refine ⟨0, 0, 0, none, 0, 0, by rw [HNo.out]; rfl, (by rw [HNo.out]; intro r hr; cases hr), ?_⟩
      exact Aid.set4 (Aid.bt ((Aid.b3 _ _ _ _).trans (hb1.mono (by simp; omega))) (Aid.below_new (hb2.mono (by simp)) (Nat.le_refl _))) (by omega))
end Go.Proofs
