/- walks of wide: Mark, Marked, WithMark -/
import Derived.Test.YteacefgmpkpkpaaDoorV3
import Derived.Lib.IndexBytes
namespace Go.Proofs
open Go.RowKit

/-- is it a big mark, is it a mark? -/
def Dia.mark : List UInt8 → Bool × Bool
  | a :: b :: _ => (decide (a = 254 ∧ b = 255), decide (a = 254 ∧ b = 255) || decide (a = 255 ∧ b = 254))
  | _ => (false, false)
theorem Dia.head_two (s : ByteArray) (h : 2 ≤ s.size) (x y : UInt8) : ((s.extract 0 2).toList == [x, y]) = decide (s.data.toList.getD 0 0 = x ∧ s.data.toList.getD 1 0 = y) := by
  have hl : s.data.toList.length = s.size := rfl
  have e : (s.extract 0 2).toList = s.data.toList.take 2 := by rw [Lib.toList_data]; simp
  rw [e, Bool.eq_iff_iff, beq_iff_eq, decide_eq_true_iff]
  match hs : s.data.toList with
  | a :: b :: r => simp
  | [a] => rw [hs] at hl; simp at hl; omega
  | [] => rw [hs] at hl; simp at hl; omega
theorem Dia.mark_two (s : ByteArray) (h : 2 ≤ s.size) : Dia.mark s.data.toList = ((s.extract 0 2).toList == [254, 255], ((s.extract 0 2).toList == [254, 255]) || ((s.extract 0 2).toList == [255, 254])) := by
  rw [Dia.head_two s h, Dia.head_two s h]
  have hl : s.data.toList.length = s.size := rfl
  match hs : s.data.toList with
  | a :: b :: r => simp [Dia.mark]
  | [a] => rw [hs] at hl; simp at hl; omega
  | [] => rw [hs] at hl; simp at hl; omega
theorem Dia.mark_short (s : ByteArray) (h : s.size < 2) : Dia.mark s.data.toList = (false, false) := by
  have hl : s.data.toList.length = s.size := rfl
  match hs : s.data.toList with
  | a :: b :: r => rw [hs] at hl; simp at hl; omega
  | [a] => rfl
  | [] => rfl

set_option maxRecDepth 100000 in
set_option maxHeartbeats 400000 in
theorem Tryd.c_Mark (s : ByteArray) (w : World) (hs : s.size ≤ 1000000) :
    Calls Tryd.prog 15 #[.string s] w fun e w' => e = .returned (.tuple #[.bool (Dia.mark s.data.toList).1, .bool (Dia.mark s.data.toList).2]) ∧ Below w.heap.size w w' := by
  by_cases h : s.size < 2
  · have HM := Aid.Hid2.mk (Dia.mark_short s h)
    go_enter Tryd.func15, Tryd.ntmps15
    go_wp2
    go_ret2
    rw [HM.out]
    exact ⟨rfl, Below.refl _ _⟩
  · have h2 : (2 : Int) ≤ (s.size : Int) := by omega
    have HM := Aid.Hid2.mk (Dia.mark_two s (by omega))
    by_cases h1 : ((s.extract 0 2).toList == [254, 255]) = true
    · go_enter Tryd.func15, Tryd.ntmps15
      go_wp2_with fail
      go_quiet (fail)
      go_wp2
      go_ret2
      rw [HM.out, h1]
      exact ⟨rfl, below_drewN (Below.refl _ _) _⟩
    · have h1' : ((s.extract 0 2).toList == [254, 255]) = false := by simpa using h1
      clear h1
      go_enter Tryd.func15, Tryd.ntmps15
      go_wp2_with fail
      go_quiet (fail)
      go_wp2
      go_ret2
      rw [HM.out, h1']
      exact ⟨rfl, below_drewN (Below.refl _ _) _⟩

/-- a marked text: its signs, and where there is none -/
def Dia.marked (l : List UInt8) : List Int × Int :=
  if l = [] then ([], -1) else if (Dia.mark l).2 = false then ([], 0) else
    ((Dia.wpts (Dia.mark l).1 (l.drop 2)).1, if (Dia.wpts (Dia.mark l).1 (l.drop 2)).2 < 0 then -1 else (Dia.wpts (Dia.mark l).1 (l.drop 2)).2 + 2)
def Dia.IsMarked (l : List UInt8) (w w' : World) (e : Ending) : Prop :=
  ∃ a b : Int, e = .returned (.tuple #[.string ⟨(Dia.encs (Dia.marked l).1).toArray⟩, .agg #[.int .i64 a, .int .i64 b]]) ∧ Dia.IsFault (Dia.marked l).2 a b ∧ Below w.heap.size w w'
theorem Dia.wpts_cases (big : Bool) (l : List UInt8) : (Dia.wpts big l).2 = -1 ∨ ((Dia.wpts big l).1 = [] ∧ 0 ≤ (Dia.wpts big l).2 ∧ (Dia.wpts big l).2 < l.length) := by
  rcases (Dia.wcoded big).cases l with ⟨ps, h1, h2, h3⟩ | ⟨ps, r, h1, h2, h3, h4, h5⟩
  · left
    have : Dia.wpts big l = (ps, -1) := h3
    rw [this]
  · right
    have : Dia.wpts big l = ([], ((Dia.gens (Dia.wen big) ps).length : Int)) := h5
    rw [this]
    refine ⟨rfl, by simp only; omega, ?_⟩
    have h6 := congrArg List.length h4
    rw [List.length_append] at h6
    have : r.length ≠ 0 := by simpa using h2
    simp only
    omega

set_option maxRecDepth 100000 in
set_option maxHeartbeats 1000000 in
theorem Tryd.c_Marked (s : ByteArray) (w : World) (hs : s.size ≤ 1000000) :
    Calls Tryd.prog 16 #[.string s] w fun e w' => Dia.IsMarked s.data.toList w w' e := by
  have hl : s.data.toList.length = s.size := rfl
  have htl : s.toList = s.data.toList := Lib.toList_data s
  by_cases h0 : s.data.toList = []
  · have hm : Dia.marked s.data.toList = ([], -1) := by unfold Dia.marked; rw [if_pos h0]
    have HM := Aid.Hid2.mk hm
    have hq : (s.toList == []) = true := by rw [htl, h0]; rfl
    clear h0 hm hl htl
    go_enter Tryd.func16, Tryd.ntmps16
    go_wp2
    exact bodyPost_ret (v := .tuple #[.string ⟨#[]⟩, .agg #[.int .i64 0, .int .i64 0]]) (by simp [results, Tryd.results16, go_sem]) rfl
      (by
        unfold Dia.IsMarked
        rw [HM.out]
        exact ⟨0, 0, rfl, Dia.isFault_none, (Below.refl _ _).alloc (Nat.le_refl _) _⟩)
  · have hq : (s.toList == []) = false := by rw [htl]; simpa using h0
    by_cases h1 : (Dia.mark s.data.toList).2 = false
    · have hm : Dia.marked s.data.toList = ([], 0) := by unfold Dia.marked; rw [if_neg h0, if_pos h1]
      have HM := Aid.Hid2.mk hm
      have HC : Aid.Hid2 (∀ w, Calls Tryd.prog 15 #[.string s] w fun e w' => e = .returned (.tuple #[.bool (Dia.mark s.data.toList).1, .bool false]) ∧ Below w.heap.size w w') :=
        ⟨fun w => by have := Tryd.c_Mark s w hs; rw [h1] at this; exact this⟩
      clear h0 hm hl htl h1
      go_enter Tryd.func16, Tryd.ntmps16
      go_wp2_with (first
        | (go_at_call 15; refine (HC.out _).mono ?_; rintro e w1 ⟨rfl, hb1⟩)
        | (go_at_call 19; refine (Tryd.c_bad _ _).mono ?_; rintro e w2 ⟨rfl, hb2⟩; have hb02 := (hb1.mono (show w.heap.size + 1 ≤ _ by simp)).trans (hb2.mono (by have := hb1.size; simpa using this)); obtain ⟨d0, d1, g0, g1⟩ := Aid.cells2 hb02))
      exact bodyPost_ret (v := .tuple #[.string ⟨#[]⟩, .agg #[.int .i64 2, .int .i64 0]]) (by simp [results, Tryd.results16, go_sem, d0, d1]) rfl
        (by
          unfold Dia.IsMarked
          rw [HM.out]
          exact ⟨2, 0, rfl, Dia.isFault_at 0, ((Aid.below_new hb02 (Nat.le_refl _)).setCell (Nat.le_refl _) _).setCell (Nat.le_refl _) _⟩)
    · have h1' : (Dia.mark s.data.toList).2 = true := by simpa using h1
      have h2 : 2 ≤ s.size := by
        rcases Nat.lt_or_ge s.size 2 with h | h
        · rw [Dia.mark_short s h] at h1'; cases h1'
        · exact h
      have h2' : (2 : Int) ≤ (s.size : Int) := by omega
      have HC : Aid.Hid2 (∀ w, Calls Tryd.prog 15 #[.string s] w fun e w' => e = .returned (.tuple #[.bool (Dia.mark s.data.toList).1, .bool true]) ∧ Below w.heap.size w w') :=
        ⟨fun w => by have := Tryd.c_Mark s w hs; rw [h1'] at this; exact this⟩
      have hex : (s.extract 2 s.size).data.toList = s.data.toList.drop 2 := Lib.extract_to_end s 2
      have hm : Dia.marked s.data.toList = ((Dia.wpts (Dia.mark s.data.toList).1 (s.data.toList.drop 2)).1, if (Dia.wpts (Dia.mark s.data.toList).1 (s.data.toList.drop 2)).2 < 0 then -1 else (Dia.wpts (Dia.mark s.data.toList).1 (s.data.toList.drop 2)).2 + 2) := by
        unfold Dia.marked; rw [if_neg h0, if_neg (by rw [h1']; simp)]
      rcases Dia.wpts_cases (Dia.mark s.data.toList).1 (s.data.toList.drop 2) with hw | ⟨hw0, hw1, hw2⟩
      · have HD : Aid.Hid2 (∀ w, Calls Tryd.prog 8 #[.string (s.extract 2 s.size), .bool (Dia.mark s.data.toList).1] w fun e w' => e = .returned (.tuple #[.string ⟨(Dia.encs (Dia.wpts (Dia.mark s.data.toList).1 (s.data.toList.drop 2)).1).toArray⟩, .agg #[.int .i64 0, .int .i64 0]]) ∧ Below w.heap.size w w') :=
          ⟨fun w => (Tryd.c_Decode (s.extract 2 s.size) _ w (by simp; omega)).mono fun e w' h => by
            unfold Dia.IsDecode at h
            rw [hex, hw] at h
            obtain ⟨a, b, h1, ⟨h3, h4⟩, h5⟩ := h
            exact ⟨by rw [h1, h3, h4]; rfl, h5⟩⟩
        rw [hw] at hm
        have HM := Aid.Hid2.mk hm
        clear h0 hm hl htl h1 h1' hex hw
        go_enter Tryd.func16, Tryd.ntmps16
        go_wp2_with (first
          | (go_at_call 15; refine (HC.out _).mono ?_; rintro e w1 ⟨rfl, hb1⟩)
          | (go_at_call 8; refine (HD.out _).mono ?_; rintro e w2 ⟨rfl, hb2⟩; have hb02 := (hb1.mono (show w.heap.size + 1 ≤ _ by simp)).trans (hb2.mono (by have := hb1.size; simpa using this)))
          | (go_at_call 12; refine (Tryd.c_Bad_no _ _).mono ?_; rintro e w3 ⟨rfl, hb3⟩; have hb3' := hb3.mono (show w2.heap.size + 1 ≤ _ by simp); have hb03 := hb02.trans (Aid.below_new hb3' (Aid.new_lt hb02)); obtain ⟨c0, c1, f0, f1⟩ := Aid.cells2 hb3'; obtain ⟨d0, d1, g0, g1⟩ := Aid.cells2 hb03))
        go_region
        go_wp2
        exact bodyPost_ret (v := .tuple #[.string ⟨(Dia.encs (Dia.wpts (Dia.mark s.data.toList).1 (s.data.toList.drop 2)).1).toArray⟩, .agg #[.int .i64 0, .int .i64 0]]) (by simp [results, Tryd.results16, go_sem, d0, d1]) rfl
          (by
            unfold Dia.IsMarked
            rw [HM.out]
            exact ⟨0, 0, rfl, Dia.isFault_none, (((Aid.below_new hb03 (Nat.le_refl _)).setCell (Nat.le_refl _) _).setCell (Nat.le_refl _) _).drew⟩)
      · have hpos : ¬ (Dia.wpts (Dia.mark s.data.toList).1 (s.data.toList.drop 2)).2 < 0 := by omega
        have hbd : (Dia.wpts (Dia.mark s.data.toList).1 (s.data.toList.drop 2)).2 ≤ 1000000 := by
          rw [List.length_drop, hl] at hw2; omega
        rw [hw0, if_neg hpos] at hm
        have HD : Aid.Hid2 (∀ w, Calls Tryd.prog 8 #[.string (s.extract 2 s.size), .bool (Dia.mark s.data.toList).1] w fun e w' => e = .returned (.tuple #[.string ⟨#[]⟩, .agg #[.int .i64 2, .int .i64 (Dia.wpts (Dia.mark s.data.toList).1 (s.data.toList.drop 2)).2]]) ∧ Below w.heap.size w w') :=
          ⟨fun w => (Tryd.c_Decode (s.extract 2 s.size) _ w (by simp; omega)).mono fun e w' h => by
            unfold Dia.IsDecode at h
            rw [hex, hw0] at h
            obtain ⟨a, b, h1, ⟨h3, h4⟩, h5⟩ := h
            exact ⟨by rw [h1, h3, h4, if_neg hpos, if_neg hpos]; rfl, h5⟩⟩
        have HM := Aid.Hid2.mk hm
        clear h0 hm hl htl h1 h1' hex hw2 hpos hw0
        generalize (Dia.wpts (Dia.mark s.data.toList).1 (s.data.toList.drop 2)).2 = P at *
        go_enter Tryd.func16, Tryd.ntmps16
        go_wp2_with (first
          | (go_at_call 15; refine (HC.out _).mono ?_; rintro e w1 ⟨rfl, hb1⟩)
          | (go_at_call 8; refine (HD.out _).mono ?_; rintro e w2 ⟨rfl, hb2⟩; have hb02 := (hb1.mono (show w.heap.size + 1 ≤ _ by simp)).trans (hb2.mono (by have := hb1.size; simpa using this)))
          | (go_at_call 12; refine (Tryd.c_Bad_yes _ _).mono ?_; rintro e w3 ⟨rfl, hb3⟩; have hb3' := hb3.mono (show w2.heap.size + 1 ≤ _ by simp); have hb03 := hb02.trans (Aid.below_new hb3' (Aid.new_lt hb02)); obtain ⟨c0, c1, f0, f1⟩ := Aid.cells2 hb3'; obtain ⟨d0, d1, g0, g1⟩ := Aid.cells2 hb03))
        have hb04 := hb03.setCell (show w.heap.size + 1 ≤ (⟨w2.heap.size, 1, none⟩ : Addr).block from Aid.new_lt hb02) (.int .i64 (P + 2))
        obtain ⟨e0, e1, h0, h1⟩ := Aid.cells2 hb04
        go_region
        go_wp2
        exact bodyPost_ret (v := .tuple #[.string ⟨#[]⟩, .agg #[.int .i64 2, .int .i64 (P + 2)]]) (by simp [results, Tryd.results16, go_sem, e0, e1]) rfl
          (by
            unfold Dia.IsMarked
            rw [HM.out]
            exact ⟨2, P + 2, rfl, ⟨by rw [if_neg (by omega)], by rw [if_neg (by omega)]⟩, (((Aid.below_new hb04 (Nat.le_refl _)).setCell (Nat.le_refl _) _).setCell (Nat.le_refl _) _).drew⟩)

/-- a text behind a mark -/
def Dia.withMark (l : List UInt8) : List UInt8 := if (Dia.pts l).2 < 0 then [255, 254] ++ Dia.wens false (Dia.pts l).1 else []
def Dia.IsWithMark (l : List UInt8) (w w' : World) (e : Ending) : Prop :=
  ∃ a b : Int, e = .returned (.tuple #[.string ⟨(Dia.withMark l).toArray⟩, .agg #[.int .i64 a, .int .i64 b]]) ∧ Dia.IsFault (Dia.pts l).2 a b ∧ Below w.heap.size w w'
theorem Dia.pts_end (l : List UInt8) : (Dia.pts l).2 = -1 ∨ ((Dia.pts l).1 = [] ∧ 0 ≤ (Dia.pts l).2 ∧ (Dia.pts l).2 < l.length) := by
  rcases Dia.pts_cases l with ⟨ps, h1, h2, h3⟩ | ⟨ps, r, h1, h2, h3, h4, h5⟩
  · left; rw [h3]
  · right
    rw [h5]
    refine ⟨rfl, by simp only; omega, ?_⟩
    have h6 := congrArg List.length h4
    rw [List.length_append] at h6
    have : r.length ≠ 0 := by simpa using h2
    simp only
    omega
set_option maxRecDepth 100000 in
set_option maxHeartbeats 1000000 in
theorem Tryd.c_WithMark (s : ByteArray) (w : World) (hs : s.size ≤ 100000) (hT : Tryd.Tabs w) :
    Calls Tryd.prog 17 #[.string s] w fun e w' => Dia.IsWithMark s.data.toList w w' e := by
  rcases Dia.pts_end s.data.toList with hw | ⟨hw0, hw1, hw2⟩
  · have HE : Aid.Hid2 (∀ w, Tryd.Tabs w → Calls Tryd.prog 11 #[.string s, .bool false] w fun e w' => e = .returned (.tuple #[.string ⟨(Dia.wens false (Dia.pts s.data.toList).1).toArray⟩, .agg #[.int .i64 0, .int .i64 0]]) ∧ Below w.heap.size w w') :=
      ⟨fun w hT => (Tryd.c_Encode s false w hs hT).mono fun e w' h => by
        unfold Dia.IsEncode at h
        rw [hw] at h
        obtain ⟨a, b, h1, ⟨h3, h4⟩, h5⟩ := h
        exact ⟨by rw [h1, h3, h4]; rfl, h5⟩⟩
    have hlen : (Dia.wens false (Dia.pts s.data.toList).1).length ≤ 400000 := by
      have h1 := Dia.wens_len false (Dia.pts s.data.toList).1
      have h2 := Dia.pts_len s.data.toList
      have h3 : s.data.toList.length = s.size := rfl
      omega
    have hm : Dia.withMark s.data.toList = [255, 254] ++ Dia.wens false (Dia.pts s.data.toList).1 := by
      unfold Dia.withMark
      rw [hw, if_pos (by decide)]
    have HM := Aid.Hid2.mk hm
    have HW := Aid.Hid2.mk hw
    clear hm hw
    generalize Dia.wens false (Dia.pts s.data.toList).1 = L at *
    have HJ : Aid.Hid2 (∀ (b : Nat) w, w.cell? ⟨b, 0, none⟩ = some (.string ⟨#[255, 254]⟩) → w.cell? ⟨b, 1, none⟩ = some (.string ⟨L.toArray⟩) → Calls Tryd.prog 28 #[.slice (some ⟨b, 0, none⟩) 2 2] w fun e w' => e = .returned (.string ⟨([255, 254] ++ L).toArray⟩) ∧ Below w.heap.size w w') :=
      ⟨fun b w h0 h1 => by
        have := Tryd.c_Join (some ⟨b, 0, none⟩) 2 [⟨#[255, 254]⟩, ⟨L.toArray⟩] w (.inr ⟨b, 0, rfl, fun j u hj => by
          match j, hj with
          | 0, hj => simp at hj; subst hj; exact h0
          | 1, hj => simp at hj; subst hj; exact h1⟩) (by simp) (by simp) (by simp; omega)
        simpa using this⟩
    go_enter Tryd.func17, Tryd.ntmps17
    go_wp2_with (first
      | (go_at_call 11; refine (HE.out _ (hT.below ((Below.refl _ _).alloc (Nat.le_refl _) _))).mono ?_; rintro e w1 ⟨rfl, hb1⟩; have hb01 := hb1.mono (show w.heap.size + 1 ≤ _ by simp))
      | (go_at_call 12; refine (Tryd.c_Bad_no _ _).mono ?_; rintro e w3 ⟨rfl, hb3⟩; have hb3' := hb3.mono (show w1.heap.size + 1 ≤ _ by simp); have hb03 := hb01.trans (Aid.below_new hb3' (Aid.new_lt hb01)); obtain ⟨c0, c1, f0, f1⟩ := Aid.cells2 hb3'; obtain ⟨d0, d1, g0, g1⟩ := Aid.cells2 hb03))
    have hbN : Below (w1.heap.size + 1) (w1.alloc (.cells #[.int .i64 0, .int .i64 0] 25)) (w3.alloc (.cells #[.string ⟨#[255, 254]⟩, .string ⟨L.toArray⟩] 9)) := hb3'.alloc (Aid.new_lt hb3') _
    obtain ⟨a0, a1, b0, b1⟩ := Aid.cells2 hbN
    go_region_with (go_at_call 28; refine (HJ.out _ _ ?_ ?_).mono ?_; (· simp); (· simp); rintro e w8 ⟨rfl, hb8⟩; have hbA : Below w3.heap.size w3 w8 := (((Below.refl _ _).alloc (Nat.le_refl _) _).drew).trans (hb8.mono (by simp)); obtain ⟨c2, c3, f2, f3⟩ := Aid.cells2 (hb3'.trans (hbA.mono (Aid.new_lt hb3'))); have hb08 := hb03.trans (hbA.mono (Aid.new_lt hb03)); obtain ⟨d2, d3, g2, g3⟩ := Aid.cells2 hb08)
    all_goals (
      go_wp2
      exact bodyPost_ret (v := .tuple #[.string ⟨([255, 254] ++ L).toArray⟩, .agg #[.int .i64 0, .int .i64 0]]) (by simp [results, Tryd.results17, go_sem, d2, d3]) rfl
        (by
          unfold Dia.IsWithMark
          rw [HM.out, HW.out]
          exact ⟨0, 0, rfl, Dia.isFault_none, ((Aid.below_new hb08 (Nat.le_refl _)).setCell (Nat.le_refl _) _).setCell (Nat.le_refl _) _⟩))
  · have HE : Aid.Hid2 (∀ w, Tryd.Tabs w → Calls Tryd.prog 11 #[.string s, .bool false] w fun e w' => e = .returned (.tuple #[.string ⟨#[]⟩, .agg #[.int .i64 2, .int .i64 (Dia.pts s.data.toList).2]]) ∧ Below w.heap.size w w') :=
      ⟨fun w hT => (Tryd.c_Encode s false w hs hT).mono fun e w' h => by
        unfold Dia.IsEncode at h
        rw [hw0] at h
        obtain ⟨a, b, h1, ⟨h3, h4⟩, h5⟩ := h
        exact ⟨by rw [h1, h3, h4, if_neg (by omega), if_neg (by omega)]; rfl, h5⟩⟩
    have hm : Dia.withMark s.data.toList = [] := by
      unfold Dia.withMark
      rw [if_neg (by omega)]
    have HM := Aid.Hid2.mk hm
    have HF : Aid.Hid2 (Dia.IsFault (Dia.pts s.data.toList).2 2 (Dia.pts s.data.toList).2) := ⟨⟨by rw [if_neg (by omega)], by rw [if_neg (by omega)]⟩⟩
    clear hm hw0 hw1 hw2
    generalize hP : (Dia.pts s.data.toList).2 = P at *
    have HPP := Aid.Hid2.mk hP
    clear hP
    go_enter Tryd.func17, Tryd.ntmps17
    go_wp2_with (first
      | (go_at_call 11; refine (HE.out _ (hT.below ((Below.refl _ _).alloc (Nat.le_refl _) _))).mono ?_; rintro e w1 ⟨rfl, hb1⟩; have hb01 := hb1.mono (show w.heap.size + 1 ≤ _ by simp))
      | (go_at_call 12; refine (Tryd.c_Bad_yes _ _).mono ?_; rintro e w3 ⟨rfl, hb3⟩; have hb3' := hb3.mono (show w1.heap.size + 1 ≤ _ by simp); have hb03 := hb01.trans (Aid.below_new hb3' (Aid.new_lt hb01)); obtain ⟨c0, c1, f0, f1⟩ := Aid.cells2 hb3'; obtain ⟨d0, d1, g0, g1⟩ := Aid.cells2 hb03))
    go_region
    go_wp2
    exact bodyPost_ret (v := .tuple #[.string ⟨#[]⟩, .agg #[.int .i64 2, .int .i64 P]]) (by simp [results, Tryd.results17, go_sem, d0, d1]) rfl
      (by
        unfold Dia.IsWithMark
        rw [HM.out, HPP.out]
        exact ⟨2, P, rfl, HF.out, (((Aid.below_new hb03 (Nat.le_refl _)).setCell (Nat.le_refl _) _).setCell (Nat.le_refl _) _).drew⟩)
end Go.Proofs
