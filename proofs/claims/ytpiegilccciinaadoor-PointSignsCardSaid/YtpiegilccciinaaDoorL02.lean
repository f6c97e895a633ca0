/- the laws of layer 2, walked -/
import Derived.Test.YtpiegilccciinaaDoorW7
import Derived.Deep.RegionHeld3
namespace Go.Proofs
open Go.RowKit

theorem Aid.bt {w w1 w2 : World} (h1 : Below w.heap.size w w1) (h2 : Below w1.heap.size w1 w2) : Below w.heap.size w w2 := h1.trans (h2.mono h1.size)

theorem Dia.pts_len (l : List UInt8) : (Dia.pts l).1.length ≤ l.length := by
  rcases Dia.pts_cases l with ⟨ps, h1, h2, h3⟩ | ⟨ps, r, h1, h2, h3, h4, h5⟩
  · rw [h3]; have := Dia.encs_len_ge ps h1; rw [← h2] at this; exact this
  · rw [h5]; simp
theorem Aid.cell_ext {w w' : World} (h : Below w.heap.size w w') {a : Addr} {v : Value} (hc : w.cell? a = some v) : w'.cell? a = some v := (h.cell (World.block_lt_of_cell? w a hc)).trans hc

set_option maxRecDepth 100000 in
set_option maxHeartbeats 400000 in
theorem Tryd.w_PointSigns (p : Int) (w : World) (hT : Tryd.Tabs w) (_bd : -2147483648 ≤ p ∧ p ≤ 2147483647) :
    Calls Tryd.prog 3 #[.int .i32 p] w fun e w' => e = .returned (.bool true) ∧ Below w.heap.size w w' := by
  have hrow : Aid.RowAt (w.alloc (.cells #[.int .i32 p] 21)) (some ⟨w.heap.size, 0, none⟩) ([p].map Dia.rv) := Aid.row_new w _ _ _ rfl
  by_cases hs : Dia.sc p = true
  · have ht := Dia.txt_ok (l := [p]) (by simpa using hs)
    have hTx : Calls Tryd.prog 8 #[.slice (some ⟨w.heap.size, 0, none⟩) 1 1] (w.alloc (.cells #[.int .i32 p] 21)) fun e w' =>
        e = .returned (.tuple #[.string ⟨(Dia.enc p).toArray⟩, .bool true]) ∧ Below (w.heap.size + 1) (w.alloc (.cells #[.int .i32 p] 21)) w' := by
      have h := Tryd.c_Text _ [p] 1 _ hrow (by simp)
      rw [ht] at h
      refine h.mono fun e w' ⟨h1, h2⟩ => ⟨by rw [h1]; simp [Dia.encs], h2.mono (by simp)⟩
    have HT := Aid.Hid2.mk hTx
    clear hTx ht hrow
    go_enter Tryd.func3, Tryd.ntmps3
    go_wp2_with (first
      | (go_at_call 8; refine HT.out.mono ?_; rintro e w1 ⟨rfl, hb1⟩; have hB1 := Aid.below_new hb1 (Nat.le_refl _))
      | (go_at_call 9; refine (Tryd.c_Scalar _ _).mono ?_; rintro e w' ⟨rfl, rfl⟩)
      | (go_at_call 10; refine (Tryd.c_refScalar _ _).mono ?_; rintro e w' ⟨rfl, rfl⟩)
      | (go_at_call 11; refine (Tryd.c_awake02 _ (hT.below hB1)).mono ?_; rintro e w2 ⟨rfl, hb2⟩)
      | (go_at_call 12; refine (Tryd.c_refBytes _ _ hs).mono ?_; rintro e w3 ⟨rfl, hb3⟩))
    go_ret
    exact ⟨rfl, Aid.bt (Aid.bt hB1 hb2) hb3⟩
  · have hs' : Dia.sc p = false := by simpa using hs
    have ht := Dia.txt_bad (l := [p]) (p := p) (by simp) hs'
    have hTx : Calls Tryd.prog 8 #[.slice (some ⟨w.heap.size, 0, none⟩) 1 1] (w.alloc (.cells #[.int .i32 p] 21)) fun e w' =>
        e = .returned (.tuple #[.string ⟨#[]⟩, .bool false]) ∧ Below (w.heap.size + 1) (w.alloc (.cells #[.int .i32 p] 21)) w' := by
      have h := Tryd.c_Text _ [p] 1 _ hrow (by simp)
      rw [ht] at h
      refine h.mono fun e w' ⟨h1, h2⟩ => ⟨h1, h2.mono (by simp)⟩
    have HT := Aid.Hid2.mk hTx
    clear hTx ht hrow hs
    go_enter Tryd.func3, Tryd.ntmps3
    go_wp2_with (first
      | (go_at_call 8; refine HT.out.mono ?_; rintro e w1 ⟨rfl, hb1⟩; have hB1 := Aid.below_new hb1 (Nat.le_refl _))
      | (go_at_call 9; refine (Tryd.c_Scalar _ _).mono ?_; rintro e w' ⟨rfl, rfl⟩)
      | (go_at_call 10; refine (Tryd.c_refScalar _ _).mono ?_; rintro e w' ⟨rfl, rfl⟩)
      | (go_at_call 11; refine (Tryd.c_awake02 _ (hT.below hB1)).mono ?_; rintro e w2 ⟨rfl, hb2⟩))
    go_ret
    exact ⟨rfl, Aid.bt hB1 hb2⟩

theorem Dia.txt_pts {s : ByteArray} (h : Dia.ok s.data.toList = true) : ∃ l, Dia.txt (Dia.pts s.data.toList).1 = (l, true) ∧ (⟨l.toArray⟩ : ByteArray) = s := by
  unfold Dia.ok at h
  rcases Dia.pts_cases s.data.toList with ⟨ps, h1, h2, h3⟩ | ⟨ps, r, h1, h2, h3, h4, h5⟩
  · rw [h3]
    refine ⟨s.data.toList, ?_, ?_⟩
    · rw [Dia.txt_ok h1, ← h2]
    · rfl
  · rw [h5] at h; simp at h
    omega
theorem Tryd.c_TextBack (s : ByteArray) (h : Dia.ok s.data.toList = true) (aa : Option Addr) (ca : Nat) (w : World) (hrow : Aid.RowAt w aa ((Dia.pts s.data.toList).1.map Dia.rv)) (hl : (Dia.pts s.data.toList).1.length ≤ 1000000) :
    Calls Tryd.prog 8 #[.slice aa (Dia.pts s.data.toList).1.length ca] w fun e w' => e = .returned (.tuple #[.string s, .bool true]) ∧ Below w.heap.size w w' := by
  obtain ⟨l, h1, h2⟩ := Dia.txt_pts h
  have := Tryd.c_Text aa _ ca w hrow hl
  rw [h1] at this
  rw [h2] at this
  exact this

set_option maxRecDepth 100000 in
set_option maxHeartbeats 1000000 in
theorem Tryd.w_PointReads (s : ByteArray) (w : World) (hT : Tryd.Tabs w) (_wx : s.size ≤ 9223372036854775807) :
    Calls Tryd.prog 7 #[.string s] w fun e w' => e = .returned (.bool true) ∧ Below w.heap.size w w' := by
  by_cases hlen : s.size ≤ 2000
  · have hs6 : s.size ≤ 1000000 := by omega
    have hpl : (Dia.pts s.data.toList).1.length ≤ s.size := Dia.pts_len s.data.toList
    by_cases hneg : (Dia.pts s.data.toList).2 < 0
    · have HF : Aid.Hid2 (∀ a b, Dia.IsFault (Dia.pts s.data.toList).2 a b → a = 0 ∧ b = 0) := ⟨fun a b h => ⟨by rw [h.1, if_pos hneg], by rw [h.2, if_pos hneg]⟩⟩
      have hok : Dia.ok s.data.toList = true := decide_eq_true hneg
      have HOK := Lib.hid hok
      have HV : Aid.Hid2 (∀ w, Tryd.Tabs w → Calls Tryd.prog 19 #[.string s] w fun e w' => e = .returned (.bool true) ∧ Below w.heap.size w w') := ⟨fun w hT => by have := Tryd.c_Valid s w hs6 hT; rw [hok] at this; exact this⟩
      clear hok
      go_enter Tryd.func7, Tryd.ntmps7
      go_wp2_with (first
        | (go_at_call 15; refine (Tryd.c_Points s _ hs6 hT).mono ?_; rintro e w1 ⟨aa, ca, a, b, rfl, hr1, hf1, hb1⟩; obtain ⟨rfl, rfl⟩ := HF.out a b hf1)
        | (go_at_call 21; refine (Tryd.c_refPoints s _ hs6).mono ?_; rintro e w2 ⟨ab, cb, rfl, hr2, hb2⟩))
      have hb2' := hb2.mono (show w1.heap.size + 1 ≤ _ by simp)
      obtain ⟨c0, c1, _, _⟩ := Aid.cells2 hb2'
      have hB2 : Below w.heap.size w w2 := hb1.trans (Aid.below_new hb2' hb1.size)
      have hT2 := hT.below hB2
      have hrA : Aid.RowAt w2 aa ((Dia.pts s.data.toList).1.map Dia.rv) := hr1.below (Aid.below_new hb2' (Nat.le_refl _))
      clear hr1 hb2
      go_region_held3 (fun w' => w'.cell? ⟨w1.heap.size, 0, none⟩ = some (.int .i64 0) ∧ w'.cell? ⟨w1.heap.size, 1, none⟩ = some (.int .i64 0) ∧ Below w2.heap.size w2 w')
        (first | exact ⟨c0, c1, (Below.refl _ _).drew⟩ | (go_split_ands; exact ⟨Aid.cell_ext (Aid.bt (by assumption) hbx) c0, Aid.cell_ext (Aid.bt (by assumption) hbx) c1, Aid.bt (by assumption) hbx⟩))
        (first
          | (go_at_call 17; go_split_ands; refine (Tryd.c_Same aa ab _ _ ca cb _ (hrA.below (by assumption)) (hr2.below (by assumption)) (by omega) (by omega)).mono ?_; rintro e wx ⟨rfl, hbx⟩)
          | (go_at_call 22; refine (Tryd.c_Fault _ _).mono ?_; rintro e wx ⟨a', b', rfl, hf', hbx⟩; obtain ⟨rfl, rfl⟩ := HF.out a' b' hf')
          | (go_at_call 13; go_split_ands; refine (Tryd.c_Check s _ (by omega) (hT2.below (by assumption))).mono ?_; rintro e wx ⟨a', b', rfl, hf', hbx⟩; obtain ⟨rfl, rfl⟩ := HF.out a' b' hf')
          | (go_at_call 19; go_split_ands; refine (HV.out _ (hT2.below (by assumption))).mono ?_; rintro e wx ⟨rfl, hbx⟩)
          | (go_at_call 18; go_split_ands; refine (Tryd.c_Count s _ hs6 (hT2.below (by assumption))).mono ?_; rintro e wx ⟨rfl, hbx⟩))
      go_split_ands
      go_wp2_with (first
        | (go_at_call 8; refine (Tryd.c_TextBack s HOK.out aa ca _ (hrA.below (by assumption)) (by omega)).mono ?_; rintro e w3 ⟨rfl, hb3⟩)
        | (go_at_call 11; refine (Tryd.c_awake02 _ ((hT2.below (by assumption)).below hb3)).mono ?_; rintro e w4 ⟨rfl, hb4⟩))
      go_ret
      exact ⟨rfl, Aid.bt (Aid.bt (Aid.bt hB2 (by assumption)) hb3) hb4⟩
    · have HF : Aid.Hid2 (∀ a b, Dia.IsFault (Dia.pts s.data.toList).2 a b → a = 2 ∧ b = (Dia.pts s.data.toList).2) := ⟨fun a b h => ⟨by rw [h.1, if_neg hneg], by rw [h.2, if_neg hneg]⟩⟩
      have hok : Dia.ok s.data.toList = false := decide_eq_false hneg
      have HV : Aid.Hid2 (∀ w, Tryd.Tabs w → Calls Tryd.prog 19 #[.string s] w fun e w' => e = .returned (.bool false) ∧ Below w.heap.size w w') := ⟨fun w hT => by have := Tryd.c_Valid s w hs6 hT; rw [hok] at this; exact this⟩
      clear hok
      have hnn : 0 ≤ (Dia.pts s.data.toList).2 := by omega
      have hdd : decide ((Dia.pts s.data.toList).2 < 0) = false := decide_eq_false hneg
      clear hneg
      go_enter Tryd.func7, Tryd.ntmps7
      go_wp2_with (first
        | (go_at_call 15; refine (Tryd.c_Points s _ hs6 hT).mono ?_; rintro e w1 ⟨aa, ca, a, b, rfl, hr1, hf1, hb1⟩; obtain ⟨rfl, rfl⟩ := HF.out a b hf1)
        | (go_at_call 21; refine (Tryd.c_refPoints s _ hs6).mono ?_; rintro e w2 ⟨ab, cb, rfl, hr2, hb2⟩))
      have hb2' := hb2.mono (show w1.heap.size + 1 ≤ _ by simp)
      obtain ⟨c0, c1, _, _⟩ := Aid.cells2 hb2'
      have hB2 : Below w.heap.size w w2 := hb1.trans (Aid.below_new hb2' hb1.size)
      have hT2 := hT.below hB2
      have hrA : Aid.RowAt w2 aa ((Dia.pts s.data.toList).1.map Dia.rv) := hr1.below (Aid.below_new hb2' (Nat.le_refl _))
      clear hr1 hb2
      go_region_held3 (fun w' => w'.cell? ⟨w1.heap.size, 0, none⟩ = some (.int .i64 2) ∧ w'.cell? ⟨w1.heap.size, 1, none⟩ = some (.int .i64 (Dia.pts s.data.toList).2) ∧ Below w2.heap.size w2 w')
        (first | exact ⟨c0, c1, (Below.refl _ _).drew⟩ | (go_split_ands; exact ⟨Aid.cell_ext (Aid.bt (by assumption) hbx) c0, Aid.cell_ext (Aid.bt (by assumption) hbx) c1, Aid.bt (by assumption) hbx⟩))
        (first
          | (go_at_call 17; go_split_ands; refine (Tryd.c_Same aa ab _ _ ca cb _ (hrA.below (by assumption)) (hr2.below (by assumption)) (by omega) (by omega)).mono ?_; rintro e wx ⟨rfl, hbx⟩)
          | (go_at_call 22; refine (Tryd.c_Fault _ _).mono ?_; rintro e wx ⟨a', b', rfl, hf', hbx⟩; obtain ⟨rfl, rfl⟩ := HF.out a' b' hf')
          | (go_at_call 13; go_split_ands; refine (Tryd.c_Check s _ (by omega) (hT2.below (by assumption))).mono ?_; rintro e wx ⟨a', b', rfl, hf', hbx⟩; obtain ⟨rfl, rfl⟩ := HF.out a' b' hf')
          | (go_at_call 19; go_split_ands; refine (HV.out _ (hT2.below (by assumption))).mono ?_; rintro e wx ⟨rfl, hbx⟩)
          | (go_at_call 18; go_split_ands; refine (Tryd.c_Count s _ hs6 (hT2.below (by assumption))).mono ?_; rintro e wx ⟨rfl, hbx⟩))
      go_split_ands
      go_wp2_with (go_at_call 11; refine (Tryd.c_awake02 _ (hT2.below (by assumption))).mono ?_; rintro e w4 ⟨rfl, hb4⟩)
      go_ret
      exact ⟨rfl, Aid.bt (Aid.bt hB2 (by assumption)) hb4⟩
  · have hgt : (2000 : Int) < (s.size : Int) := by omega
    go_enter Tryd.func7, Tryd.ntmps7
    go_wp2_with (go_at_call 11; refine (Tryd.c_awake02 _ hT).mono ?_; rintro e w2 ⟨rfl, hb2⟩)
    go_ret
    exact ⟨rfl, hb2⟩
end Go.Proofs
