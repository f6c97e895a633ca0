/- walks of the fourth layer's reference: Piece -/
import Derived.Test.YtligcgaakihnkaaDoorR4a
namespace Go.Proofs
open Go.RowKit

def Dia.upTo (f : Int) (g : Int → Int) (k : Nat) : List (Int × Int) := (List.range k).map fun (j : Nat) => (f + (j : Int), g j)
theorem Dia.upTo_succ (f : Int) (g : Int → Int) (k : Nat) : Dia.upTo f g (k + 1) = Dia.upTo f g k ++ [(f + (k : Int), g k)] := by
  unfold Dia.upTo; rw [List.range_succ, List.map_append, List.map_cons, List.map_nil]
theorem Dia.upTo_len' (f : Int) (g : Int → Int) (k : Nat) : (Dia.upTo f g k).length = k := by simp [Dia.upTo]
theorem Dia.opt_none {w w' : World} {o : Option (List (Int × Int))} (h : o = none) (hb : Below w.heap.size w w') : Dia.IsOpt o w w' (.returned (.tuple #[.slice none 0 0, .bool false])) := by
  subst h; exact ⟨none, 0, 0, rfl, (by intro l h; cases h), hb⟩

set_option maxRecDepth 100000 in
set_option maxHeartbeats 2000000 in
theorem Tryd.c_rPiece_list (f t c : Int) (s : ByteArray) (w : World) (hf : -9223372036854775808 ≤ f ∧ f ≤ 9223372036854775807) (hs : s.size ≤ 1000000) (hne : s.data.toList ≠ []) :
    Calls Tryd.prog 24 #[.int .i64 f, .int .i32 t, .int .i64 c, .string s] w fun e w' => Dia.IsOpt (Dia.rpiece ⟨f, t, c, s.data.toList⟩) w w' e := by
  obtain ⟨i0, hi, hz0, hz1, hz2⟩ := info_parts Tryd.info_rp
  obtain ⟨hf0, hf1⟩ := hf
  have hq : (s.toList == []) = false := by rw [Lib.toList_data]; simpa using hne
  have hpl := Dia.pts_len s.data.toList
  have hsz : s.data.toList.length = s.size := rfl
  have hll : (Dia.pts s.data.toList).1.length ≤ 1000000 := by omega
  have HE : Aid.Hid2 (Dia.rpiece ⟨f, t, c, s.data.toList⟩ = if 0 ≤ (Dia.pts s.data.toList).2 ∨ f < 0 ∨ 1048576 - ((Dia.pts s.data.toList).1.length : Int) < f then none
    else some (Dia.upTo f (fun j => (Dia.pts s.data.toList).1.getD j.toNat 0) (Dia.pts s.data.toList).1.length)) := ⟨by
    unfold Dia.rpiece
    simp only
    rw [if_pos hne]
    rfl⟩
  have HP : Aid.Hid2 (∀ w, Calls Tryd.prog 39 #[.string s] w fun e w' => Dia.IsRefPoints s.data.toList w w' e) := ⟨fun w => Tryd.c_refPoints s w hs⟩
  clear hpl hsz hne
  unfold Dia.IsRefPoints at HP
  generalize hP : Dia.pts s.data.toList = P at *
  clear hP
  obtain ⟨L, pl⟩ := P
  simp only at HE HP hll
  by_cases hbad : 0 ≤ pl ∨ f < 0 ∨ 1048576 - (L.length : Int) < f
  · have HN : Aid.Hid2 (Dia.rpiece ⟨f, t, c, s.data.toList⟩ = none) := ⟨by rw [HE.out, if_pos hbad]⟩
    clear HE
    go_enter Tryd.func24, Tryd.ntmps24
    go_wp2_with (go_at_call 39; refine (HP.out _).mono ?_; rintro e w1 ⟨aa, cap, rfl, hra, hb1⟩)
    all_goals first
      | (exfalso; omega)
      | (go_ret2; exact Dia.opt_none HN.out hb1)
  · have HY : Aid.Hid2 (Dia.rpiece ⟨f, t, c, s.data.toList⟩ = some (Dia.upTo f (fun j => L.getD j.toNat 0) L.length)) := ⟨by rw [HE.out, if_neg hbad]⟩
    have g1 : pl < 0 := by omega
    have g2 : 0 ≤ f := by omega
    have g3 : f ≤ 1048576 - (L.length : Int) := by omega
    clear HE hbad
    go_enter Tryd.func24, Tryd.ntmps24
    go_wp2_with (go_at_call 39; refine (HP.out _).mono ?_; rintro e w1 ⟨aa, cap, rfl, hra, hb1⟩)
    all_goals first
      | (exfalso; omega)
      | skip
    go_loopw [12, 13] (fun v i wr => ∃ k : Nat, k ≤ L.length ∧ i = .int .i64 k ∧ wr.ownsRow w1.heap.size 42 2 v (Dia.upTo f (fun j => L.getD j.toNat 0) k).length ((Dia.upTo f (fun j => L.getD j.toNat 0) k).flatMap Dia.pcells) ∧ Below w1.heap.size w1 wr)
      (fun _ i _ => L.length - (intOf i).toNat)
    case atStart => exact ⟨0, Nat.zero_le _, rfl, World.ownsRow_nil _ _ _ _, Below.refl _ _⟩
    case round =>
      obtain ⟨k, hk, rfl, hown, hb⟩ := hrel
      have hs0 := hb.size
      have hul := Dia.upTo_len' f (fun j => L.getD j.toNat 0) k
      by_cases hlt : k < L.length
      · obtain ⟨b, off, rfl, hcell⟩ := (hra.below hb).get (k := k) (by simpa using hlt)
        simp only [List.getElem_map, Dia.rv] at hcell
        have HS : Aid.Hid2 (Dia.upTo f (fun j => L.getD j.toNat 0) (k + 1) = Dia.upTo f (fun j => L.getD j.toNat 0) k ++ [(f + (k : Int), L[k])]) := ⟨by
          rw [Dia.upTo_succ]
          simp only [Int.toNat_natCast]
          rw [List.getD_eq_getElem?_getD, List.getElem?_eq_getElem hlt]
          rfl⟩
        generalize L[k] = p at *
        generalize Dia.upTo f (fun j => L.getD j.toNat 0) k = O at *
        have hO : O.length ≤ 1000000 := by omega
        clear hul
        go_wp2_with (at_builtin; refine Aid.wpList_app1 (w0 := w1) _ rfl _ _ 33 42 2 16 rfl Tryd.underlying33 i0 _ hi hz0 hz1 hz2 rfl (by decide) w1.heap.size _ _ _ #[.int .i64 (f + k), .int .i32 p] _ rfl _ rfl hown hb hs0 rfl rfl ?_ ?_ ?_ ?_)
        · simp [Value.oneCell']
        · omega
        · omega
        · intro v' w5 hown5 hb5 hsz5 _
          go_wp2
          go_roundw
          case rel => exact ⟨k + 1, by omega, by go_num, by rw [HS.out, Dia.flat_snoc]; simpa using hown5, hb5⟩
          case measure => simp [intOf]; omega
      · obtain rfl : k = L.length := by omega
        clear hul
        generalize hO : Dia.upTo f (fun j => L.getD j.toNat 0) L.length = O at *
        have HO := Aid.Hid2.mk hO
        clear hO
        obtain ⟨va, vc, rfl⟩ := Aid.own_val hown
        go_wp2
        go_ret2
        exact ⟨va, O.length, vc, by rw [HY.out]; rfl, (by rw [HY.out]; intro l h; cases h; exact ⟨rfl, Dia.pairsAt_own hown⟩), Aid.bt hb1 hb⟩

set_option maxRecDepth 100000 in
set_option maxHeartbeats 2000000 in
theorem Tryd.c_rPiece_seq (f t c : Int) (w : World) (hf : -9223372036854775808 ≤ f ∧ f ≤ 9223372036854775807) (hc : -9223372036854775808 ≤ c ∧ c ≤ 9223372036854775807) (ht : -2147483648 ≤ t ∧ t ≤ 2147483647) :
    Calls Tryd.prog 24 #[.int .i64 f, .int .i32 t, .int .i64 c, .string ⟨#[]⟩] w fun e w' => Dia.IsOpt (Dia.rpiece ⟨f, t, c, []⟩) w w' e := by
  obtain ⟨i0, hi, hz0, hz1, hz2⟩ := info_parts Tryd.info_rp
  obtain ⟨hf0, hf1⟩ := hf
  obtain ⟨hc0, hc1⟩ := hc
  obtain ⟨ht0, ht1⟩ := ht
  have HE : Aid.Hid2 (Dia.rpiece ⟨f, t, c, []⟩ = if f < 0 ∨ c < 1 ∨ 1048576 < c ∨ 1048576 - c < f ∨ Dia.sc t = false then none
    else if Dia.sc (t + c - 1) = false ∨ (t < 55296 ∧ 57343 < t + c - 1) then none else some (Dia.upTo f (fun j => t + j) c.toNat)) := ⟨by
    unfold Dia.rpiece
    simp only [ne_eq, not_true, if_false]
    rfl⟩
  by_cases hr : f < 0 ∨ c < 1 ∨ 1048576 < c ∨ 1048576 - c < f
  · have HN : Aid.Hid2 (Dia.rpiece ⟨f, t, c, []⟩ = none) := ⟨by rw [HE.out, if_pos (by omega)]⟩
    have H5 : Aid.Hid2 (∀ w, Calls Tryd.prog 40 #[.int .i32 t] w fun e w' => e = .returned (.bool (Dia.sc t)) ∧ w = w') := ⟨fun w => Tryd.c_refScalar t w⟩
    clear HE
    go_enter Tryd.func24, Tryd.ntmps24
    go_wp2_with (go_at_call 40; refine (H5.out _).mono ?_; rintro e w1 ⟨rfl, rfl⟩)
    all_goals first
      | (exfalso; omega)
      | (go_ret2; exact Dia.opt_none HN.out (Below.refl _ _))
  · have g1 : 0 ≤ f := by omega
    have g2 : 1 ≤ c := by omega
    have g3 : c ≤ 1048576 := by omega
    have g4 : f ≤ 1048576 - c := by omega
    clear hf0 hf1 hc0 hc1
    cases h5 : Dia.sc t with
    | false =>
      have HN : Aid.Hid2 (Dia.rpiece ⟨f, t, c, []⟩ = none) := ⟨by rw [HE.out, if_pos (.inr (.inr (.inr (.inr h5))))]⟩
      have H5 : Aid.Hid2 (∀ w, Calls Tryd.prog 40 #[.int .i32 t] w fun e w' => e = .returned (.bool false) ∧ w = w') := ⟨fun w => by have := Tryd.c_refScalar t w; rw [h5] at this; exact this⟩
      clear HE h5 hr
      go_enter Tryd.func24, Tryd.ntmps24
      go_wp2_with (go_at_call 40; refine (H5.out _).mono ?_; rintro e w1 ⟨rfl, rfl⟩)
      all_goals first
        | (exfalso; omega)
        | (go_ret2; exact Dia.opt_none HN.out (Below.refl _ _))
    | true =>
      have hsb := (Dia.sc_iff t).1 h5
      have t0 : 0 ≤ t := by omega
      have t1 : t ≤ 1114111 := by omega
      have H5 : Aid.Hid2 (∀ w, Calls Tryd.prog 40 #[.int .i32 t] w fun e w' => e = .returned (.bool true) ∧ w = w') := ⟨fun w => by have := Tryd.c_refScalar t w; rw [h5] at this; exact this⟩
      have HE2 : Aid.Hid2 (Dia.rpiece ⟨f, t, c, []⟩ = if Dia.sc (t + c - 1) = false ∨ (t < 55296 ∧ 57343 < t + c - 1) then none else some (Dia.upTo f (fun j => t + j) c.toNat)) := ⟨by
        rw [HE.out, if_neg (by rw [h5]; simp; omega)]⟩
      have H6 : Aid.Hid2 (∀ w, Calls Tryd.prog 40 #[.int .i32 (t + c - 1)] w fun e w' => e = .returned (.bool (Dia.sc (t + c - 1))) ∧ w = w') := ⟨fun w => Tryd.c_refScalar _ w⟩
      clear HE h5 hr hsb ht0 ht1
      by_cases hn : Dia.sc (t + c - 1) = false ∨ (t < 55296 ∧ 57343 < t + c - 1)
      · have HN : Aid.Hid2 (Dia.rpiece ⟨f, t, c, []⟩ = none) := ⟨by rw [HE2.out, if_pos hn]⟩
        clear HE2
        cases h6 : Dia.sc (t + c - 1)
        · rw [h6] at H6
          clear h6 hn
          go_enter Tryd.func24, Tryd.ntmps24
          go_wp2_with (first | (go_at_call 40; (with_reducible refine (H5.out _).mono ?_); rintro e w1 ⟨rfl, rfl⟩) | (go_at_call 40; (with_reducible refine (H6.out _).mono ?_); rintro e w1 ⟨rfl, rfl⟩))
          all_goals first
            | (exfalso; omega)
            | (go_ret2; exact Dia.opt_none HN.out (Below.refl _ _))
        · obtain ⟨k1, k2⟩ : t < 55296 ∧ 57343 < t + c - 1 := by
            rcases hn with h | h
            · rw [h] at h6; cases h6
            · exact h
          rw [h6] at H6
          clear h6 hn
          go_enter Tryd.func24, Tryd.ntmps24
          go_wp2_with (first | (go_at_call 40; (with_reducible refine (H5.out _).mono ?_); rintro e w1 ⟨rfl, rfl⟩) | (go_at_call 40; (with_reducible refine (H6.out _).mono ?_); rintro e w1 ⟨rfl, rfl⟩))
          all_goals first
            | (exfalso; omega)
            | (go_ret2; exact Dia.opt_none HN.out (Below.refl _ _))
      · have HY : Aid.Hid2 (Dia.rpiece ⟨f, t, c, []⟩ = some (Dia.upTo f (fun j => t + j) c.toNat)) := ⟨by rw [HE2.out, if_neg hn]⟩
        have h6 : Dia.sc (t + c - 1) = true := by
          cases h : Dia.sc (t + c - 1)
          · exact absurd (.inl h) hn
          · rfl
        have k12 : ¬ (t < 55296 ∧ 57343 < t + c - 1) := fun h => hn (.inr h)
        rw [h6] at H6
        clear HE2 h6 hn
        go_enter Tryd.func24, Tryd.ntmps24
        go_wp2_with (first | (go_at_call 40; (with_reducible refine (H5.out _).mono ?_); rintro e w1 ⟨rfl, rfl⟩) | (go_at_call 40; (with_reducible refine (H6.out _).mono ?_); rintro e w1 ⟨rfl, rfl⟩))
        all_goals first
          | (exfalso; omega)
          | skip
        all_goals
          go_loopw [15, 16] (fun v i wr => ∃ k : Nat, (k : Int) ≤ c ∧ i = .int .i64 k ∧ wr.ownsRow w.heap.size 42 2 v (Dia.upTo f (fun j => t + j) k).length ((Dia.upTo f (fun j => t + j) k).flatMap Dia.pcells) ∧ Below w.heap.size w wr)
            (fun _ i _ => c.toNat - (intOf i).toNat)
          case atStart => exact ⟨0, by omega, rfl, World.ownsRow_nil _ _ _ _, Below.refl _ _⟩
          case round =>
            obtain ⟨k, hk, rfl, hown, hb⟩ := hrel
            have hs0 := hb.size
            have hul := Dia.upTo_len' f (fun j => t + j) k
            by_cases hlt : (k : Int) < c
            · have HS := Aid.Hid2.mk (Dia.upTo_succ f (fun j => t + j) k)
              generalize Dia.upTo f (fun j => t + j) k = O at *
              have hO : O.length ≤ 1048576 := by omega
              clear hul
              go_wp2_with (at_builtin; refine Aid.wpList_app1 (w0 := w) _ rfl _ _ 33 42 2 16 rfl Tryd.underlying33 i0 _ hi hz0 hz1 hz2 rfl (by decide) w.heap.size _ _ _ #[.int .i64 (f + k), .int .i32 (t + k)] _ rfl _ rfl hown hb hs0 rfl rfl ?_ ?_ ?_ ?_)
              · simp [Value.oneCell']
              · omega
              · omega
              · intro v' w5 hown5 hb5 hsz5 _
                go_wp2
                go_roundw
                case rel => exact ⟨k + 1, by omega, by go_num, by rw [HS.out, Dia.flat_snoc]; simpa using hown5, hb5⟩
                case measure => simp [intOf]; omega
            · have hkc : c = (k : Int) := by omega
              have HY2 : Aid.Hid2 (Dia.rpiece ⟨f, t, c, []⟩ = some (Dia.upTo f (fun j => t + j) k)) := ⟨by rw [HY.out, hkc]; simp only [Int.toNat_natCast]⟩
              clear hul hkc
              generalize Dia.upTo f (fun j => t + j) k = O at *
              obtain ⟨va, vc, rfl⟩ := Aid.own_val hown
              go_wp2
              go_ret2
              exact ⟨va, O.length, vc, by rw [HY2.out]; rfl, (by rw [HY2.out]; intro l h; cases h; exact ⟨rfl, Dia.pairsAt_own hown⟩), hb⟩

theorem Tryd.c_rPiece (p : Dia.Piece) (w : World) (hp : p.In) :
    Calls Tryd.prog 24 #[.int .i64 p.from', .int .i32 p.to, .int .i64 p.count, .string ⟨p.text.toArray⟩] w fun e w' => Dia.IsOpt (Dia.rpiece p) w w' e := by
  obtain ⟨f, t, c, s⟩ := p
  obtain ⟨f0, f1, t0, t1, c0, c1, hs⟩ := hp
  by_cases h : s = []
  · subst h
    exact Tryd.c_rPiece_seq f t c w ⟨f0, f1⟩ ⟨c0, c1⟩ ⟨t0, t1⟩
  · exact Tryd.c_rPiece_list f t c ⟨s.toArray⟩ w ⟨f0, f1⟩ hs h
end Go.Proofs
