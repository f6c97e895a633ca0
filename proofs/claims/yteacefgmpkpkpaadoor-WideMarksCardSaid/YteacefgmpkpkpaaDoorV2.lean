/- walks of wide: bad, two, Decode, Encode -/
import Derived.Test.YteacefgmpkpkpaaDoorV1
import Derived.Test.YteacefgmpkpkpaaDoorOct
namespace Go.Proofs
open Go.RowKit

theorem Tryd.c_bad (i : Int) (w : World) :
    Calls Tryd.prog 19 #[.int .i64 i] w fun e w' => e = .returned (.agg #[.int .i64 2, .int .i64 i]) ∧ Below w.heap.size w w' := by
  go_enter Tryd.func19, Tryd.ntmps19
  go_wp2
  exact bodyPost_ret (v := .agg #[.int .i64 2, .int .i64 i]) (by simp [results, Tryd.results19, go_sem]) rfl ⟨rfl, (Below.refl _ _).alloc (Nat.le_refl _) _⟩

theorem Dia.two_big (u : Nat) (h : u ≤ 65535) : Dia.bigB u 2 = Dia.wtwo true u := by
  have e : List.range 2 = [0, 1] := rfl
  simp only [Dia.bigB, Dia.wtwo, e, List.map_cons, List.map_nil, if_true]
  congr 2
  · congr 1; omega
  · congr 2; omega
theorem Dia.two_small (u : Nat) (h : u ≤ 65535) : Dia.smallB u 2 = Dia.wtwo false u := by
  have e : List.range 2 = [0, 1] := rfl
  simp only [Dia.smallB, Dia.wtwo, e, List.map_cons, List.map_nil, Bool.false_eq_true, if_false]
  congr 2
  · congr 1; omega
  · congr 2; omega

set_option maxRecDepth 100000 in
set_option maxHeartbeats 400000 in
theorem Tryd.c_two (u : Int) (big : Bool) (w : World) (hu0 : 0 ≤ u) (hu1 : u ≤ 65535) :
    Calls Tryd.prog 27 #[.int .i32 u, .bool big] w fun e w' => e = .returned (.string ⟨(Dia.wtwo big u).toArray⟩) ∧ Below w.heap.size w w' := by
  obtain ⟨n, rfl⟩ := Int.eq_ofNat_of_zero_le hu0
  have hn : n ≤ 65535 := by omega
  cases big
  · have HS : Aid.Hid2 (Calls Tryd.prog 37 #[.int .u64 n, .int .i64 2] w fun e w' => e = .returned (.string ⟨(Dia.wtwo false n).toArray⟩) ∧ Below w.heap.size w w') :=
      ⟨by have := Tryd.c_Small n 2 w (by omega) (by omega); rw [Dia.two_small n hn] at this; exact this⟩
    go_enter Tryd.func27, Tryd.ntmps27
    go_wp2_with (go_at_call 37; refine HS.out.mono ?_; rintro e w1 ⟨rfl, hb1⟩)
    go_ret
    exact ⟨rfl, hb1⟩
  · have HS : Aid.Hid2 (Calls Tryd.prog 36 #[.int .u64 n, .int .i64 2] w fun e w' => e = .returned (.string ⟨(Dia.wtwo true n).toArray⟩) ∧ Below w.heap.size w w') :=
      ⟨by have := Tryd.c_Big n 2 w (by omega) (by omega); rw [Dia.two_big n hn] at this; exact this⟩
    go_enter Tryd.func27, Tryd.ntmps27
    go_wp2_with (go_at_call 36; refine HS.out.mono ?_; rintro e w1 ⟨rfl, hb1⟩)
    go_ret
    exact ⟨rfl, hb1⟩

theorem Aid.bt' {B : Nat} {w w1 w2 : World} (hB : B ≤ w.heap.size) (h1 : Below w.heap.size w w1) (h2 : Below w1.heap.size w1 w2) : Below B w w2 := (Aid.bt h1 h2).mono hB
theorem Tryd.c_unit' (s : ByteArray) (i : Nat) (big : Bool) (w : World) (j : Int) (hi : i + 1 < s.size) (hs : s.size ≤ 1000000) (hj : (Value.int .i64 j) = .int .i64 (i : Nat)) :
    Calls Tryd.prog 20 #[.string s, .int .i64 j, .bool big] w fun e w' => e = .returned (.int .i32 (Dia.un s.data.toList i big)) ∧ Below w.heap.size w w' := by
  cases hj
  exact Tryd.c_unit s i big w hi hs
/-- what Decode hands back -/
def Dia.IsDecode (big : Bool) (l : List UInt8) (w w' : World) (e : Ending) : Prop :=
  ∃ a b : Int, e = .returned (.tuple #[.string ⟨(Dia.encs (Dia.wpts big l).1).toArray⟩, .agg #[.int .i64 a, .int .i64 b]]) ∧ Dia.IsFault (Dia.wpts big l).2 a b ∧ Below w.heap.size w w'
theorem Dia.isDecode_bad {big : Bool} {s : ByteArray} {i : Nat} {ps : List Int} {w w' : World} {e : Ending} (hu : Dia.GUp (Dia.wen big) s.data.toList i ps) (hi : i < s.size) (hn : Dia.whd big (s.data.toList.drop i) = (0, 0))
    (he : e = .returned (.tuple #[.string ⟨#[]⟩, .agg #[.int .i64 2, .int .i64 i]])) (hb : Below w.heap.size w w') : Dia.IsDecode big s.data.toList w w' e := by
  have h := Dia.gUp_bad (Dia.wcoded big) hu hi (by rw [hn])
  unfold Dia.IsDecode
  have e1 : Dia.wpts big s.data.toList = ([], (i : Int)) := h
  rw [e1]
  exact ⟨2, i, he, Dia.isFault_at i, hb⟩

set_option maxRecDepth 100000 in
set_option maxHeartbeats 2000000 in
theorem Tryd.c_Decode (s : ByteArray) (big : Bool) (w : World) (hs : s.size ≤ 1000000) :
    Calls Tryd.prog 8 #[.string s, .bool big] w fun e w' => Dia.IsDecode big s.data.toList w w' e := by
  obtain ⟨i0, hi, hz0, hz1, hz2⟩ := info_parts Tryd.info_i32
  go_enter Tryd.func8, Tryd.ntmps8
  go_wp2
  go_loopw [6, 7, 8, 9, 10] (fun v i _ _ _ wr => ∃ (k : Nat) (ps : List Int), i = .int .i64 k ∧ Dia.GUp (Dia.wen big) s.data.toList k ps ∧
      wr.ownsRow (w.heap.size + 1) 21 1 v ps.length (ps.map Dia.rv) ∧ Below (w.heap.size + 1) (w.alloc (.cells #[.int .i64 0, .int .i64 0] 25)) wr)
    (fun _ i _ _ _ _ => s.size - (intOf i).toNat)
  case atStart => exact ⟨0, [], rfl, Dia.gUp_zero _, World.ownsRow_nil _ _ _ _, Below.refl _ _⟩
  case round =>
    obtain ⟨k, ps, rfl, hu, hown, hb⟩ := hrel
    have hk : k ≤ s.size := Dia.gUp_le hu
    have hpl := Dia.gUp_len (Dia.wcoded big) hu
    have hbw : Below w.heap.size w wr := Aid.below_new hb (Nat.le_refl _)
    have hBr := Aid.new_lt hb
    obtain ⟨c0, c1, f0, f1⟩ := Aid.cells2 hb
    have hln : s.data.toList.length = s.size := rfl
    have HLN := Lib.hid hln
    clear hln
    by_cases hlt : k < s.size
    · by_cases h1 : k + 1 = s.size
      · have hbad := Aid.Hid2.mk (Dia.whd_one (l := s.data.toList) (i := k) (big := big) (by rw [HLN.out]; exact h1))
        have hq : (((k : Int)) == (s.size : Int) - 1) = true := by simp; omega
        clear h1
        go_wp2_with (go_at_call 19; refine (Tryd.c_bad _ _).mono ?_; rintro e w1 ⟨rfl, hb1⟩; obtain ⟨d0, d1, g0, g1⟩ := Aid.cells2 (hb.trans (hb1.mono hBr)))
        exact bodyPost_ret (v := .tuple #[.string ⟨#[]⟩, .agg #[.int .i64 2, .int .i64 k]]) (by simp [results, Tryd.results8, go_sem, d0, d1]) rfl
          (Dia.isDecode_bad hu hlt hbad.out rfl (((Aid.bt hbw hb1).setCell (Nat.le_refl _) _).setCell (Nat.le_refl _) _))
      · have h2 : k + 1 < s.size := by omega
        have hq : (((k : Int)) == (s.size : Int) - 1) = false := by simp; omega
        clear h1
        have hub : 0 ≤ Dia.un s.data.toList k big ∧ Dia.un s.data.toList k big ≤ 65535 := Dia.unit_bd _ _ _
        obtain ⟨hub0, hub1⟩ := hub
        by_cases hsc : Dia.sc (Dia.un s.data.toList k big) = true
        · have hgood := Aid.Hid2.mk (Dia.whd_plain (l := s.data.toList) (i := k) (big := big) (by rw [HLN.out]; exact h2) hsc)
          go_wp2_with (first
            | (go_at_call 20; refine (Tryd.c_unit s k big _ h2 hs).mono ?_; rintro e w1 ⟨rfl, hb1⟩)
            | (go_at_call 21; refine (Tryd.c_Scalar _ _).mono ?_; rintro e w' ⟨rfl, rfl⟩)
            | (at_builtin; refine Aid.wpList_app1 (w0 := w.alloc (.cells #[.int .i64 0, .int .i64 0] 25)) _ rfl _ _ 32 21 1 4 rfl Tryd.underlying32 i0 _ hi hz0 hz1 hz2 rfl (by decide) (w.heap.size + 1) _ _ _ #[.int .i32 (Dia.un s.data.toList k big)] _ rfl _ rfl (Aid.ownsRow_below hown hb1) (hb.trans (hb1.mono hBr)) ?_ rfl rfl ?_ ?_ ?_ ?_))
          · have := hb1.size; omega
          · simp [Value.oneCell']
          · omega
          · omega
          · intro v' w2 hown2 hb2 hsz2 _
            go_wp2
            go_roundw
            case rel => exact ⟨k + 2, _, by go_num, Dia.gUp_step (Dia.wcoded big) hu hgood.out (by decide), by simpa [Dia.rv] using hown2, hb2⟩
            case measure => simp [intOf]; omega
        · have hsc' : Dia.sc (Dia.un s.data.toList k big) = false := by simpa using hsc
          clear hsc
          by_cases h4 : k + 3 < s.size
          · have h4' : (k : Int) ≤ (s.size : Int) - 4 := by omega
            have hsv := Aid.Hid2.mk (Dia.whd_pair (l := s.data.toList) (i := k) (big := big) (by rw [HLN.out]; exact h4) hsc')
            have hvb : 0 ≤ Dia.un s.data.toList (k + 2) big ∧ Dia.un s.data.toList (k + 2) big ≤ 65535 := Dia.unit_bd _ _ _
            by_cases hok : (Dia.pairv (Dia.un s.data.toList k big) (Dia.un s.data.toList (k + 2) big)).2 = true
            · have hgood : Aid.Hid2 (Dia.whd big (List.drop k s.data.toList) = ((Dia.pairv (Dia.un s.data.toList k big) (Dia.un s.data.toList (k + 2) big)).1, 4)) := ⟨by rw [hsv.out, if_pos hok]⟩
              have HP : Aid.Hid2 (∀ w, Calls Tryd.prog 22 #[.int .i32 (Dia.un s.data.toList k big), .int .i32 (Dia.un s.data.toList (k + 2) big)] w fun e w' => e = .returned (.tuple #[.int .i32 (Dia.pairv (Dia.un s.data.toList k big) (Dia.un s.data.toList (k + 2) big)).1, .bool true]) ∧ w = w') :=
                ⟨fun w => by have := Tryd.c_pair (Dia.un s.data.toList k big) (Dia.un s.data.toList (k + 2) big) w ⟨hub0, hub1⟩ hvb; rw [hok] at this; exact this⟩
              clear hok hsv
              go_wp2_with (first
                | (go_at_call 20; (with_reducible refine (Tryd.c_unit s k big _ h2 hs).mono ?_); rintro e w1 ⟨rfl, hb1⟩)
                | (go_at_call 20; refine (Tryd.c_unit' s (k + 2) big _ _ (by omega) hs (by go_num)).mono ?_; rintro e w2 ⟨rfl, hb2⟩)
                | (go_at_call 21; refine (Tryd.c_Scalar _ _).mono ?_; rintro e w' ⟨rfl, rfl⟩)
                | (go_at_call 22; refine (HP.out _).mono ?_; rintro e w' ⟨rfl, rfl⟩)
                | (at_builtin; refine Aid.wpList_app1 (w0 := w.alloc (.cells #[.int .i64 0, .int .i64 0] 25)) _ rfl _ _ 32 21 1 4 rfl Tryd.underlying32 i0 _ hi hz0 hz1 hz2 rfl (by decide) (w.heap.size + 1) _ _ _ #[.int .i32 (Dia.pairv (Dia.un s.data.toList k big) (Dia.un s.data.toList (k + 2) big)).1] _ rfl _ rfl (Aid.ownsRow_below (Aid.ownsRow_below hown hb1) hb2) (hb.trans ((Aid.bt' hBr hb1 hb2))) ?_ rfl rfl ?_ ?_ ?_ ?_))
              · have := hb1.size; have := hb2.size; omega
              · simp [Value.oneCell']
              · omega
              · omega
              · intro v' w3 hown2 hb3 hsz3 _
                go_wp2
                go_roundw
                case rel => exact ⟨k + 4, _, by go_num, Dia.gUp_step (Dia.wcoded big) hu hgood.out (by decide), by simpa [Dia.rv] using hown2, hb3⟩
                case measure => simp [intOf]; omega
            · have hok' : (Dia.pairv (Dia.un s.data.toList k big) (Dia.un s.data.toList (k + 2) big)).2 = false := by simpa using hok
              have hbad : Aid.Hid2 (Dia.whd big (List.drop k s.data.toList) = (0, 0)) := ⟨by rw [hsv.out, if_neg hok]⟩
              have HP : Aid.Hid2 (∀ w, Calls Tryd.prog 22 #[.int .i32 (Dia.un s.data.toList k big), .int .i32 (Dia.un s.data.toList (k + 2) big)] w fun e w' => e = .returned (.tuple #[.int .i32 (Dia.pairv (Dia.un s.data.toList k big) (Dia.un s.data.toList (k + 2) big)).1, .bool false]) ∧ w = w') :=
                ⟨fun w => by have := Tryd.c_pair (Dia.un s.data.toList k big) (Dia.un s.data.toList (k + 2) big) w ⟨hub0, hub1⟩ hvb; rw [hok'] at this; exact this⟩
              clear hok hok' hsv
              go_wp2_with (first
                | (go_at_call 20; (with_reducible refine (Tryd.c_unit s k big _ h2 hs).mono ?_); rintro e w1 ⟨rfl, hb1⟩)
                | (go_at_call 20; refine (Tryd.c_unit' s (k + 2) big _ _ (by omega) hs (by go_num)).mono ?_; rintro e w2 ⟨rfl, hb2⟩)
                | (go_at_call 21; refine (Tryd.c_Scalar _ _).mono ?_; rintro e w' ⟨rfl, rfl⟩)
                | (go_at_call 22; refine (HP.out _).mono ?_; rintro e w' ⟨rfl, rfl⟩)
                | (go_at_call 19; refine (Tryd.c_bad _ _).mono ?_; rintro e w3 ⟨rfl, hb3⟩; obtain ⟨d0, d1, g0, g1⟩ := Aid.cells2 (hb.trans (Aid.bt' hBr (Aid.bt hb1 hb2) hb3))))
              exact bodyPost_ret (v := .tuple #[.string ⟨#[]⟩, .agg #[.int .i64 2, .int .i64 k]]) (by simp [results, Tryd.results8, go_sem, d0, d1]) rfl
                (Dia.isDecode_bad hu hlt hbad.out rfl (((Aid.bt (Aid.bt (Aid.bt hbw hb1) hb2) hb3).setCell (Nat.le_refl _) _).setCell (Nat.le_refl _) _))
          · have h4' : (s.size : Int) - 4 < (k : Int) := by omega
            have hbad := Aid.Hid2.mk (Dia.whd_cut (l := s.data.toList) (i := k) (big := big) (by rw [HLN.out]; exact h2) hsc' (by rw [HLN.out]; omega))
            clear h4
            go_wp2_with (first
              | (go_at_call 20; refine (Tryd.c_unit s k big _ h2 hs).mono ?_; rintro e w1 ⟨rfl, hb1⟩)
              | (go_at_call 21; refine (Tryd.c_Scalar _ _).mono ?_; rintro e w' ⟨rfl, rfl⟩)
              | (go_at_call 19; refine (Tryd.c_bad _ _).mono ?_; rintro e w3 ⟨rfl, hb3⟩; obtain ⟨d0, d1, g0, g1⟩ := Aid.cells2 (hb.trans (Aid.bt' hBr hb1 hb3))))
            exact bodyPost_ret (v := .tuple #[.string ⟨#[]⟩, .agg #[.int .i64 2, .int .i64 k]]) (by simp [results, Tryd.results8, go_sem, d0, d1]) rfl
              (Dia.isDecode_bad hu hlt hbad.out rfl (((Aid.bt (Aid.bt hbw hb1) hb3).setCell (Nat.le_refl _) _).setCell (Nat.le_refl _) _))
    · have hend := Aid.Hid2.mk (Dia.gUp_end (Dia.wcoded big) hu (by rw [HLN.out]; exact hlt))
      have hall := hu.1
      have htx := Dia.txt_ok hall
      obtain ⟨aa, cap, hv, hrow⟩ := Aid.own_row hown
      rw [List.length_map] at hv
      subst hv
      have HTx : Aid.Hid2 (Calls Tryd.prog 23 #[.slice aa ps.length cap] wr fun e w' => e = .returned (.tuple #[.string ⟨(Dia.encs ps).toArray⟩, .bool true]) ∧ Below wr.heap.size wr w') :=
        ⟨by have := Tryd.c_Text aa ps cap wr hrow (by omega); rw [htx] at this; exact this⟩
      clear htx hall
      go_wp2_with (go_at_call 23; refine HTx.out.mono ?_; rintro e w1 ⟨rfl, hb1⟩; obtain ⟨d0, d1, g0, g1⟩ := Aid.cells2 (hb.trans (hb1.mono hBr)))
      exact bodyPost_ret (v := .tuple #[.string ⟨(Dia.encs ps).toArray⟩, .agg #[.int .i64 0, .int .i64 0]]) (by simp [results, Tryd.results8, go_sem, d0, d1]) rfl
        (by
          have e1 : Dia.wpts big s.data.toList = (ps, -1) := hend.out
          unfold Dia.IsDecode
          rw [e1]
          exact ⟨0, 0, rfl, Dia.isFault_none, ((Aid.bt hbw hb1).setCell (Nat.le_refl _) _).setCell (Nat.le_refl _) _⟩)
end Go.Proofs
