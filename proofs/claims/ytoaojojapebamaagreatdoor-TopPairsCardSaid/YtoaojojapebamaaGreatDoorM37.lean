/- walks of octet and wide: small functions; walks of wide: bad, two, Decode, Encode; walks of wide: Encode -/
import Derived.Test.YtoaojojapebamaaGreatDoorM06
import Derived.Test.YtoaojojapebamaaGreatDoorM36
import Derived.Laws.DeepBits32
import Derived.Test.YtoaojojapebamaaGreatDoorM17
namespace Go.Proofs
open Go.RowKit

theorem Dia.or_hi (a b : Nat) (hb : b < 256) : a * 256 ||| b = a * 256 + b := by
  have h := Nat.shiftLeft_add_eq_or_of_lt (i := 8) (b := b) (by omega) a
  rw [Nat.shiftLeft_eq] at h
  exact h.symm
theorem Dia.i32_or_hi (a b : Nat) (ha : a < 256) (hb : b < 256) : bits .or .i32 (wrap32 (wrap32 (a : Int) * 256)) (wrap32 (b : Int)) = (a : Int) * 256 + b := by
  have e1 : wrap32 (a : Int) = a := by unfold wrap32; omega
  have e2 : wrap32 (b : Int) = b := by unfold wrap32; omega
  have e3 : wrap32 ((a : Int) * 256) = ((a * 256 : Nat) : Int) := by unfold wrap32; omega
  rw [e1, e2, e3]
  show IntKind.i32.wrap ((BitVec.ofInt 32 ((a * 256 : Nat) : Int) ||| BitVec.ofInt 32 (b : Int)).toNat : Int) = _
  rw [BitVec.toNat_or, ofInt_u32 _ (by omega), ofInt_u32 b (by omega), Dia.or_hi a b hb]
  rw [wrap_i32_small _ (by omega) (by omega)]
  omega
theorem Dia.un_bytes (s : ByteArray) (i : Nat) (big : Bool) (hi : i + 1 < s.size) : Dia.un s.data.toList i big = if big then (s[i].toNat : Int) * 256 + s[i + 1].toNat else (s[i + 1].toNat : Int) * 256 + s[i].toNat := by
  unfold Dia.un Dia.unit
  have h1 : s.data.toList.getD i 0 = s[i] := by
    rw [List.getD_eq_getElem?_getD, List.getElem?_eq_getElem (show i < s.data.toList.length by show i < s.size; omega)]; rfl
  have h2 : s.data.toList.getD (i + 1) 0 = s[i + 1] := by
    rw [List.getD_eq_getElem?_getD, List.getElem?_eq_getElem (show i + 1 < s.data.toList.length from hi)]; rfl
  rw [h1, h2]

set_option maxRecDepth 100000 in
set_option maxHeartbeats 400000 in
theorem Tryz.c_unit (s : ByteArray) (i : Nat) (big : Bool) (w : World) (hi : i + 1 < s.size) (hs : s.size ≤ 1000000) :
    Calls Tryz.prog 54 #[.string s, .int .i64 i, .bool big] w fun e w' => e = .returned (.int .i32 (Dia.un s.data.toList i big)) ∧ Below w.heap.size w w' := by
  have h1 : (i : Int) < (s.size : Int) := by omega
  have h2 : (i : Int) + 1 < (s.size : Int) := by omega
  have hw : IntKind.i64.wrap ((i : Int) + 1) = (i : Int) + 1 := IntWalk.i64_in _ (by omega)
  have h3 : (0 : Int) ≤ (i : Int) + 1 := by omega
  have h4 : ((i : Int) + 1).toNat = i + 1 := by omega
  cases big
  · have E := Aid.Hid2.mk (Dia.un_bytes s i false hi)
    go_enter Tryz.func54, Tryz.ntmps54
    go_wp2_with fail
    go_quiet (fail)
    go_wp2
    go_ret
    exact ⟨Dia.ret_i (by rw [E.out]; exact Dia.i32_or_hi _ _ (UInt8.toNat_lt _) (UInt8.toNat_lt _)), below_drewN (Below.refl _ _) _⟩
  · have E := Aid.Hid2.mk (Dia.un_bytes s i true hi)
    go_enter Tryz.func54, Tryz.ntmps54
    go_wp2_with fail
    go_quiet (fail)
    go_wp2
    go_ret
    exact ⟨Dia.ret_i (by rw [E.out]; exact Dia.i32_or_hi _ _ (UInt8.toNat_lt _) (UInt8.toNat_lt _)), below_drewN (Below.refl _ _) _⟩

set_option maxRecDepth 100000 in
set_option maxHeartbeats 400000 in
theorem Tryz.c_pair (u v : Int) (w : World) (hu : 0 ≤ u ∧ u ≤ 65535) (hv : 0 ≤ v ∧ v ≤ 65535) :
    Calls Tryz.prog 56 #[.int .i32 u, .int .i32 v] w fun e w' => e = .returned (.tuple #[.int .i32 (Dia.pairv u v).1, .bool (Dia.pairv u v).2]) ∧ w = w' := by
  obtain ⟨hu0, hu1⟩ := hu
  obtain ⟨hv0, hv1⟩ := hv
  by_cases c : u < 55296 ∨ 56319 < u ∨ v < 56320 ∨ 57343 < v
  · have E : Aid.Hid2 (Dia.pairv u v = (0, false)) := ⟨by unfold Dia.pairv; rw [if_pos c]⟩
    go_enter Tryz.func56, Tryz.ntmps56
    go_wp2
    all_goals first
      | (exfalso; omega)
      | (go_ret2
         rw [E.out]
         exact ⟨rfl, rfl⟩)
  · have E : Aid.Hid2 (Dia.pairv u v = (65536 + (u - 55296) * 1024 + (v - 56320), true)) := ⟨by unfold Dia.pairv; rw [if_neg c]⟩
    go_enter Tryz.func56, Tryz.ntmps56
    go_wp2
    all_goals first
      | (exfalso; omega)
      | (go_ret2
         rw [E.out]
         exact ⟨rfl, rfl⟩)
end Go.Proofs
namespace Go.Proofs
open Go.RowKit

theorem Tryz.c_bad (i : Int) (w : World) :
    Calls Tryz.prog 53 #[.int .i64 i] w fun e w' => e = .returned (.agg #[.int .i64 2, .int .i64 i]) ∧ Below w.heap.size w w' := by
  go_enter Tryz.func53, Tryz.ntmps53
  go_wp2
  exact bodyPost_ret (v := .agg #[.int .i64 2, .int .i64 i]) (by simp [results, Tryz.results53, go_sem]) rfl ⟨rfl, (Below.refl _ _).alloc (Nat.le_refl _) _⟩

theorem Dia.two_big (u : Nat) (h : u ≤ 65535) : Dia.bigB u 2 = Dia.wtwo true u := by
  have e : List.range 2 = [0, 1] := rfl
  simp only [Dia.bigB, Dia.wtwo, e, List.map_cons, List.map_nil, if_true]
  congr 2
  · congr 1; omega
  · congr 2; omega
theorem Dia.two_small (u : Nat) (h : u ≤ 65535) : Dia.smallB u 2 = Dia.wtwo false u := by
  have e : List.range 2 = [0, 1] := rfl
  simp only [Dia.smallB, Dia.wtwo, e, List.map_cons, List.map_nil, Bool.false_eq_true, if_false]
  congr 2
  · congr 1; omega
  · congr 2; omega

set_option maxRecDepth 100000 in
set_option maxHeartbeats 400000 in
theorem Tryz.c_two (u : Int) (big : Bool) (w : World) (hu0 : 0 ≤ u) (hu1 : u ≤ 65535) :
    Calls Tryz.prog 49 #[.int .i32 u, .bool big] w fun e w' => e = .returned (.string ⟨(Dia.wtwo big u).toArray⟩) ∧ Below w.heap.size w w' := by
  obtain ⟨n, rfl⟩ := Int.eq_ofNat_of_zero_le hu0
  have hn : n ≤ 65535 := by omega
  cases big
  · have HS : Aid.Hid2 (Calls Tryz.prog 89 #[.int .u64 n, .int .i64 2] w fun e w' => e = .returned (.string ⟨(Dia.wtwo false n).toArray⟩) ∧ Below w.heap.size w w') :=
      ⟨by have := Tryz.c_Small n 2 w (by omega) (by omega); rw [Dia.two_small n hn] at this; exact this⟩
    go_enter Tryz.func49, Tryz.ntmps49
    go_wp2_with (go_at_call 89; refine HS.out.mono ?_; rintro e w1 ⟨rfl, hb1⟩)
    go_ret
    exact ⟨rfl, hb1⟩
  · have HS : Aid.Hid2 (Calls Tryz.prog 46 #[.int .u64 n, .int .i64 2] w fun e w' => e = .returned (.string ⟨(Dia.wtwo true n).toArray⟩) ∧ Below w.heap.size w w') :=
      ⟨by have := Tryz.c_Big n 2 w (by omega) (by omega); rw [Dia.two_big n hn] at this; exact this⟩
    go_enter Tryz.func49, Tryz.ntmps49
    go_wp2_with (go_at_call 46; refine HS.out.mono ?_; rintro e w1 ⟨rfl, hb1⟩)
    go_ret
    exact ⟨rfl, hb1⟩

theorem Aid.bt' {B : Nat} {w w1 w2 : World} (hB : B ≤ w.heap.size) (h1 : Below w.heap.size w w1) (h2 : Below w1.heap.size w1 w2) : Below B w w2 := (Aid.bt h1 h2).mono hB
theorem Tryz.c_unit' (s : ByteArray) (i : Nat) (big : Bool) (w : World) (j : Int) (hi : i + 1 < s.size) (hs : s.size ≤ 1000000) (hj : (Value.int .i64 j) = .int .i64 (i : Nat)) :
    Calls Tryz.prog 54 #[.string s, .int .i64 j, .bool big] w fun e w' => e = .returned (.int .i32 (Dia.un s.data.toList i big)) ∧ Below w.heap.size w w' := by
  cases hj
  exact Tryz.c_unit s i big w hi hs
/-- what Decode hands back -/
def Dia.IsDecode (big : Bool) (l : List UInt8) (w w' : World) (e : Ending) : Prop :=
  ∃ a b : Int, e = .returned (.tuple #[.string ⟨(Dia.encs (Dia.wpts big l).1).toArray⟩, .agg #[.int .i64 a, .int .i64 b]]) ∧ Dia.IsFault (Dia.wpts big l).2 a b ∧ Below w.heap.size w w'
theorem Dia.isDecode_bad {big : Bool} {s : ByteArray} {i : Nat} {ps : List Int} {w w' : World} {e : Ending} (hu : Dia.GUp (Dia.wen big) s.data.toList i ps) (hi : i < s.size) (hn : Dia.whd big (s.data.toList.drop i) = (0, 0))
    (he : e = .returned (.tuple #[.string ⟨#[]⟩, .agg #[.int .i64 2, .int .i64 i]])) (hb : Below w.heap.size w w') : Dia.IsDecode big s.data.toList w w' e := by
  have h := Dia.gUp_bad (Dia.wcoded big) hu hi (by rw [hn])
  unfold Dia.IsDecode
  have e1 : Dia.wpts big s.data.toList = ([], (i : Int)) := h
  rw [e1]
  exact ⟨2, i, he, Dia.isFault_at i, hb⟩

set_option maxRecDepth 100000 in
set_option maxHeartbeats 2000000 in
theorem Tryz.c_Decode (s : ByteArray) (big : Bool) (w : World) (hs : s.size ≤ 1000000) :
    Calls Tryz.prog 24 #[.string s, .bool big] w fun e w' => Dia.IsDecode big s.data.toList w w' e := by
  obtain ⟨i0, hi, hz0, hz1, hz2⟩ := info_parts Tryz.info_i32
  go_enter Tryz.func24, Tryz.ntmps24
  go_wp2
  go_loopw [6, 7, 8, 9, 10] (fun v i _ _ _ wr => ∃ (k : Nat) (ps : List Int), i = .int .i64 k ∧ Dia.GUp (Dia.wen big) s.data.toList k ps ∧
      wr.ownsRow (w.heap.size + 1) 21 1 v ps.length (ps.map Dia.rv) ∧ Below (w.heap.size + 1) (w.alloc (.cells #[.int .i64 0, .int .i64 0] 26)) wr)
    (fun _ i _ _ _ _ => s.size - (intOf i).toNat)
  case atStart => exact ⟨0, [], rfl, Dia.gUp_zero _, World.ownsRow_nil _ _ _ _, Below.refl _ _⟩
  case round =>
    obtain ⟨k, ps, rfl, hu, hown, hb⟩ := hrel
    have hk : k ≤ s.size := Dia.gUp_le hu
    have hpl := Dia.gUp_len (Dia.wcoded big) hu
    have hbw : Below w.heap.size w wr := Aid.below_new hb (Nat.le_refl _)
    have hBr := Aid.new_lt hb
    obtain ⟨c0, c1, f0, f1⟩ := Aid.cells2 hb
    have hln : s.data.toList.length = s.size := rfl
    have HLN := Lib.hid hln
    clear hln
    by_cases hlt : k < s.size
    · by_cases h1 : k + 1 = s.size
      · have hbad := Aid.Hid2.mk (Dia.whd_one (l := s.data.toList) (i := k) (big := big) (by rw [HLN.out]; exact h1))
        have hq : (((k : Int)) == (s.size : Int) - 1) = true := by simp; omega
        clear h1
        go_wp2_with (go_at_call 53; refine (Tryz.c_bad _ _).mono ?_; rintro e w1 ⟨rfl, hb1⟩; obtain ⟨d0, d1, g0, g1⟩ := Aid.cells2 (hb.trans (hb1.mono hBr)))
        exact bodyPost_ret (v := .tuple #[.string ⟨#[]⟩, .agg #[.int .i64 2, .int .i64 k]]) (by simp [results, Tryz.results24, go_sem, d0, d1]) rfl
          (Dia.isDecode_bad hu hlt hbad.out rfl (((Aid.bt hbw hb1).setCell (Nat.le_refl _) _).setCell (Nat.le_refl _) _))
      · have h2 : k + 1 < s.size := by omega
        have hq : (((k : Int)) == (s.size : Int) - 1) = false := by simp; omega
        clear h1
        have hub : 0 ≤ Dia.un s.data.toList k big ∧ Dia.un s.data.toList k big ≤ 65535 := Dia.unit_bd _ _ _
        obtain ⟨hub0, hub1⟩ := hub
        by_cases hsc : Dia.sc (Dia.un s.data.toList k big) = true
        · have hgood := Aid.Hid2.mk (Dia.whd_plain (l := s.data.toList) (i := k) (big := big) (by rw [HLN.out]; exact h2) hsc)
          go_wp2_with (first
            | (go_at_call 54; refine (Tryz.c_unit s k big _ h2 hs).mono ?_; rintro e w1 ⟨rfl, hb1⟩)
            | (go_at_call 55; refine (Tryz.c_Scalar _ _).mono ?_; rintro e w' ⟨rfl, rfl⟩)
            | (at_builtin; refine Aid.wpList_app1 (w0 := w.alloc (.cells #[.int .i64 0, .int .i64 0] 26)) _ rfl _ _ 57 21 1 4 rfl Tryz.underlying57 i0 _ hi hz0 hz1 hz2 rfl (by decide) (w.heap.size + 1) _ _ _ #[.int .i32 (Dia.un s.data.toList k big)] _ rfl _ rfl (Aid.ownsRow_below hown hb1) (hb.trans (hb1.mono hBr)) ?_ rfl rfl ?_ ?_ ?_ ?_))
          · have := hb1.size; omega
          · simp [Value.oneCell']
          · omega
          · omega
          · intro v' w2 hown2 hb2 hsz2 _
            go_wp2
            go_roundw
            case rel => exact ⟨k + 2, _, by go_num, Dia.gUp_step (Dia.wcoded big) hu hgood.out (by decide), by simpa [Dia.rv] using hown2, hb2⟩
            case measure => simp [intOf]; omega
        · have hsc' : Dia.sc (Dia.un s.data.toList k big) = false := by simpa using hsc
          clear hsc
          by_cases h4 : k + 3 < s.size
          · have h4' : (k : Int) ≤ (s.size : Int) - 4 := by omega
            have hsv := Aid.Hid2.mk (Dia.whd_pair (l := s.data.toList) (i := k) (big := big) (by rw [HLN.out]; exact h4) hsc')
            have hvb : 0 ≤ Dia.un s.data.toList (k + 2) big ∧ Dia.un s.data.toList (k + 2) big ≤ 65535 := Dia.unit_bd _ _ _
            by_cases hok : (Dia.pairv (Dia.un s.data.toList k big) (Dia.un s.data.toList (k + 2) big)).2 = true
            · have hgood : Aid.Hid2 (Dia.whd big (List.drop k s.data.toList) = ((Dia.pairv (Dia.un s.data.toList k big) (Dia.un s.data.toList (k + 2) big)).1, 4)) := ⟨by rw [hsv.out, if_pos hok]⟩
              have HP : Aid.Hid2 (∀ w, Calls Tryz.prog 56 #[.int .i32 (Dia.un s.data.toList k big), .int .i32 (Dia.un s.data.toList (k + 2) big)] w fun e w' => e = .returned (.tuple #[.int .i32 (Dia.pairv (Dia.un s.data.toList k big) (Dia.un s.data.toList (k + 2) big)).1, .bool true]) ∧ w = w') :=
                ⟨fun w => by have := Tryz.c_pair (Dia.un s.data.toList k big) (Dia.un s.data.toList (k + 2) big) w ⟨hub0, hub1⟩ hvb; rw [hok] at this; exact this⟩
              clear hok hsv
              go_wp2_with (first
                | (go_at_call 54; (with_reducible refine (Tryz.c_unit s k big _ h2 hs).mono ?_); rintro e w1 ⟨rfl, hb1⟩)
                | (go_at_call 54; refine (Tryz.c_unit' s (k + 2) big _ _ (by omega) hs (by go_num)).mono ?_; rintro e w2 ⟨rfl, hb2⟩)
                | (go_at_call 55; refine (Tryz.c_Scalar _ _).mono ?_; rintro e w' ⟨rfl, rfl⟩)
                | (go_at_call 56; refine (HP.out _).mono ?_; rintro e w' ⟨rfl, rfl⟩)
                | (at_builtin; refine Aid.wpList_app1 (w0 := w.alloc (.cells #[.int .i64 0, .int .i64 0] 26)) _ rfl _ _ 57 21 1 4 rfl Tryz.underlying57 i0 _ hi hz0 hz1 hz2 rfl (by decide) (w.heap.size + 1) _ _ _ #[.int .i32 (Dia.pairv (Dia.un s.data.toList k big) (Dia.un s.data.toList (k + 2) big)).1] _ rfl _ rfl (Aid.ownsRow_below (Aid.ownsRow_below hown hb1) hb2) (hb.trans ((Aid.bt' hBr hb1 hb2))) ?_ rfl rfl ?_ ?_ ?_ ?_))
              · have := hb1.size; have := hb2.size; omega
              · simp [Value.oneCell']
              · omega
              · omega
              · intro v' w3 hown2 hb3 hsz3 _
                go_wp2
                go_roundw
                case rel => exact ⟨k + 4, _, by go_num, Dia.gUp_step (Dia.wcoded big) hu hgood.out (by decide), by simpa [Dia.rv] using hown2, hb3⟩
                case measure => simp [intOf]; omega
            · have hok' : (Dia.pairv (Dia.un s.data.toList k big) (Dia.un s.data.toList (k + 2) big)).2 = false := by simpa using hok
              have hbad : Aid.Hid2 (Dia.whd big (List.drop k s.data.toList) = (0, 0)) := ⟨by rw [hsv.out, if_neg hok]⟩
              have HP : Aid.Hid2 (∀ w, Calls Tryz.prog 56 #[.int .i32 (Dia.un s.data.toList k big), .int .i32 (Dia.un s.data.toList (k + 2) big)] w fun e w' => e = .returned (.tuple #[.int .i32 (Dia.pairv (Dia.un s.data.toList k big) (Dia.un s.data.toList (k + 2) big)).1, .bool false]) ∧ w = w') :=
                ⟨fun w => by have := Tryz.c_pair (Dia.un s.data.toList k big) (Dia.un s.data.toList (k + 2) big) w ⟨hub0, hub1⟩ hvb; rw [hok'] at this; exact this⟩
              clear hok hok' hsv
              go_wp2_with (first
                | (go_at_call 54; (with_reducible refine (Tryz.c_unit s k big _ h2 hs).mono ?_); rintro e w1 ⟨rfl, hb1⟩)
                | (go_at_call 54; refine (Tryz.c_unit' s (k + 2) big _ _ (by omega) hs (by go_num)).mono ?_; rintro e w2 ⟨rfl, hb2⟩)
                | (go_at_call 55; refine (Tryz.c_Scalar _ _).mono ?_; rintro e w' ⟨rfl, rfl⟩)
                | (go_at_call 56; refine (HP.out _).mono ?_; rintro e w' ⟨rfl, rfl⟩)
                | (go_at_call 53; refine (Tryz.c_bad _ _).mono ?_; rintro e w3 ⟨rfl, hb3⟩; obtain ⟨d0, d1, g0, g1⟩ := Aid.cells2 (hb.trans (Aid.bt' hBr (Aid.bt hb1 hb2) hb3))))
              exact bodyPost_ret (v := .tuple #[.string ⟨#[]⟩, .agg #[.int .i64 2, .int .i64 k]]) (by simp [results, Tryz.results24, go_sem, d0, d1]) rfl
                (Dia.isDecode_bad hu hlt hbad.out rfl (((Aid.bt (Aid.bt (Aid.bt hbw hb1) hb2) hb3).setCell (Nat.le_refl _) _).setCell (Nat.le_refl _) _))
          · have h4' : (s.size : Int) - 4 < (k : Int) := by omega
            have hbad := Aid.Hid2.mk (Dia.whd_cut (l := s.data.toList) (i := k) (big := big) (by rw [HLN.out]; exact h2) hsc' (by rw [HLN.out]; omega))
            clear h4
            go_wp2_with (first
              | (go_at_call 54; refine (Tryz.c_unit s k big _ h2 hs).mono ?_; rintro e w1 ⟨rfl, hb1⟩)
              | (go_at_call 55; refine (Tryz.c_Scalar _ _).mono ?_; rintro e w' ⟨rfl, rfl⟩)
              | (go_at_call 53; refine (Tryz.c_bad _ _).mono ?_; rintro e w3 ⟨rfl, hb3⟩; obtain ⟨d0, d1, g0, g1⟩ := Aid.cells2 (hb.trans (Aid.bt' hBr hb1 hb3))))
            exact bodyPost_ret (v := .tuple #[.string ⟨#[]⟩, .agg #[.int .i64 2, .int .i64 k]]) (by simp [results, Tryz.results24, go_sem, d0, d1]) rfl
              (Dia.isDecode_bad hu hlt hbad.out rfl (((Aid.bt (Aid.bt hbw hb1) hb3).setCell (Nat.le_refl _) _).setCell (Nat.le_refl _) _))
    · have hend := Aid.Hid2.mk (Dia.gUp_end (Dia.wcoded big) hu (by rw [HLN.out]; exact hlt))
      have hall := hu.1
      have htx := Dia.txt_ok hall
      obtain ⟨aa, cap, hv, hrow⟩ := Aid.own_row hown
      rw [List.length_map] at hv
      subst hv
      have HTx : Aid.Hid2 (Calls Tryz.prog 30 #[.slice aa ps.length cap] wr fun e w' => e = .returned (.tuple #[.string ⟨(Dia.encs ps).toArray⟩, .bool true]) ∧ Below wr.heap.size wr w') :=
        ⟨by have := Tryz.c_Text aa ps cap wr hrow (by omega); rw [htx] at this; exact this⟩
      clear htx hall
      go_wp2_with (go_at_call 30; refine HTx.out.mono ?_; rintro e w1 ⟨rfl, hb1⟩; obtain ⟨d0, d1, g0, g1⟩ := Aid.cells2 (hb.trans (hb1.mono hBr)))
      exact bodyPost_ret (v := .tuple #[.string ⟨(Dia.encs ps).toArray⟩, .agg #[.int .i64 0, .int .i64 0]]) (by simp [results, Tryz.results24, go_sem, d0, d1]) rfl
        (by
          have e1 : Dia.wpts big s.data.toList = (ps, -1) := hend.out
          unfold Dia.IsDecode
          rw [e1]
          exact ⟨0, 0, rfl, Dia.isFault_none, ((Aid.bt hbw hb1).setCell (Nat.le_refl _) _).setCell (Nat.le_refl _) _⟩)
end Go.Proofs
namespace Go.Proofs
open Go.RowKit

theorem Aid.own_row' {w : World} {B : Nat} {e : TypeId} {v : Value} {n : Nat} {xs : List Value} (h : w.ownsRow B e 1 v n xs) : ∃ a cap, v = .slice a xs.length cap ∧ Aid.RowAt w a xs ∧ xs.length ≤ cap := by
  have hl := h.1
  simp at hl
  rcases h.2 with ⟨rfl, rfl⟩ | ⟨g, cap, cur, hv, h3⟩
  · have : xs = [] := by simpa using hl
    subst this
    exact ⟨none, 0, rfl, .inl rfl, Nat.le_refl _⟩
  · obtain ⟨a, c, hv2, hr⟩ := Aid.own_row h
    rw [hv] at hv2
    cases hv2
    exact ⟨_, _, hv, hr, h3.2.2.1⟩
theorem Tryz.info_str : (Tryz.prog.info? 9).map (fun i => (i.zero, i.size, i.bytes)) = some (some (.string ⟨#[]⟩), 1, 16) := by kernel_rfl
/-- what Encode hands back -/
def Dia.IsEncode (big : Bool) (l : List UInt8) (w w' : World) (e : Ending) : Prop :=
  ∃ a b : Int, e = .returned (.tuple #[.string ⟨(Dia.wens big (Dia.pts l).1).toArray⟩, .agg #[.int .i64 a, .int .i64 b]]) ∧ Dia.IsFault (Dia.pts l).2 a b ∧ Below w.heap.size w w'
theorem Dia.i32_low10 (q : Int) (h0 : 65536 ≤ q) (h1 : q ≤ 1114111) : wrap32 (56320 + bits .and .i32 (q - 65536) 1023) = 56320 + (q - 65536) % 1024 := by
  obtain ⟨n, hn⟩ := Int.eq_ofNat_of_zero_le (show 0 ≤ q - 65536 by omega)
  rw [hn]
  have e : bits .and .i32 (n : Int) 1023 = ((n % 1024 : Nat) : Int) := by
    show IntKind.i32.wrap ((BitVec.ofInt 32 (n : Int) &&& BitVec.ofInt 32 ((1023 : Nat) : Int)).toNat : Int) = _
    rw [BitVec.toNat_and, ofInt_u32 n (by omega), ofInt_u32 1023 (by omega), show (1023 : Nat) = 2 ^ 10 - 1 from rfl, Nat.and_two_pow_sub_one_eq_mod]
    rw [wrap_i32_small _ (by omega) (by omega)]
  rw [e]
  unfold wrap32
  omega
theorem Tryz.c_two' (u : Int) (big : Bool) (w : World) (j : Int) (hu0 : 0 ≤ u) (hu1 : u ≤ 65535) (hj : j = u) :
    Calls Tryz.prog 49 #[.int .i32 j, .bool big] w fun e w' => e = .returned (.string ⟨(Dia.wtwo big u).toArray⟩) ∧ Below w.heap.size w w' := by
  subst hj
  exact Tryz.c_two _ big w hu0 hu1
/-- texts whose bytes, one behind the other, are these -/
def Dia.Parts (xs : List ByteArray) (l : List UInt8) : Prop := (xs.map (·.data.toList)).flatten = l
theorem Dia.parts_snoc {xs : List ByteArray} {l : List UInt8} (h : Dia.Parts xs l) (y : List UInt8) : Dia.Parts (xs ++ [⟨y.toArray⟩]) (l ++ y) := by
  unfold Dia.Parts at *
  rw [List.map_append, List.flatten_append, h]
  simp
theorem Dia.wens_snoc (big : Bool) (ps : List Int) (p : Int) : Dia.wens big (ps ++ [p]) = Dia.wens big ps ++ Dia.wen big p := Dia.gens_snoc ps p
theorem Dia.wen_low (big : Bool) {p : Int} (h : p < 65536) : Dia.wen big p = Dia.wtwo big p := by unfold Dia.wen; rw [if_pos h]
theorem Dia.wen_high (big : Bool) {p : Int} (h : 65536 ≤ p) : Dia.wen big p = Dia.wtwo big (55296 + (p - 65536) / 1024) ++ Dia.wtwo big (56320 + (p - 65536) % 1024) := by unfold Dia.wen; rw [if_neg (by omega)]
theorem Dia.wens_len (big : Bool) : ∀ (ps : List Int), (Dia.wens big ps).length ≤ 4 * ps.length
  | [] => by simp [Dia.wens, Dia.gens_nil]
  | p :: ps => by
    have := Dia.wens_len big ps
    have h2 := Dia.wen_len big p
    unfold Dia.wens at *
    rw [Dia.gens_cons, List.length_append, List.length_cons, h2]
    split <;> omega
theorem Dia.pts_sc (l : List UInt8) : ∀ p ∈ (Dia.pts l).1, Dia.sc p = true := by
  rcases Dia.pts_cases l with ⟨ps, h1, h2, h3⟩ | ⟨ps, r, h1, h2, h3, h4, h5⟩
  · rw [h3]; exact h1
  · rw [h5]; simp

set_option maxRecDepth 100000 in
set_option maxHeartbeats 2000000 in
theorem Tryz.c_Encode (s : ByteArray) (big : Bool) (w : World) (hs : s.size ≤ 100000) (hT : Tryz.Tabs w) :
    Calls Tryz.prog 20 #[.string s, .bool big] w fun e w' => Dia.IsEncode big s.data.toList w w' e := by
  obtain ⟨i0, hi, hz0, hz1, hz2⟩ := info_parts Tryz.info_str
  have hpl := Dia.pts_len s.data.toList
  have hln : s.data.toList.length = s.size := rfl
  rw [hln] at hpl
  rcases Dia.pts_cases s.data.toList with ⟨ps, h1, h2, h3⟩ | ⟨ps, r, h1, h2, h3, h4, h5⟩
  · rw [h3] at hpl
    have hpl' : ps.length ≤ s.size := hpl
    have HP : Aid.Hid2 (∀ w, Tryz.Tabs w → Calls Tryz.prog 31 #[.string s] w fun e w' => ∃ (aa : Option Addr) (ca : Nat), e = .returned (.tuple #[.slice aa ps.length ca, .agg #[.int .i64 0, .int .i64 0]]) ∧ Aid.RowAt w' aa (ps.map Dia.rv) ∧ Below w.heap.size w w') :=
      ⟨fun w hT => (Tryz.c_Points s w (by omega) hT).mono fun e w' h => by
        unfold Dia.IsPoints at h
        rw [h3] at h
        obtain ⟨aa, ca, x, y, h1, h2, ⟨h3, h4⟩, h5⟩ := h
        exact ⟨aa, ca, by rw [h1, h3, h4]; rfl, h2, h5⟩⟩
    have H3 := Aid.Hid2.mk h3
    have HSC := Aid.Hid2.mk h1
    clear h1 h2 h3 hpl hln
    go_enter Tryz.func20, Tryz.ntmps20
    go_wp2_with (first
      | (go_at_call 31; refine (HP.out _ (hT.below ((Below.refl _ _).alloc (Nat.le_refl _) _))).mono ?_; rintro e w1 ⟨aa, ca, rfl, hrow, hb1⟩)
      | (go_at_call 7; refine (Tryz.c_Bad_no _ _).mono ?_; rintro e w2 ⟨rfl, hb2⟩))
    have hb2' := hb2.mono (show w1.heap.size + 1 ≤ _ by simp)
    have hb12 : Below (w.heap.size + 1) (w.alloc (.cells #[.int .i64 0, .int .i64 0] 26)) w2 := (hb1.mono (by simp)).trans (Aid.below_new hb2' (by have := hb1.size; simpa using this))
    have hB12 := Aid.new_lt hb12
    have hrow2 := (hrow.below ((Below.refl _ _).alloc (Nat.le_refl _) (.cells #[.int .i64 0, .int .i64 0] 26))).below hb2
    go_loopw [8, 10, 21] (fun v _ i wr => ∃ (k : Nat) (xs : List ByteArray), k ≤ ps.length ∧ i = .int .i64 k ∧ Dia.Parts xs (Dia.wens big (ps.take k)) ∧ xs.length ≤ 2 * k ∧
        wr.ownsRow w2.heap.size 9 1 v xs.length (xs.map Value.string) ∧ Below w2.heap.size w2 wr)
      (fun _ _ i _ => ps.length - (intOf i).toNat)
    case atStart => exact ⟨0, [], Nat.zero_le _, rfl, rfl, Nat.zero_le _, World.ownsRow_nil _ _ _ _, Below.refl _ _⟩
    case round =>
      obtain ⟨k, xs, hk, rfl, hpa, hxl, hown, hb⟩ := hrel
      have HPA := Aid.Hid2.mk hpa
      clear hpa
      by_cases hlt : k < ps.length
      · have ht := Aid.Hid2.mk (Dia.take_snoc ps k hlt)
        obtain ⟨b, off, rfl, hcell⟩ := (hrow2.below hb).get (k := k) (by simpa using hlt)
        simp only [List.getElem_map, Dia.rv] at hcell
        have hsc := HSC.out ps[k] (List.getElem_mem _)
        generalize ps[k] = q at *
        rw [Dia.sc_iff] at hsc
        by_cases hq : 65536 ≤ q
        · have HE := Aid.Hid2.mk (Dia.wen_high big hq)
          go_wp2_with (first
            | (go_at_call 49; refine (Tryz.c_two' (55296 + (q - 65536) / 1024) big _ _ (by omega) (by omega) (by go_num)).mono ?_; rintro e w4 ⟨rfl, hb4⟩)
            | (at_builtin; refine Aid.wpList_app1 (w0 := w2) _ rfl _ _ 74 9 1 16 rfl Tryz.underlying74 i0 _ hi hz0 hz1 hz2 rfl (by decide) w2.heap.size _ _ _ #[.string ⟨(Dia.wtwo big (55296 + (q - 65536) / 1024)).toArray⟩] _ rfl _ rfl (Aid.ownsRow_below hown hb4) (hb.trans (hb4.mono hb.size)) ?_ rfl rfl ?_ ?_ ?_ ?_))
          · have := hb.size; have := hb4.size; omega
          · simp [Value.oneCell']
          · omega
          · omega
          · intro v' w5 hown2 hb5 hsz5 _
            have hlen5 : (xs ++ [(⟨(Dia.wtwo big (55296 + (q - 65536) / 1024)).toArray⟩ : ByteArray)]).length = xs.length + 1 := by simp
            have hown3 : w5.ownsRow w2.heap.size 9 1 v' (xs.length + 1) ((xs ++ [(⟨(Dia.wtwo big (55296 + (q - 65536) / 1024)).toArray⟩ : ByteArray)]).map Value.string) := by simpa using hown2
            have hpa2 := Dia.parts_snoc HPA.out (Dia.wtwo big (55296 + (q - 65536) / 1024))
            have HPA2 := Aid.Hid2.mk hpa2
            clear hpa2
            generalize xs ++ [(⟨(Dia.wtwo big (55296 + (q - 65536) / 1024)).toArray⟩ : ByteArray)] = ys at *
            go_wp2_with (first
              | (go_at_call 49; refine (Tryz.c_two' (56320 + (q - 65536) % 1024) big _ _ (by omega) (by omega) (Dia.i32_low10 q hq (by omega))).mono ?_; rintro e w6 ⟨rfl, hb6⟩)
              | (at_builtin; refine Aid.wpList_app1 (w0 := w2) _ rfl _ _ 74 9 1 16 rfl Tryz.underlying74 i0 _ hi hz0 hz1 hz2 rfl (by decide) w2.heap.size _ _ _ #[.string ⟨(Dia.wtwo big (56320 + (q - 65536) % 1024)).toArray⟩] _ rfl _ rfl (Aid.ownsRow_below hown3 hb6) (hb5.trans (hb6.mono hb5.size)) ?_ rfl rfl ?_ ?_ ?_ ?_))
            · have := hb5.size; have := hb6.size; omega
            · simp [Value.oneCell']
            · omega
            · omega
            · intro v'' w7 hown4 hb7 hsz7 _
              go_wp2
              go_roundw
              case rel => exact ⟨k + 1, ys ++ [⟨(Dia.wtwo big (56320 + (q - 65536) % 1024)).toArray⟩], by omega, by go_num, by rw [ht.out, Dia.wens_snoc, HE.out, ← List.append_assoc]; exact Dia.parts_snoc HPA2.out _, by rw [List.length_append, hlen5]; simp; omega, by rw [List.length_append, hlen5]; simpa using hown4, hb7⟩
              case measure => simp [intOf]; omega
        · have HE := Aid.Hid2.mk (Dia.wen_low big (show q < 65536 by omega))
          go_wp2_with (first
            | (go_at_call 49; refine (Tryz.c_two q big _ (by omega) (by omega)).mono ?_; rintro e w4 ⟨rfl, hb4⟩)
            | (at_builtin; refine Aid.wpList_app1 (w0 := w2) _ rfl _ _ 74 9 1 16 rfl Tryz.underlying74 i0 _ hi hz0 hz1 hz2 rfl (by decide) w2.heap.size _ _ _ #[.string ⟨(Dia.wtwo big q).toArray⟩] _ rfl _ rfl (Aid.ownsRow_below hown hb4) (hb.trans (hb4.mono hb.size)) ?_ rfl rfl ?_ ?_ ?_ ?_))
          · have := hb.size; have := hb4.size; omega
          · simp [Value.oneCell']
          · omega
          · omega
          · intro v' w5 hown2 hb5 hsz5 _
            go_wp2
            go_roundw
            case rel => exact ⟨k + 1, xs ++ [⟨(Dia.wtwo big q).toArray⟩], by omega, by go_num, by rw [ht.out, Dia.wens_snoc, HE.out]; exact Dia.parts_snoc HPA.out _, by simp; omega, by simpa using hown2, hb5⟩
            case measure => simp [intOf]; omega
      · have e : ps.take k = ps := List.take_of_length_le (by omega)
        have hwl := Dia.wens_len big ps
        obtain ⟨ab, cap, rfl, hrb, hcp⟩ := Aid.own_row' hown
        have hpa := HPA.out
        rw [e] at hpa
        have HJ : Aid.Hid2 (Calls Tryz.prog 47 #[.slice ab xs.length cap] wr fun e w' => e = .returned (.string ⟨(Dia.wens big ps).toArray⟩) ∧ Below wr.heap.size wr w') :=
          ⟨by
            have := Tryz.c_Join ab cap xs wr (by simpa using hrb) (by simpa using hcp) (by omega) (by rw [hpa]; omega)
            rw [hpa] at this
            exact this⟩
        clear hpa hwl
        simp only [List.length_map] at *
        go_wp2_with (go_at_call 47; refine HJ.out.mono ?_; rintro e w8 ⟨rfl, hb8⟩; obtain ⟨d0, d1, g0, g1⟩ := Aid.cells2 (hb12.trans (Aid.bt' hB12 hb hb8)))
        exact bodyPost_ret (v := .tuple #[.string ⟨(Dia.wens big ps).toArray⟩, .agg #[.int .i64 0, .int .i64 0]]) (by simp [results, Tryz.results20, go_sem, d0, d1]) rfl
          (by
            unfold Dia.IsEncode
            rw [H3.out]
            exact ⟨0, 0, rfl, Dia.isFault_none, ((Aid.below_new (hb12.trans (Aid.bt' hB12 hb hb8)) (Nat.le_refl _)).setCell (Nat.le_refl _) _).setCell (Nat.le_refl _) _⟩)
  · have HP : Aid.Hid2 (∀ w, Tryz.Tabs w → Calls Tryz.prog 31 #[.string s] w fun e w' => ∃ (aa : Option Addr) (ca : Nat), e = .returned (.tuple #[.slice aa 0 ca, .agg #[.int .i64 2, .int .i64 (Dia.encs ps).length]]) ∧ Below w.heap.size w w') :=
      ⟨fun w hT => (Tryz.c_Points s w (by omega) hT).mono fun e w' h => by
        unfold Dia.IsPoints at h
        rw [h5] at h
        obtain ⟨aa, ca, x, y, h1, h2, h3, h5⟩ := h
        unfold Dia.IsFault at h3
        obtain ⟨h3, h4⟩ := h3
        exact ⟨aa, ca, by rw [h1, h3, h4, if_neg (by omega), if_neg (by omega)]; rfl, h5⟩⟩
    have H5 := Aid.Hid2.mk h5
    clear h1 h2 h3 h4 h5 hpl hln
    go_enter Tryz.func20, Tryz.ntmps20
    go_wp2_with (first
      | (go_at_call 31; refine (HP.out _ (hT.below ((Below.refl _ _).alloc (Nat.le_refl _) _))).mono ?_; rintro e w1 ⟨aa, ca, rfl, hb1⟩)
      | (go_at_call 7; refine (Tryz.c_Bad_yes _ _).mono ?_; rintro e w2 ⟨rfl, hb2⟩))
    have hb2' := hb2.mono (show w1.heap.size + 1 ≤ _ by simp)
    obtain ⟨c0, c1, f0, f1⟩ := Aid.cells2 hb2'
    have hb12 : Below (w.heap.size + 1) (w.alloc (.cells #[.int .i64 0, .int .i64 0] 26)) w2 := (hb1.mono (by simp)).trans (Aid.below_new hb2' (by have := hb1.size; simpa using this))
    obtain ⟨d0, d1, g0, g1⟩ := Aid.cells2 hb12
    go_region
    go_wp2
    exact bodyPost_ret (v := .tuple #[.string ⟨#[]⟩, .agg #[.int .i64 2, .int .i64 (Dia.encs ps).length]]) (by simp [results, Tryz.results20, go_sem, d0, d1]) rfl
      (by
        unfold Dia.IsEncode
        rw [H5.out]
        exact ⟨2, (Dia.encs ps).length, rfl, Dia.isFault_at _, (((Aid.below_new hb12 (Nat.le_refl _)).setCell (Nat.le_refl _) _).setCell (Nat.le_refl _) _).drew⟩)
end Go.Proofs
