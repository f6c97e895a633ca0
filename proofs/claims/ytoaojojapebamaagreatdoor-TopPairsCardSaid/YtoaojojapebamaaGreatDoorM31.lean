/- walks of wansung's reference: Digit, In, Rank, Kth; walks of wansung: trail, letter, two; of its reference: Second; walks of wansung: Sign and Bytes at syllables; the document's example -/
import Derived.Test.YtoaojojapebamaaGreatDoorM30
namespace Go.Proofs
open Go.RowKit

def Dia.IsKth (k : Nat) (b : Bool) (w w' : World) (e : Ending) : Prop := ∃ p : Int, Dia.KthIs k b p ∧ e = .returned (.int .i32 p) ∧ w = w'
end Go.Proofs
namespace Go.Proofs
open Go.RowKit

def Dia.wtrail (b : Int) : Int × Bool := if 65 ≤ b ∧ b ≤ 90 then (b - 65, true) else if 97 ≤ b ∧ b ≤ 122 then (b - 97 + 26, true) else if 129 ≤ b ∧ b ≤ 254 then (b - 129 + 52, true) else (0, false)
def Dia.wsecond (b : Int) : Int := if 65 ≤ b ∧ b ≤ 90 then b - 65 else if 97 ≤ b ∧ b ≤ 122 then b - 97 + 26 else if 129 ≤ b ∧ b ≤ 254 then b - 129 + 52 else -1
def Dia.wletter (t : Int) : Int := if t < 26 then 65 + t else if t < 52 then 97 + t - 26 else 129 + t - 52
set_option maxRecDepth 100000 in
theorem Tryz.c_wtrail (b : Int) (w : World) (h : 0 ≤ b ∧ b ≤ 255) :
    Calls Tryz.prog 76 #[.int .u8 b] w fun e w' => e = .returned (.tuple #[.int .i64 (Dia.wtrail b).1, .bool (Dia.wtrail b).2]) ∧ w = w' := by
  obtain ⟨h0, h1⟩ := h
  by_cases a0 : 65 ≤ b
  · have d0 : decide (65 ≤ b) = true := decide_eq_true a0
    by_cases z0 : b ≤ 90
    · have x0 : decide (b ≤ 90) = true := decide_eq_true z0
      have HB : Aid.Hid2 (Dia.wtrail b = (b - 65, true)) := ⟨by unfold Dia.wtrail; rw [if_pos ⟨by omega, by omega⟩]⟩
      rw [HB.out]
      go_enter Tryz.func76, Tryz.ntmps76
      go_wp2
      go_ret2
      exact ⟨by go_num, rfl⟩
    · have x0 : decide (b ≤ 90) = false := decide_eq_false z0
      by_cases a1 : 97 ≤ b
      · have d1 : decide (97 ≤ b) = true := decide_eq_true a1
        by_cases z1 : b ≤ 122
        · have x1 : decide (b ≤ 122) = true := decide_eq_true z1
          have HB : Aid.Hid2 (Dia.wtrail b = (b - 97 + 26, true)) := ⟨by unfold Dia.wtrail; rw [if_neg (by omega), if_pos ⟨by omega, by omega⟩]⟩
          rw [HB.out]
          go_enter Tryz.func76, Tryz.ntmps76
          go_wp2
          go_ret2
          exact ⟨by go_num, rfl⟩
        · have x1 : decide (b ≤ 122) = false := decide_eq_false z1
          by_cases a2 : 129 ≤ b
          · have d2 : decide (129 ≤ b) = true := decide_eq_true a2
            by_cases z2 : b ≤ 254
            · have x2 : decide (b ≤ 254) = true := decide_eq_true z2
              have HB : Aid.Hid2 (Dia.wtrail b = (b - 129 + 52, true)) := ⟨by unfold Dia.wtrail; rw [if_neg (by omega), if_neg (by omega), if_pos ⟨by omega, by omega⟩]⟩
              rw [HB.out]
              go_enter Tryz.func76, Tryz.ntmps76
              go_wp2
              go_ret2
              exact ⟨by go_num, rfl⟩
            · have x2 : decide (b ≤ 254) = false := decide_eq_false z2
              have HB : Aid.Hid2 (Dia.wtrail b = (0, false)) := ⟨by unfold Dia.wtrail; rw [if_neg (by omega), if_neg (by omega), if_neg (by omega)]⟩
              rw [HB.out]
              go_enter Tryz.func76, Tryz.ntmps76
              go_wp2
              go_ret2
              exact ⟨rfl, rfl⟩
          · have d2 : decide (129 ≤ b) = false := decide_eq_false a2
            have HB : Aid.Hid2 (Dia.wtrail b = (0, false)) := ⟨by unfold Dia.wtrail; rw [if_neg (by omega), if_neg (by omega), if_neg (by omega)]⟩
            rw [HB.out]
            go_enter Tryz.func76, Tryz.ntmps76
            go_wp2
            go_ret2
            exact ⟨rfl, rfl⟩
      · have d1 : decide (97 ≤ b) = false := decide_eq_false a1
        by_cases a2 : 129 ≤ b
        · have d2 : decide (129 ≤ b) = true := decide_eq_true a2
          by_cases z2 : b ≤ 254
          · have x2 : decide (b ≤ 254) = true := decide_eq_true z2
            have HB : Aid.Hid2 (Dia.wtrail b = (b - 129 + 52, true)) := ⟨by unfold Dia.wtrail; rw [if_neg (by omega), if_neg (by omega), if_pos ⟨by omega, by omega⟩]⟩
            rw [HB.out]
            go_enter Tryz.func76, Tryz.ntmps76
            go_wp2
            go_ret2
            exact ⟨by go_num, rfl⟩
          · have x2 : decide (b ≤ 254) = false := decide_eq_false z2
            have HB : Aid.Hid2 (Dia.wtrail b = (0, false)) := ⟨by unfold Dia.wtrail; rw [if_neg (by omega), if_neg (by omega), if_neg (by omega)]⟩
            rw [HB.out]
            go_enter Tryz.func76, Tryz.ntmps76
            go_wp2
            go_ret2
            exact ⟨rfl, rfl⟩
        · have d2 : decide (129 ≤ b) = false := decide_eq_false a2
          have HB : Aid.Hid2 (Dia.wtrail b = (0, false)) := ⟨by unfold Dia.wtrail; rw [if_neg (by omega), if_neg (by omega), if_neg (by omega)]⟩
          rw [HB.out]
          go_enter Tryz.func76, Tryz.ntmps76
          go_wp2
          go_ret2
          exact ⟨rfl, rfl⟩
  · have d0 : decide (65 ≤ b) = false := decide_eq_false a0
    by_cases a1 : 97 ≤ b
    · have d1 : decide (97 ≤ b) = true := decide_eq_true a1
      by_cases z1 : b ≤ 122
      · have x1 : decide (b ≤ 122) = true := decide_eq_true z1
        have HB : Aid.Hid2 (Dia.wtrail b = (b - 97 + 26, true)) := ⟨by unfold Dia.wtrail; rw [if_neg (by omega), if_pos ⟨by omega, by omega⟩]⟩
        rw [HB.out]
        go_enter Tryz.func76, Tryz.ntmps76
        go_wp2
        go_ret2
        exact ⟨by go_num, rfl⟩
      · have x1 : decide (b ≤ 122) = false := decide_eq_false z1
        by_cases a2 : 129 ≤ b
        · have d2 : decide (129 ≤ b) = true := decide_eq_true a2
          by_cases z2 : b ≤ 254
          · have x2 : decide (b ≤ 254) = true := decide_eq_true z2
            have HB : Aid.Hid2 (Dia.wtrail b = (b - 129 + 52, true)) := ⟨by unfold Dia.wtrail; rw [if_neg (by omega), if_neg (by omega), if_pos ⟨by omega, by omega⟩]⟩
            rw [HB.out]
            go_enter Tryz.func76, Tryz.ntmps76
            go_wp2
            go_ret2
            exact ⟨by go_num, rfl⟩
          · have x2 : decide (b ≤ 254) = false := decide_eq_false z2
            have HB : Aid.Hid2 (Dia.wtrail b = (0, false)) := ⟨by unfold Dia.wtrail; rw [if_neg (by omega), if_neg (by omega), if_neg (by omega)]⟩
            rw [HB.out]
            go_enter Tryz.func76, Tryz.ntmps76
            go_wp2
            go_ret2
            exact ⟨rfl, rfl⟩
        · have d2 : decide (129 ≤ b) = false := decide_eq_false a2
          have HB : Aid.Hid2 (Dia.wtrail b = (0, false)) := ⟨by unfold Dia.wtrail; rw [if_neg (by omega), if_neg (by omega), if_neg (by omega)]⟩
          rw [HB.out]
          go_enter Tryz.func76, Tryz.ntmps76
          go_wp2
          go_ret2
          exact ⟨rfl, rfl⟩
    · have d1 : decide (97 ≤ b) = false := decide_eq_false a1
      by_cases a2 : 129 ≤ b
      · have d2 : decide (129 ≤ b) = true := decide_eq_true a2
        by_cases z2 : b ≤ 254
        · have x2 : decide (b ≤ 254) = true := decide_eq_true z2
          have HB : Aid.Hid2 (Dia.wtrail b = (b - 129 + 52, true)) := ⟨by unfold Dia.wtrail; rw [if_neg (by omega), if_neg (by omega), if_pos ⟨by omega, by omega⟩]⟩
          rw [HB.out]
          go_enter Tryz.func76, Tryz.ntmps76
          go_wp2
          go_ret2
          exact ⟨by go_num, rfl⟩
        · have x2 : decide (b ≤ 254) = false := decide_eq_false z2
          have HB : Aid.Hid2 (Dia.wtrail b = (0, false)) := ⟨by unfold Dia.wtrail; rw [if_neg (by omega), if_neg (by omega), if_neg (by omega)]⟩
          rw [HB.out]
          go_enter Tryz.func76, Tryz.ntmps76
          go_wp2
          go_ret2
          exact ⟨rfl, rfl⟩
      · have d2 : decide (129 ≤ b) = false := decide_eq_false a2
        have HB : Aid.Hid2 (Dia.wtrail b = (0, false)) := ⟨by unfold Dia.wtrail; rw [if_neg (by omega), if_neg (by omega), if_neg (by omega)]⟩
        rw [HB.out]
        go_enter Tryz.func76, Tryz.ntmps76
        go_wp2
        go_ret2
        exact ⟨rfl, rfl⟩
set_option maxRecDepth 100000 in
theorem Tryz.c_wletter (t : Int) (w : World) (h : 0 ≤ t ∧ t ≤ 177) :
    Calls Tryz.prog 81 #[.int .i64 t] w fun e w' => e = .returned (.int .i64 (Dia.wletter t)) ∧ w = w' := by
  obtain ⟨h0, h1⟩ := h
  by_cases a : t < 26
  · have d0 : decide (t < 26) = true := decide_eq_true a
    have HB : Aid.Hid2 (Dia.wletter t = 65 + t) := ⟨by unfold Dia.wletter; rw [if_pos a]⟩
    rw [HB.out]
    go_enter Tryz.func81, Tryz.ntmps81
    go_wp2
    go_ret
    exact ⟨by go_num, rfl⟩
  · have d0 : decide (t < 26) = false := decide_eq_false a
    by_cases b : t < 52
    · have d1 : decide (t < 52) = true := decide_eq_true b
      have HB : Aid.Hid2 (Dia.wletter t = 97 + t - 26) := ⟨by unfold Dia.wletter; rw [if_neg a, if_pos b]⟩
      rw [HB.out]
      go_enter Tryz.func81, Tryz.ntmps81
      go_wp2
      go_ret
      exact ⟨by go_num, rfl⟩
    · have d1 : decide (t < 52) = false := decide_eq_false b
      have HB : Aid.Hid2 (Dia.wletter t = 129 + t - 52) := ⟨by unfold Dia.wletter; rw [if_neg a, if_neg b]⟩
      rw [HB.out]
      go_enter Tryz.func81, Tryz.ntmps81
      go_wp2
      go_ret
      exact ⟨by go_num, rfl⟩
/-- two bytes -/
def Dia.twoB (a b : Int) : List UInt8 := [a.toNat.toUInt8, b.toNat.toUInt8]
theorem Dia.bigB_one (x : Nat) (h : x < 256) : Dia.bigB x 1 = [x.toUInt8] := by
  simp [Dia.bigB, List.range_succ, Nat.mod_eq_of_lt h]
set_option maxRecDepth 100000 in
set_option maxHeartbeats 1000000 in
theorem Tryz.c_wtwo (a b : Int) (w : World) (ha : 0 ≤ a ∧ a ≤ 255) (hb : 0 ≤ b ∧ b ≤ 255) :
    Calls Tryz.prog 80 #[.int .i64 a, .int .i64 b] w fun e w' => e = .returned (.tuple #[.string ⟨(Dia.twoB a b).toArray⟩, .bool true]) ∧ Below w.heap.size w w' := by
  obtain ⟨x, rfl⟩ := Int.eq_ofNat_of_zero_le ha.1
  obtain ⟨y, rfl⟩ := Int.eq_ofNat_of_zero_le hb.1
  have hx : x < 256 := by omega
  have hy : y < 256 := by omega
  have e1 : IntKind.u64.wrap (x : Int) = x := IntWalk.u64_in _ (by omega)
  have e2 : IntKind.u64.wrap (y : Int) = y := IntWalk.u64_in _ (by omega)
  have H1 : Aid.Hid2 (∀ w1, Calls Tryz.prog 46 #[.int .u64 x, .int .i64 1] w1 fun e w' => e = .returned (.string ⟨#[x.toUInt8]⟩) ∧ Below w1.heap.size w1 w') := ⟨fun w1 => by
    have := Tryz.c_Big x 1 w1 (by omega) (by decide)
    rw [Dia.bigB_one x hx] at this
    exact this⟩
  have H2 : Aid.Hid2 (∀ w1, Calls Tryz.prog 46 #[.int .u64 y, .int .i64 1] w1 fun e w' => e = .returned (.string ⟨#[y.toUInt8]⟩) ∧ Below w1.heap.size w1 w') := ⟨fun w1 => by
    have := Tryz.c_Big y 1 w1 (by omega) (by decide)
    rw [Dia.bigB_one y hy] at this
    exact this⟩
  have H3 : Aid.Hid2 (∀ w1 : World, Calls Tryz.prog 47 #[.slice (some ⟨w1.heap.size, 0, none⟩) 2 2] (w1.alloc (.cells #[.string ⟨#[x.toUInt8]⟩, .string ⟨#[y.toUInt8]⟩] 9)) fun e w' => e = .returned (.string ⟨(Dia.twoB x y).toArray⟩) ∧ Below w1.heap.size w1 w') := ⟨fun w1 => by
    have := Tryz.c_Join (some ⟨w1.heap.size, 0, none⟩) 2 [⟨#[x.toUInt8]⟩, ⟨#[y.toUInt8]⟩] (w1.alloc (.cells #[.string ⟨#[x.toUInt8]⟩, .string ⟨#[y.toUInt8]⟩] 9)) (Aid.row_new _ _ _ _ rfl) (by simp) (by simp) (by simp)
    refine this.mono fun e w' ⟨he, hb⟩ => ⟨?_, Aid.bt (Aid.b1 _ _) hb⟩
    rw [he]
    simp [Dia.twoB]⟩
  go_enter Tryz.func80, Tryz.ntmps80
  go_wp2_with fail
  refine (H1.out _).mono ?_
  rintro e w1 ⟨rfl, hb1⟩
  go_wp2_with fail
  refine (H2.out _).mono ?_
  rintro e w2 ⟨rfl, hb2⟩
  go_wp2_with fail
  refine (H3.out _).mono ?_
  rintro e w3 ⟨rfl, hb3⟩
  go_wp2
  go_ret2
  exact ⟨rfl, Aid.bt (Aid.bt hb1 hb2) hb3⟩
end Go.Proofs
namespace Go.Proofs
open Go.RowKit

theorem Dia.CB_all (b : Bool) : Dia.CB b 11172 = if b then 2350 else 8822 := by
  unfold Dia.CB
  rw [Dia.CI_all]
theorem Dia.CB_bd (s : Nat) (h : s < 11172) : Dia.CB (Dia.inB s) s < if Dia.inB s then 2350 else 8822 := by
  have := Dia.KthIs.lt h rfl rfl
  rw [Dia.CB_all] at this
  exact this
theorem Dia.PlaceIs.at {k : Nat} {b ok : Bool} {p : Int} {N : Nat} (h : Dia.PlaceIs k b p ok) (h1 : N < 11172) (h2 : Dia.inB N = b) (h3 : Dia.CB b N = k) : p = 44032 + (N : Int) ∧ ok = true := by
  have hlt := Dia.KthIs.lt h1 h2 h3
  rw [Dia.CB_all] at hlt
  unfold Dia.PlaceIs at h
  rw [if_pos ⟨by omega, by cases b <;> simp at hlt ⊢ <;> omega⟩] at h
  exact ⟨Dia.KthIs.uniq h.2 (.inl ⟨N, h1, h2, by simpa using h3, rfl⟩), h.1⟩
theorem Dia.wtrail_bd (b : Int) (h : (Dia.wtrail b).2 = true) : 0 ≤ (Dia.wtrail b).1 ∧ (Dia.wtrail b).1 ≤ 177 ∧ (b ≤ 160 → (Dia.wtrail b).1 ≤ 83) := by
  unfold Dia.wtrail at *
  split at h
  · rename_i e; rw [if_pos e]; simp only; omega
  split at h
  · rename_i e0 e; rw [if_neg e0, if_pos e]; simp only; omega
  split at h
  · rename_i e0 e1 e; rw [if_neg e0, if_neg e1, if_pos e]; simp only; omega
  · cases h
set_option maxRecDepth 100000 in
theorem Tryz.c_wSign_no (l b : Int) (w : World) (hl : 0 ≤ l ∧ l ≤ 255) (hb : 0 ≤ b ∧ b ≤ 255) (h : (Dia.wtrail b).2 = false ∨ l < 129 ∨ l = 255) :
    Calls Tryz.prog 35 #[.int .u8 l, .int .u8 b] w fun e w' => e = .returned (.tuple #[.int .i32 0, .bool false]) ∧ Below w.heap.size w w' := by
  have HC := Aid.Hid2.mk (Tryz.c_wtrail b w hb)
  obtain ⟨l0, l1⟩ := hl
  generalize Dia.wtrail b = c at *
  obtain ⟨c, ok⟩ := c
  simp only at h HC
  cases ok with
  | false =>
    clear h
    go_enter Tryz.func35, Tryz.ntmps35
    go_wp2_with fail
    refine HC.out.mono ?_
    rintro e w1 ⟨rfl, rfl⟩
    go_wp2
    go_ret2
    exact ⟨rfl, Below.refl _ _⟩
  | true =>
    by_cases h1 : l < 129
    · have d0 : decide (l < 129) = true := decide_eq_true h1
      clear h
      go_enter Tryz.func35, Tryz.ntmps35
      go_wp2_with fail
      refine HC.out.mono ?_
      rintro e w1 ⟨rfl, rfl⟩
      go_wp2
      go_ret2
      exact ⟨rfl, Below.refl _ _⟩
    · have h2 : l = 255 := by
        rcases h with h | h | h
        · cases h
        · exact absurd h h1
        · exact h
      subst h2
      clear h h1
      go_enter Tryz.func35, Tryz.ntmps35
      go_wp2_with fail
      refine HC.out.mono ?_
      rintro e w1 ⟨rfl, rfl⟩
      go_wp2
      go_ret2
      exact ⟨rfl, Below.refl _ _⟩
set_option maxRecDepth 100000 in
theorem Tryz.c_wSign_a (l b : Int) (w : World) (hl : 129 ≤ l ∧ l ≤ 160) (hb : 0 ≤ b ∧ b ≤ 255) (h : (Dia.wtrail b).2 = true) (hT : Tryz.Tab32 w) :
    Calls Tryz.prog 35 #[.int .u8 l, .int .u8 b] w fun e w' => Dia.IsPlace ((l - 129) * 178 + (Dia.wtrail b).1) false w w' e := by
  have HC := Aid.Hid2.mk (Tryz.c_wtrail b w hb)
  have hbd := Dia.wtrail_bd b h
  obtain ⟨l0, l1⟩ := hl
  have HE := Aid.Hid2.mk (Tryz.c_Extra ((l - 129) * 178 + (Dia.wtrail b).1) w ⟨by omega, by omega⟩ hT)
  generalize Dia.wtrail b = c at *
  obtain ⟨c, ok⟩ := c
  simp only at h HC hbd HE
  subst h
  obtain ⟨c0, c1, _⟩ := hbd
  have e1 : IntKind.u8.wrap (l - 129) = l - 129 := IntWalk.u8_in _ (by omega)
  have e2 : IntKind.i64.wrap ((l - 129) * 178) = (l - 129) * 178 := IntWalk.i64_in _ (by omega)
  have e3 : IntKind.i64.wrap ((l - 129) * 178 + c) = (l - 129) * 178 + c := IntWalk.i64_in _ (by omega)
  have d0 : decide (l < 129) = false := decide_eq_false (by omega)
  have d1 : (l == 255) = false := by simp; omega
  have d2 : decide (l ≤ 160) = true := decide_eq_true l1
  go_enter Tryz.func35, Tryz.ntmps35
  go_wp2_with fail
  refine HC.out.mono ?_
  rintro e w1 ⟨rfl, rfl⟩
  go_wp2_with fail
  refine HE.out.mono ?_
  rintro e w1 ⟨p, ok, hp, rfl, hb1⟩
  have HP := Aid.Hid2.mk hp
  clear hp
  go_wp2
  go_ret2
  exact ⟨p, ok, HP.out, rfl, hb1⟩
set_option maxRecDepth 100000 in
theorem Tryz.c_wSign_b (l b : Int) (w : World) (hl : 161 ≤ l ∧ l ≤ 254) (hb : 0 ≤ b ∧ b ≤ 160) (h : (Dia.wtrail b).2 = true) (hT : Tryz.Tab32 w) :
    Calls Tryz.prog 35 #[.int .u8 l, .int .u8 b] w fun e w' => Dia.IsPlace (5696 + (l - 161) * 84 + (Dia.wtrail b).1) false w w' e := by
  have HC := Aid.Hid2.mk (Tryz.c_wtrail b w ⟨hb.1, by omega⟩)
  have hbd := Dia.wtrail_bd b h
  obtain ⟨l0, l1⟩ := hl
  obtain ⟨b0, b1⟩ := hb
  have HE := Aid.Hid2.mk (Tryz.c_Extra (5696 + (l - 161) * 84 + (Dia.wtrail b).1) w ⟨by omega, by omega⟩ hT)
  generalize Dia.wtrail b = c at *
  obtain ⟨c, ok⟩ := c
  simp only at h HC hbd HE
  subst h
  obtain ⟨c0, c1, _⟩ := hbd
  have e1 : IntKind.u8.wrap (l - 161) = l - 161 := IntWalk.u8_in _ (by omega)
  have e2 : IntKind.i64.wrap ((l - 161) * 84) = (l - 161) * 84 := IntWalk.i64_in _ (by omega)
  have e3 : IntKind.i64.wrap (5696 + (l - 161) * 84) = 5696 + (l - 161) * 84 := IntWalk.i64_in _ (by omega)
  have e4 : IntKind.i64.wrap (5696 + (l - 161) * 84 + c) = 5696 + (l - 161) * 84 + c := IntWalk.i64_in _ (by omega)
  have d0 : decide (l < 129) = false := decide_eq_false (by omega)
  have d1 : (l == 255) = false := by simp; omega
  have d2 : decide (l ≤ 160) = false := decide_eq_false (by omega)
  have d3 : decide (b ≤ 160) = true := decide_eq_true b1
  go_enter Tryz.func35, Tryz.ntmps35
  go_wp2_with fail
  refine HC.out.mono ?_
  rintro e w1 ⟨rfl, rfl⟩
  go_wp2_with fail
  refine HE.out.mono ?_
  rintro e w1 ⟨p, ok, hp, rfl, hb1⟩
  have HP := Aid.Hid2.mk hp
  clear hp
  go_wp2
  go_ret2
  exact ⟨p, ok, HP.out, rfl, hb1⟩
set_option maxRecDepth 100000 in
theorem Tryz.c_wSign_c (l b : Int) (w : World) (hl : 176 ≤ l ∧ l ≤ 200) (hb : 161 ≤ b ∧ b ≤ 254) (hT : Tryz.Tab32 w) :
    Calls Tryz.prog 35 #[.int .u8 l, .int .u8 b] w fun e w' => Dia.IsPlace ((l - 161) * 94 + (b - 161) - 1410) true w w' e := by
  have HC := Aid.Hid2.mk (Tryz.c_wtrail b w ⟨by omega, by omega⟩)
  have h : (Dia.wtrail b).2 = true := by unfold Dia.wtrail; rw [if_neg (by omega), if_neg (by omega), if_pos (by omega)]
  obtain ⟨l0, l1⟩ := hl
  obtain ⟨b0, b1⟩ := hb
  have HE := Aid.Hid2.mk (Tryz.c_Place ((l - 161) * 94 + (b - 161) - 1410) w ⟨by omega, by omega⟩ hT)
  generalize Dia.wtrail b = c at *
  obtain ⟨c, ok⟩ := c
  simp only at h HC
  subst h
  have e1 : IntKind.u8.wrap (l - 161) = l - 161 := IntWalk.u8_in _ (by omega)
  have e5 : IntKind.u8.wrap (b - 161) = b - 161 := IntWalk.u8_in _ (by omega)
  have e2 : IntKind.i64.wrap ((l - 161) * 94) = (l - 161) * 94 := IntWalk.i64_in _ (by omega)
  have e3 : IntKind.i64.wrap ((l - 161) * 94 + (b - 161)) = (l - 161) * 94 + (b - 161) := IntWalk.i64_in _ (by omega)
  have e4 : IntKind.i64.wrap ((l - 161) * 94 + (b - 161) - 1410) = (l - 161) * 94 + (b - 161) - 1410 := IntWalk.i64_in _ (by omega)
  have d0 : decide (l < 129) = false := decide_eq_false (by omega)
  have d1 : (l == 255) = false := by simp; omega
  have d2 : decide (l ≤ 160) = false := decide_eq_false (by omega)
  have d3 : decide (b ≤ 160) = false := decide_eq_false (by omega)
  have d4 : decide (1410 ≤ (l - 161) * 94 + (b - 161)) = true := decide_eq_true (by omega)
  have d5 : decide ((l - 161) * 94 + (b - 161) < 3760) = true := decide_eq_true (by omega)
  go_enter Tryz.func35, Tryz.ntmps35
  go_wp2_with fail
  refine HC.out.mono ?_
  rintro e w1 ⟨rfl, rfl⟩
  go_wp2_with fail
  refine HE.out.mono ?_
  rintro e w1 ⟨p, ok, hp, rfl, hb1⟩
  have HP := Aid.Hid2.mk hp
  clear hp
  go_wp2
  go_ret2
  exact ⟨p, ok, HP.out, rfl, hb1⟩
/-- a syllable's two bytes -/
def Dia.wsyl (s : Nat) : Int × Int :=
  if Dia.inB s then (161 + ((Dia.CB true s : Int) + 1410) / 94, 161 + ((Dia.CB true s : Int) + 1410) % 94)
  else if Dia.CB false s < 5696 then (129 + (Dia.CB false s : Int) / 178, Dia.wletter ((Dia.CB false s : Int) % 178))
  else (161 + ((Dia.CB false s : Int) - 5696) / 84, Dia.wletter (((Dia.CB false s : Int) - 5696) % 84))
theorem Dia.wletter_bd (t : Int) (h : 0 ≤ t ∧ t ≤ 177) : 0 ≤ Dia.wletter t ∧ Dia.wletter t ≤ 255 := by unfold Dia.wletter; split; omega; split <;> omega
set_option maxRecDepth 100000 in
set_option maxHeartbeats 1000000 in
theorem Tryz.c_wBytes_syl (s : Nat) (w : World) (hs : s < 11172) :
    Calls Tryz.prog 36 #[.int .i32 (44032 + (s : Int))] w fun e w' => e = .returned (.tuple #[.string ⟨(Dia.twoB (Dia.wsyl s).1 (Dia.wsyl s).2).toArray⟩, .bool true]) ∧ Below w.heap.size w w' := by
  have HR := Aid.Hid2.mk (Tryz.c_Rank_yes s w hs)
  have hbd := Dia.CB_bd s hs
  generalize hD : Dia.wsyl s = D
  unfold Dia.wsyl at hD
  have HTW : Aid.Hid2 (∀ (a b : Int) (w1 : World), 0 ≤ a ∧ a ≤ 255 → 0 ≤ b ∧ b ≤ 255 → Calls Tryz.prog 80 #[.int .i64 a, .int .i64 b] w1 fun e w' => e = .returned (.tuple #[.string ⟨(Dia.twoB a b).toArray⟩, .bool true]) ∧ Below w1.heap.size w1 w') := ⟨fun a b w1 h1 h2 => Tryz.c_wtwo a b w1 h1 h2⟩
  cases hin : Dia.inB s with
  | true =>
    rw [hin] at HR hbd hD
    simp only [if_true] at hbd hD
    generalize Dia.CB true s = k at *
    have HDD := Aid.Hid2.mk hD
    have HT1 : Aid.Hid2 (∀ w1, _) := ⟨fun w1 => HTW.out (161 + ((k : Int) + 1410) / 94) (161 + ((k : Int) + 1410) % 94) w1 ⟨by omega, by omega⟩ ⟨by omega, by omega⟩⟩
    clear hin hD HTW
    go_enter Tryz.func36, Tryz.ntmps36
    go_wp2_with fail
    refine HR.out.mono ?_
    rintro e w1 ⟨rfl, hb1⟩
    go_wp2_with fail
    refine (HT1.out _).mono ?_
    rintro e w2 ⟨rfl, hb2⟩
    go_wp2
    go_ret2
    rw [← HDD.out]
    exact ⟨rfl, Aid.bt hb1 hb2⟩
  | false =>
    rw [hin] at HR hbd hD
    simp only [Bool.false_eq_true, if_false] at hbd hD
    generalize Dia.CB false s = k at *
    by_cases hk : k < 5696
    · rw [if_pos hk] at hD
      have HDD := Aid.Hid2.mk hD
      have m0 : 0 ≤ (k : Int) % 178 := by omega
      have m1 : (k : Int) % 178 ≤ 177 := by omega
      have hlb := Dia.wletter_bd ((k : Int) % 178) ⟨m0, m1⟩
      have HL := Aid.Hid2.mk (fun w1 => Tryz.c_wletter ((k : Int) % 178) w1 ⟨m0, m1⟩)
      have HT1 : Aid.Hid2 (∀ w1, _) := ⟨fun w1 => HTW.out (129 + (k : Int) / 178) (Dia.wletter ((k : Int) % 178)) w1 ⟨by omega, by omega⟩ hlb⟩
      have d0 : decide ((k : Int) < 5696) = true := decide_eq_true (by omega)
      clear hin hD HTW hlb
      generalize Dia.wletter ((k : Int) % 178) = t at *
      go_enter Tryz.func36, Tryz.ntmps36
      go_wp2_with fail
      refine HR.out.mono ?_
      rintro e w1 ⟨rfl, hb1⟩
      go_wp2_with fail
      refine (HL.out _).mono ?_
      rintro e w2 ⟨rfl, rfl⟩
      go_wp2_with fail
      refine (HT1.out _).mono ?_
      rintro e w2 ⟨rfl, hb2⟩
      go_wp2
      go_ret2
      rw [← HDD.out]
      exact ⟨rfl, Aid.bt hb1 hb2⟩
    · rw [if_neg hk] at hD
      have HDD := Aid.Hid2.mk hD
      have m0 : 0 ≤ ((k : Int) - 5696) % 84 := by omega
      have m1 : ((k : Int) - 5696) % 84 ≤ 177 := by omega
      have hlb := Dia.wletter_bd (((k : Int) - 5696) % 84) ⟨m0, m1⟩
      have HL := Aid.Hid2.mk (fun w1 => Tryz.c_wletter (((k : Int) - 5696) % 84) w1 ⟨m0, m1⟩)
      have HT1 : Aid.Hid2 (∀ w1, _) := ⟨fun w1 => HTW.out (161 + ((k : Int) - 5696) / 84) (Dia.wletter (((k : Int) - 5696) % 84)) w1 ⟨by omega, by omega⟩ hlb⟩
      have d0 : decide ((k : Int) < 5696) = false := decide_eq_false (by omega)
      clear hin hD HTW hlb
      generalize Dia.wletter (((k : Int) - 5696) % 84) = t at *
      go_enter Tryz.func36, Tryz.ntmps36
      go_wp2_with fail
      refine HR.out.mono ?_
      rintro e w1 ⟨rfl, hb1⟩
      go_wp2_with fail
      refine (HL.out _).mono ?_
      rintro e w2 ⟨rfl, rfl⟩
      go_wp2_with fail
      refine (HT1.out _).mono ?_
      rintro e w2 ⟨rfl, hb2⟩
      go_wp2
      go_ret2
      rw [← HDD.out]
      exact ⟨rfl, Aid.bt hb1 hb2⟩
end Go.Proofs
