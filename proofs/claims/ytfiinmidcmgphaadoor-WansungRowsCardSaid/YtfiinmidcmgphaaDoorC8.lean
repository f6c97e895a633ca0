/- walks of wansung: trail, letter, two; of its reference: Second -/
import Derived.Test.YtfiinmidcmgphaaDoorC7
namespace Go.Proofs
open Go.RowKit

def Dia.wtrail (b : Int) : Int × Bool := if 65 ≤ b ∧ b ≤ 90 then (b - 65, true) else if 97 ≤ b ∧ b ≤ 122 then (b - 97 + 26, true) else if 129 ≤ b ∧ b ≤ 254 then (b - 129 + 52, true) else (0, false)
def Dia.wsecond (b : Int) : Int := if 65 ≤ b ∧ b ≤ 90 then b - 65 else if 97 ≤ b ∧ b ≤ 122 then b - 97 + 26 else if 129 ≤ b ∧ b ≤ 254 then b - 129 + 52 else -1
def Dia.wletter (t : Int) : Int := if t < 26 then 65 + t else if t < 52 then 97 + t - 26 else 129 + t - 52
set_option maxRecDepth 100000 in
theorem Tryd.c_wtrail (b : Int) (w : World) (h : 0 ≤ b ∧ b ≤ 255) :
    Calls Tryd.prog 27 #[.int .u8 b] w fun e w' => e = .returned (.tuple #[.int .i64 (Dia.wtrail b).1, .bool (Dia.wtrail b).2]) ∧ w = w' := by
  obtain ⟨h0, h1⟩ := h
  by_cases a0 : 65 ≤ b
  · have d0 : decide (65 ≤ b) = true := decide_eq_true a0
    by_cases z0 : b ≤ 90
    · have x0 : decide (b ≤ 90) = true := decide_eq_true z0
      have HB : Aid.Hid2 (Dia.wtrail b = (b - 65, true)) := ⟨by unfold Dia.wtrail; rw [if_pos ⟨by omega, by omega⟩]⟩
      rw [HB.out]
      go_enter Tryd.func27, Tryd.ntmps27
      go_wp2
      go_ret2
      exact ⟨by go_num, rfl⟩
    · have x0 : decide (b ≤ 90) = false := decide_eq_false z0
      by_cases a1 : 97 ≤ b
      · have d1 : decide (97 ≤ b) = true := decide_eq_true a1
        by_cases z1 : b ≤ 122
        · have x1 : decide (b ≤ 122) = true := decide_eq_true z1
          have HB : Aid.Hid2 (Dia.wtrail b = (b - 97 + 26, true)) := ⟨by unfold Dia.wtrail; rw [if_neg (by omega), if_pos ⟨by omega, by omega⟩]⟩
          rw [HB.out]
          go_enter Tryd.func27, Tryd.ntmps27
          go_wp2
          go_ret2
          exact ⟨by go_num, rfl⟩
        · have x1 : decide (b ≤ 122) = false := decide_eq_false z1
          by_cases a2 : 129 ≤ b
          · have d2 : decide (129 ≤ b) = true := decide_eq_true a2
            by_cases z2 : b ≤ 254
            · have x2 : decide (b ≤ 254) = true := decide_eq_true z2
              have HB : Aid.Hid2 (Dia.wtrail b = (b - 129 + 52, true)) := ⟨by unfold Dia.wtrail; rw [if_neg (by omega), if_neg (by omega), if_pos ⟨by omega, by omega⟩]⟩
              rw [HB.out]
              go_enter Tryd.func27, Tryd.ntmps27
              go_wp2
              go_ret2
              exact ⟨by go_num, rfl⟩
            · have x2 : decide (b ≤ 254) = false := decide_eq_false z2
              have HB : Aid.Hid2 (Dia.wtrail b = (0, false)) := ⟨by unfold Dia.wtrail; rw [if_neg (by omega), if_neg (by omega), if_neg (by omega)]⟩
              rw [HB.out]
              go_enter Tryd.func27, Tryd.ntmps27
              go_wp2
              go_ret2
              exact ⟨rfl, rfl⟩
          · have d2 : decide (129 ≤ b) = false := decide_eq_false a2
            have HB : Aid.Hid2 (Dia.wtrail b = (0, false)) := ⟨by unfold Dia.wtrail; rw [if_neg (by omega), if_neg (by omega), if_neg (by omega)]⟩
            rw [HB.out]
            go_enter Tryd.func27, Tryd.ntmps27
            go_wp2
            go_ret2
            exact ⟨rfl, rfl⟩
      · have d1 : decide (97 ≤ b) = false := decide_eq_false a1
        by_cases a2 : 129 ≤ b
        · have d2 : decide (129 ≤ b) = true := decide_eq_true a2
          by_cases z2 : b ≤ 254
          · have x2 : decide (b ≤ 254) = true := decide_eq_true z2
            have HB : Aid.Hid2 (Dia.wtrail b = (b - 129 + 52, true)) := ⟨by unfold Dia.wtrail; rw [if_neg (by omega), if_neg (by omega), if_pos ⟨by omega, by omega⟩]⟩
            rw [HB.out]
            go_enter Tryd.func27, Tryd.ntmps27
            go_wp2
            go_ret2
            exact ⟨by go_num, rfl⟩
          · have x2 : decide (b ≤ 254) = false := decide_eq_false z2
            have HB : Aid.Hid2 (Dia.wtrail b = (0, false)) := ⟨by unfold Dia.wtrail; rw [if_neg (by omega), if_neg (by omega), if_neg (by omega)]⟩
            rw [HB.out]
            go_enter Tryd.func27, Tryd.ntmps27
            go_wp2
            go_ret2
            exact ⟨rfl, rfl⟩
        · have d2 : decide (129 ≤ b) = false := decide_eq_false a2
          have HB : Aid.Hid2 (Dia.wtrail b = (0, false)) := ⟨by unfold Dia.wtrail; rw [if_neg (by omega), if_neg (by omega), if_neg (by omega)]⟩
          rw [HB.out]
          go_enter Tryd.func27, Tryd.ntmps27
          go_wp2
          go_ret2
          exact ⟨rfl, rfl⟩
  · have d0 : decide (65 ≤ b) = false := decide_eq_false a0
    by_cases a1 : 97 ≤ b
    · have d1 : decide (97 ≤ b) = true := decide_eq_true a1
      by_cases z1 : b ≤ 122
      · have x1 : decide (b ≤ 122) = true := decide_eq_true z1
        have HB : Aid.Hid2 (Dia.wtrail b = (b - 97 + 26, true)) := ⟨by unfold Dia.wtrail; rw [if_neg (by omega), if_pos ⟨by omega, by omega⟩]⟩
        rw [HB.out]
        go_enter Tryd.func27, Tryd.ntmps27
        go_wp2
        go_ret2
        exact ⟨by go_num, rfl⟩
      · have x1 : decide (b ≤ 122) = false := decide_eq_false z1
        by_cases a2 : 129 ≤ b
        · have d2 : decide (129 ≤ b) = true := decide_eq_true a2
          by_cases z2 : b ≤ 254
          · have x2 : decide (b ≤ 254) = true := decide_eq_true z2
            have HB : Aid.Hid2 (Dia.wtrail b = (b - 129 + 52, true)) := ⟨by unfold Dia.wtrail; rw [if_neg (by omega), if_neg (by omega), if_pos ⟨by omega, by omega⟩]⟩
            rw [HB.out]
            go_enter Tryd.func27, Tryd.ntmps27
            go_wp2
            go_ret2
            exact ⟨by go_num, rfl⟩
          · have x2 : decide (b ≤ 254) = false := decide_eq_false z2
            have HB : Aid.Hid2 (Dia.wtrail b = (0, false)) := ⟨by unfold Dia.wtrail; rw [if_neg (by omega), if_neg (by omega), if_neg (by omega)]⟩
            rw [HB.out]
            go_enter Tryd.func27, Tryd.ntmps27
            go_wp2
            go_ret2
            exact ⟨rfl, rfl⟩
        · have d2 : decide (129 ≤ b) = false := decide_eq_false a2
          have HB : Aid.Hid2 (Dia.wtrail b = (0, false)) := ⟨by unfold Dia.wtrail; rw [if_neg (by omega), if_neg (by omega), if_neg (by omega)]⟩
          rw [HB.out]
          go_enter Tryd.func27, Tryd.ntmps27
          go_wp2
          go_ret2
          exact ⟨rfl, rfl⟩
    · have d1 : decide (97 ≤ b) = false := decide_eq_false a1
      by_cases a2 : 129 ≤ b
      · have d2 : decide (129 ≤ b) = true := decide_eq_true a2
        by_cases z2 : b ≤ 254
        · have x2 : decide (b ≤ 254) = true := decide_eq_true z2
          have HB : Aid.Hid2 (Dia.wtrail b = (b - 129 + 52, true)) := ⟨by unfold Dia.wtrail; rw [if_neg (by omega), if_neg (by omega), if_pos ⟨by omega, by omega⟩]⟩
          rw [HB.out]
          go_enter Tryd.func27, Tryd.ntmps27
          go_wp2
          go_ret2
          exact ⟨by go_num, rfl⟩
        · have x2 : decide (b ≤ 254) = false := decide_eq_false z2
          have HB : Aid.Hid2 (Dia.wtrail b = (0, false)) := ⟨by unfold Dia.wtrail; rw [if_neg (by omega), if_neg (by omega), if_neg (by omega)]⟩
          rw [HB.out]
          go_enter Tryd.func27, Tryd.ntmps27
          go_wp2
          go_ret2
          exact ⟨rfl, rfl⟩
      · have d2 : decide (129 ≤ b) = false := decide_eq_false a2
        have HB : Aid.Hid2 (Dia.wtrail b = (0, false)) := ⟨by unfold Dia.wtrail; rw [if_neg (by omega), if_neg (by omega), if_neg (by omega)]⟩
        rw [HB.out]
        go_enter Tryd.func27, Tryd.ntmps27
        go_wp2
        go_ret2
        exact ⟨rfl, rfl⟩
set_option maxRecDepth 100000 in
theorem Tryd.c_wsecond (b : Int) (w : World) (h : 0 ≤ b ∧ b ≤ 255) :
    Calls Tryd.prog 30 #[.int .i64 b] w fun e w' => e = .returned (.int .i64 (Dia.wsecond b)) ∧ w = w' := by
  obtain ⟨h0, h1⟩ := h
  by_cases a0 : 65 ≤ b
  · have d0 : decide (65 ≤ b) = true := decide_eq_true a0
    by_cases z0 : b ≤ 90
    · have x0 : decide (b ≤ 90) = true := decide_eq_true z0
      have HB : Aid.Hid2 (Dia.wsecond b = b - 65) := ⟨by unfold Dia.wsecond; rw [if_pos ⟨by omega, by omega⟩]⟩
      rw [HB.out]
      go_enter Tryd.func30, Tryd.ntmps30
      go_wp2
      go_ret
      exact ⟨by go_num, rfl⟩
    · have x0 : decide (b ≤ 90) = false := decide_eq_false z0
      by_cases a1 : 97 ≤ b
      · have d1 : decide (97 ≤ b) = true := decide_eq_true a1
        by_cases z1 : b ≤ 122
        · have x1 : decide (b ≤ 122) = true := decide_eq_true z1
          have HB : Aid.Hid2 (Dia.wsecond b = b - 97 + 26) := ⟨by unfold Dia.wsecond; rw [if_neg (by omega), if_pos ⟨by omega, by omega⟩]⟩
          rw [HB.out]
          go_enter Tryd.func30, Tryd.ntmps30
          go_wp2
          go_ret
          exact ⟨by go_num, rfl⟩
        · have x1 : decide (b ≤ 122) = false := decide_eq_false z1
          by_cases a2 : 129 ≤ b
          · have d2 : decide (129 ≤ b) = true := decide_eq_true a2
            by_cases z2 : b ≤ 254
            · have x2 : decide (b ≤ 254) = true := decide_eq_true z2
              have HB : Aid.Hid2 (Dia.wsecond b = b - 129 + 52) := ⟨by unfold Dia.wsecond; rw [if_neg (by omega), if_neg (by omega), if_pos ⟨by omega, by omega⟩]⟩
              rw [HB.out]
              go_enter Tryd.func30, Tryd.ntmps30
              go_wp2
              go_ret
              exact ⟨by go_num, rfl⟩
            · have x2 : decide (b ≤ 254) = false := decide_eq_false z2
              have HB : Aid.Hid2 (Dia.wsecond b = -1) := ⟨by unfold Dia.wsecond; rw [if_neg (by omega), if_neg (by omega), if_neg (by omega)]⟩
              rw [HB.out]
              go_enter Tryd.func30, Tryd.ntmps30
              go_wp2
              go_ret
              exact ⟨rfl, rfl⟩
          · have d2 : decide (129 ≤ b) = false := decide_eq_false a2
            have HB : Aid.Hid2 (Dia.wsecond b = -1) := ⟨by unfold Dia.wsecond; rw [if_neg (by omega), if_neg (by omega), if_neg (by omega)]⟩
            rw [HB.out]
            go_enter Tryd.func30, Tryd.ntmps30
            go_wp2
            go_ret
            exact ⟨rfl, rfl⟩
      · have d1 : decide (97 ≤ b) = false := decide_eq_false a1
        by_cases a2 : 129 ≤ b
        · have d2 : decide (129 ≤ b) = true := decide_eq_true a2
          by_cases z2 : b ≤ 254
          · have x2 : decide (b ≤ 254) = true := decide_eq_true z2
            have HB : Aid.Hid2 (Dia.wsecond b = b - 129 + 52) := ⟨by unfold Dia.wsecond; rw [if_neg (by omega), if_neg (by omega), if_pos ⟨by omega, by omega⟩]⟩
            rw [HB.out]
            go_enter Tryd.func30, Tryd.ntmps30
            go_wp2
            go_ret
            exact ⟨by go_num, rfl⟩
          · have x2 : decide (b ≤ 254) = false := decide_eq_false z2
            have HB : Aid.Hid2 (Dia.wsecond b = -1) := ⟨by unfold Dia.wsecond; rw [if_neg (by omega), if_neg (by omega), if_neg (by omega)]⟩
            rw [HB.out]
            go_enter Tryd.func30, Tryd.ntmps30
            go_wp2
            go_ret
            exact ⟨rfl, rfl⟩
        · have d2 : decide (129 ≤ b) = false := decide_eq_false a2
          have HB : Aid.Hid2 (Dia.wsecond b = -1) := ⟨by unfold Dia.wsecond; rw [if_neg (by omega), if_neg (by omega), if_neg (by omega)]⟩
          rw [HB.out]
          go_enter Tryd.func30, Tryd.ntmps30
          go_wp2
          go_ret
          exact ⟨rfl, rfl⟩
  · have d0 : decide (65 ≤ b) = false := decide_eq_false a0
    by_cases a1 : 97 ≤ b
    · have d1 : decide (97 ≤ b) = true := decide_eq_true a1
      by_cases z1 : b ≤ 122
      · have x1 : decide (b ≤ 122) = true := decide_eq_true z1
        have HB : Aid.Hid2 (Dia.wsecond b = b - 97 + 26) := ⟨by unfold Dia.wsecond; rw [if_neg (by omega), if_pos ⟨by omega, by omega⟩]⟩
        rw [HB.out]
        go_enter Tryd.func30, Tryd.ntmps30
        go_wp2
        go_ret
        exact ⟨by go_num, rfl⟩
      · have x1 : decide (b ≤ 122) = false := decide_eq_false z1
        by_cases a2 : 129 ≤ b
        · have d2 : decide (129 ≤ b) = true := decide_eq_true a2
          by_cases z2 : b ≤ 254
          · have x2 : decide (b ≤ 254) = true := decide_eq_true z2
            have HB : Aid.Hid2 (Dia.wsecond b = b - 129 + 52) := ⟨by unfold Dia.wsecond; rw [if_neg (by omega), if_neg (by omega), if_pos ⟨by omega, by omega⟩]⟩
            rw [HB.out]
            go_enter Tryd.func30, Tryd.ntmps30
            go_wp2
            go_ret
            exact ⟨by go_num, rfl⟩
          · have x2 : decide (b ≤ 254) = false := decide_eq_false z2
            have HB : Aid.Hid2 (Dia.wsecond b = -1) := ⟨by unfold Dia.wsecond; rw [if_neg (by omega), if_neg (by omega), if_neg (by omega)]⟩
            rw [HB.out]
            go_enter Tryd.func30, Tryd.ntmps30
            go_wp2
            go_ret
            exact ⟨rfl, rfl⟩
        · have d2 : decide (129 ≤ b) = false := decide_eq_false a2
          have HB : Aid.Hid2 (Dia.wsecond b = -1) := ⟨by unfold Dia.wsecond; rw [if_neg (by omega), if_neg (by omega), if_neg (by omega)]⟩
          rw [HB.out]
          go_enter Tryd.func30, Tryd.ntmps30
          go_wp2
          go_ret
          exact ⟨rfl, rfl⟩
    · have d1 : decide (97 ≤ b) = false := decide_eq_false a1
      by_cases a2 : 129 ≤ b
      · have d2 : decide (129 ≤ b) = true := decide_eq_true a2
        by_cases z2 : b ≤ 254
        · have x2 : decide (b ≤ 254) = true := decide_eq_true z2
          have HB : Aid.Hid2 (Dia.wsecond b = b - 129 + 52) := ⟨by unfold Dia.wsecond; rw [if_neg (by omega), if_neg (by omega), if_pos ⟨by omega, by omega⟩]⟩
          rw [HB.out]
          go_enter Tryd.func30, Tryd.ntmps30
          go_wp2
          go_ret
          exact ⟨by go_num, rfl⟩
        · have x2 : decide (b ≤ 254) = false := decide_eq_false z2
          have HB : Aid.Hid2 (Dia.wsecond b = -1) := ⟨by unfold Dia.wsecond; rw [if_neg (by omega), if_neg (by omega), if_neg (by omega)]⟩
          rw [HB.out]
          go_enter Tryd.func30, Tryd.ntmps30
          go_wp2
          go_ret
          exact ⟨rfl, rfl⟩
      · have d2 : decide (129 ≤ b) = false := decide_eq_false a2
        have HB : Aid.Hid2 (Dia.wsecond b = -1) := ⟨by unfold Dia.wsecond; rw [if_neg (by omega), if_neg (by omega), if_neg (by omega)]⟩
        rw [HB.out]
        go_enter Tryd.func30, Tryd.ntmps30
        go_wp2
        go_ret
        exact ⟨rfl, rfl⟩
set_option maxRecDepth 100000 in
theorem Tryd.c_wletter (t : Int) (w : World) (h : 0 ≤ t ∧ t ≤ 177) :
    Calls Tryd.prog 32 #[.int .i64 t] w fun e w' => e = .returned (.int .i64 (Dia.wletter t)) ∧ w = w' := by
  obtain ⟨h0, h1⟩ := h
  by_cases a : t < 26
  · have d0 : decide (t < 26) = true := decide_eq_true a
    have HB : Aid.Hid2 (Dia.wletter t = 65 + t) := ⟨by unfold Dia.wletter; rw [if_pos a]⟩
    rw [HB.out]
    go_enter Tryd.func32, Tryd.ntmps32
    go_wp2
    go_ret
    exact ⟨by go_num, rfl⟩
  · have d0 : decide (t < 26) = false := decide_eq_false a
    by_cases b : t < 52
    · have d1 : decide (t < 52) = true := decide_eq_true b
      have HB : Aid.Hid2 (Dia.wletter t = 97 + t - 26) := ⟨by unfold Dia.wletter; rw [if_neg a, if_pos b]⟩
      rw [HB.out]
      go_enter Tryd.func32, Tryd.ntmps32
      go_wp2
      go_ret
      exact ⟨by go_num, rfl⟩
    · have d1 : decide (t < 52) = false := decide_eq_false b
      have HB : Aid.Hid2 (Dia.wletter t = 129 + t - 52) := ⟨by unfold Dia.wletter; rw [if_neg a, if_neg b]⟩
      rw [HB.out]
      go_enter Tryd.func32, Tryd.ntmps32
      go_wp2
      go_ret
      exact ⟨by go_num, rfl⟩
/-- two bytes -/
def Dia.twoB (a b : Int) : List UInt8 := [a.toNat.toUInt8, b.toNat.toUInt8]
theorem Dia.bigB_one (x : Nat) (h : x < 256) : Dia.bigB x 1 = [x.toUInt8] := by
  simp [Dia.bigB, List.range_succ, Nat.mod_eq_of_lt h]
set_option maxRecDepth 100000 in
set_option maxHeartbeats 1000000 in
theorem Tryd.c_wtwo (a b : Int) (w : World) (ha : 0 ≤ a ∧ a ≤ 255) (hb : 0 ≤ b ∧ b ≤ 255) :
    Calls Tryd.prog 31 #[.int .i64 a, .int .i64 b] w fun e w' => e = .returned (.tuple #[.string ⟨(Dia.twoB a b).toArray⟩, .bool true]) ∧ Below w.heap.size w w' := by
  obtain ⟨x, rfl⟩ := Int.eq_ofNat_of_zero_le ha.1
  obtain ⟨y, rfl⟩ := Int.eq_ofNat_of_zero_le hb.1
  have hx : x < 256 := by omega
  have hy : y < 256 := by omega
  have e1 : IntKind.u64.wrap (x : Int) = x := IntWalk.u64_in _ (by omega)
  have e2 : IntKind.u64.wrap (y : Int) = y := IntWalk.u64_in _ (by omega)
  have H1 : Aid.Hid2 (∀ w1, Calls Tryd.prog 47 #[.int .u64 x, .int .i64 1] w1 fun e w' => e = .returned (.string ⟨#[x.toUInt8]⟩) ∧ Below w1.heap.size w1 w') := ⟨fun w1 => by
    have := Tryd.c_Big x 1 w1 (by omega) (by decide)
    rw [Dia.bigB_one x hx] at this
    exact this⟩
  have H2 : Aid.Hid2 (∀ w1, Calls Tryd.prog 47 #[.int .u64 y, .int .i64 1] w1 fun e w' => e = .returned (.string ⟨#[y.toUInt8]⟩) ∧ Below w1.heap.size w1 w') := ⟨fun w1 => by
    have := Tryd.c_Big y 1 w1 (by omega) (by decide)
    rw [Dia.bigB_one y hy] at this
    exact this⟩
  have H3 : Aid.Hid2 (∀ w1 : World, Calls Tryd.prog 46 #[.slice (some ⟨w1.heap.size, 0, none⟩) 2 2] (w1.alloc (.cells #[.string ⟨#[x.toUInt8]⟩, .string ⟨#[y.toUInt8]⟩] 9)) fun e w' => e = .returned (.string ⟨(Dia.twoB x y).toArray⟩) ∧ Below w1.heap.size w1 w') := ⟨fun w1 => by
    have := Tryd.c_Join (some ⟨w1.heap.size, 0, none⟩) 2 [⟨#[x.toUInt8]⟩, ⟨#[y.toUInt8]⟩] (w1.alloc (.cells #[.string ⟨#[x.toUInt8]⟩, .string ⟨#[y.toUInt8]⟩] 9)) (Aid.row_new _ _ _ _ rfl) (by simp) (by simp) (by simp)
    refine this.mono fun e w' ⟨he, hb⟩ => ⟨?_, Aid.bt (Aid.b1 _ _) hb⟩
    rw [he]
    simp [Dia.twoB]⟩
  go_enter Tryd.func31, Tryd.ntmps31
  go_wp2_with fail
  refine (H1.out _).mono ?_
  rintro e w1 ⟨rfl, hb1⟩
  go_wp2_with fail
  refine (H2.out _).mono ?_
  rintro e w2 ⟨rfl, hb2⟩
  go_wp2_with fail
  refine (H3.out _).mono ?_
  rintro e w3 ⟨rfl, hb3⟩
  go_wp2
  go_ret2
  exact ⟨rfl, Aid.bt (Aid.bt hb1 hb2) hb3⟩
end Go.Proofs
