/- walks of big5: row, cell, code -/
import Derived.Test.YtdbpliheggbmdaaDoorT1
import Derived.Test.YtdbpliheggbmdaaDoorB1
namespace Go.Proofs
open Go.RowKit

def Dia.bcell (b : Int) : Int × Bool := if 64 ≤ b ∧ b ≤ 126 then (b - 64, true) else if 161 ≤ b ∧ b ≤ 254 then (b - 161 + 63, true) else (0, false)
def Dia.bcode (k : Int) : Int := (129 + k / 157) * 256 + (if k % 157 < 63 then k % 157 + 64 else k % 157 + 98)

set_option maxRecDepth 100000 in
theorem Tryd.c_brow (l : Int) (w : World) (h : 0 ≤ l ∧ l ≤ 255) :
    Calls Tryd.prog 20 #[.int .i64 l] w fun e w' => e = .returned (.int .i64 ((l - 129) * 157)) ∧ w = w' := by
  obtain ⟨h0, h1⟩ := h
  have e1 : IntKind.i64.wrap (l - 129) = l - 129 := IntWalk.i64_in _ (by omega)
  have e2 : IntKind.i64.wrap ((l - 129) * 157) = (l - 129) * 157 := IntWalk.i64_in _ (by omega)
  go_enter Tryd.func20, Tryd.ntmps20
  go_wp2
  go_ret
  exact ⟨by go_num, rfl⟩
set_option maxRecDepth 100000 in
theorem Tryd.c_bcell (b : Int) (w : World) (h : 0 ≤ b ∧ b ≤ 255) :
    Calls Tryd.prog 15 #[.int .u8 b] w fun e w' => e = .returned (.tuple #[.int .i64 (Dia.bcell b).1, .bool (Dia.bcell b).2]) ∧ w = w' := by
  obtain ⟨h0, h1⟩ := h
  have e1 : IntKind.i64.wrap (b - 64) = b - 64 := IntWalk.i64_in _ (by omega)
  have e2 : IntKind.i64.wrap (b - 161) = b - 161 := IntWalk.i64_in _ (by omega)
  have e3 : IntKind.i64.wrap (b - 161 + 63) = b - 161 + 63 := IntWalk.i64_in _ (by omega)
  by_cases c1 : 64 ≤ b
  · by_cases c2 : b ≤ 126
    · have HB : Aid.Hid2 (Dia.bcell b = (b - 64, true)) := ⟨by unfold Dia.bcell; rw [if_pos ⟨c1, c2⟩]⟩
      rw [HB.out]
      go_enter Tryd.func15, Tryd.ntmps15
      go_wp2
      go_ret2
      exact ⟨by go_num, rfl⟩
    · by_cases c3 : 161 ≤ b
      · by_cases c4 : b ≤ 254
        · have HB : Aid.Hid2 (Dia.bcell b = (b - 161 + 63, true)) := ⟨by unfold Dia.bcell; rw [if_neg (by omega), if_pos ⟨c3, c4⟩]⟩
          rw [HB.out]
          go_enter Tryd.func15, Tryd.ntmps15
          go_wp2
          go_ret2
          exact ⟨by go_num, rfl⟩
        · have HB : Aid.Hid2 (Dia.bcell b = (0, false)) := ⟨by unfold Dia.bcell; rw [if_neg (by omega), if_neg (by omega)]⟩
          rw [HB.out]
          go_enter Tryd.func15, Tryd.ntmps15
          go_wp2
          go_ret2
          exact ⟨rfl, rfl⟩
      · have HB : Aid.Hid2 (Dia.bcell b = (0, false)) := ⟨by unfold Dia.bcell; rw [if_neg (by omega), if_neg (by omega)]⟩
        rw [HB.out]
        go_enter Tryd.func15, Tryd.ntmps15
        go_wp2
        go_ret2
        exact ⟨rfl, rfl⟩
  · have HB : Aid.Hid2 (Dia.bcell b = (0, false)) := ⟨by unfold Dia.bcell; rw [if_neg (by omega), if_neg (by omega)]⟩
    rw [HB.out]
    go_enter Tryd.func15, Tryd.ntmps15
    go_wp2
    go_ret2
    exact ⟨rfl, rfl⟩
theorem Dia.or256 (a c : Int) (h0 : 0 ≤ a) (h1 : a ≤ 100000) (c0 : 0 ≤ c) (c1 : c < 256) : bits .or .i64 (a * 256) c = a * 256 + c := by
  obtain ⟨n, rfl⟩ := Int.eq_ofNat_of_zero_le h0
  obtain ⟨m, rfl⟩ := Int.eq_ofNat_of_zero_le c0
  show IntKind.i64.wrap ((BitVec.ofInt 64 ((n : Int) * 256) ||| BitVec.ofInt 64 (m : Int)).toNat : Int) = _
  have hm : m < 2 ^ 8 := by omega
  have e1 : ((n : Int) * 256) = ((256 * n : Nat) : Int) := by omega
  have e2 : (2 ^ 8 * n ||| m) = 2 ^ 8 * n + m := (Nat.two_pow_add_eq_or_of_lt hm n).symm
  rw [e1, BitVec.ofInt_natCast, BitVec.ofInt_natCast, BitVec.toNat_or, BitVec.toNat_ofNat, BitVec.toNat_ofNat, Nat.mod_eq_of_lt (by omega), Nat.mod_eq_of_lt (by omega)]
  rw [show 256 * n = 2 ^ 8 * n from rfl, e2, IntWalk.i64_in _ (by omega)]
  omega
set_option maxRecDepth 100000 in
theorem Tryd.c_bcode (k : Int) (w : World) (h : 0 ≤ k ∧ k ≤ 1048576) :
    Calls Tryd.prog 27 #[.int .i64 k] w fun e w' => e = .returned (.int .i64 (Dia.bcode k)) ∧ w = w' := by
  obtain ⟨h0, h1⟩ := h
  have m0 : 0 ≤ k % 157 := Int.emod_nonneg _ (by decide)
  have m1 : k % 157 < 157 := Int.emod_lt_of_pos _ (by decide)
  have d0 : 0 ≤ k / 157 := Int.ediv_nonneg h0 (by decide)
  have d1 : k / 157 ≤ 10000 := by omega
  have t1 : Int.tmod k 157 = k % 157 := Int.tmod_eq_emod_of_nonneg h0
  have t2 : Int.tdiv k 157 = k / 157 := Int.tdiv_eq_ediv_of_nonneg h0
  have HO := fun c (c0 : 0 ≤ c) (c1 : c < 256) => Dia.or256 (129 + k / 157) c (by omega) (by omega) c0 c1
  by_cases c : k % 157 < 63
  · have HB : Aid.Hid2 (Dia.bcode k = (129 + k / 157) * 256 + (k % 157 + 64)) := ⟨by unfold Dia.bcode; rw [if_pos c]⟩
    have ho := HO (k % 157 + 64) (by omega) (by omega)
    rw [HB.out]
    clear HB HO
    generalize k % 157 = m at *
    generalize k / 157 = d at *
    go_enter Tryd.func27, Tryd.ntmps27
    go_wp2
    go_ret
    exact ⟨by go_num, rfl⟩
  · have HB : Aid.Hid2 (Dia.bcode k = (129 + k / 157) * 256 + (k % 157 + 98)) := ⟨by unfold Dia.bcode; rw [if_neg c]⟩
    have ho := HO (k % 157 + 98) (by omega) (by omega)
    rw [HB.out]
    clear HB HO
    generalize k % 157 = m at *
    generalize k / 157 = d at *
    go_enter Tryd.func27, Tryd.ntmps27
    go_wp2
    go_ret
    exact ⟨by go_num, rfl⟩
end Go.Proofs
