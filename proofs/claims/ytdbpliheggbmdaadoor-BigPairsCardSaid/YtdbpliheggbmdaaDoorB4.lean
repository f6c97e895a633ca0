/- walks of big5: two, pairs; of its reference: Cell, Two -/
import Derived.Test.YtdbpliheggbmdaaDoorB3
import Derived.Test.YtdbpliheggbmdaaDoorOct
namespace Go.Proofs
open Go.RowKit

set_option maxRecDepth 100000 in
theorem Tryd.c_btwo (n : Nat) (w : World) (h : n < 65536) :
    Calls Tryd.prog 25 #[.int .i64 n] w fun e w' => e = .returned (.string ⟨(Dia.bigB n 2).toArray⟩) ∧ Below w.heap.size w w' := by
  have HS : Aid.Hid2 (Calls Tryd.prog 41 #[.int .u64 n, .int .i64 2] w fun e w' => e = .returned (.string ⟨(Dia.bigB n 2).toArray⟩) ∧ Below w.heap.size w w') := ⟨Tryd.c_Big n 2 w (by omega) (by decide)⟩
  have e1 : IntKind.u64.wrap (n : Int) = n := by simp [IntKind.wrap, IntKind.signed, IntKind.bits]; omega
  go_enter Tryd.func25, Tryd.ntmps25
  go_wp2_with (go_at_call 41; refine HS.out.mono ?_; rintro e w1 ⟨rfl, hb1⟩)
  go_ret
  exact ⟨rfl, hb1⟩
set_option maxRecDepth 100000 in
theorem Tryd.c_bpairs (w : World) :
    Calls Tryd.prog 16 #[] w fun e w' => e = .returned (.agg #[.int .i64 34914, .int .i32 202, .int .i32 772, .int .i64 34916, .int .i32 202, .int .i32 780, .int .i64 34979, .int .i32 234, .int .i32 772, .int .i64 34981, .int .i32 234, .int .i32 780]) ∧ Below w.heap.size w w' := by
  go_enter Tryd.func16, Tryd.ntmps16
  go_wp2
  exact bodyPost_ret (v := .agg #[.int .i64 34914, .int .i32 202, .int .i32 772, .int .i64 34916, .int .i32 202, .int .i32 780, .int .i64 34979, .int .i32 234, .int .i32 772, .int .i64 34981, .int .i32 234, .int .i32 780]) (by simp [results, Tryd.results16, go_sem]) rfl ⟨rfl, Aid.b1 _ _⟩
def Dia.rcell (b : Int) : Int := if 64 ≤ b ∧ b ≤ 126 then b - 64 else if 161 ≤ b ∧ b ≤ 254 then b - 161 + 63 else -1
set_option maxRecDepth 100000 in
theorem Tryd.c_rcell (b : Int) (w : World) (h : 0 ≤ b ∧ b ≤ 255) :
    Calls Tryd.prog 31 #[.int .i64 b] w fun e w' => e = .returned (.int .i64 (Dia.rcell b)) ∧ w = w' := by
  obtain ⟨h0, h1⟩ := h
  have e1 : IntKind.i64.wrap (b - 64) = b - 64 := IntWalk.i64_in _ (by omega)
  have e2 : IntKind.i64.wrap (b - 161) = b - 161 := IntWalk.i64_in _ (by omega)
  have e3 : IntKind.i64.wrap (b - 161 + 63) = b - 161 + 63 := IntWalk.i64_in _ (by omega)
  by_cases c1 : 64 ≤ b
  · by_cases c2 : b ≤ 126
    · have HB : Aid.Hid2 (Dia.rcell b = b - 64) := ⟨by unfold Dia.rcell; rw [if_pos ⟨c1, c2⟩]⟩
      rw [HB.out]
      go_enter Tryd.func31, Tryd.ntmps31
      go_wp2
      go_ret
      exact ⟨by go_num, rfl⟩
    · by_cases c3 : 161 ≤ b
      · by_cases c4 : b ≤ 254
        · have HB : Aid.Hid2 (Dia.rcell b = b - 161 + 63) := ⟨by unfold Dia.rcell; rw [if_neg (by omega), if_pos ⟨c3, c4⟩]⟩
          rw [HB.out]
          go_enter Tryd.func31, Tryd.ntmps31
          go_wp2
          go_ret
          exact ⟨by go_num, rfl⟩
        · have HB : Aid.Hid2 (Dia.rcell b = -1) := ⟨by unfold Dia.rcell; rw [if_neg (by omega), if_neg (by omega)]⟩
          rw [HB.out]
          go_enter Tryd.func31, Tryd.ntmps31
          go_wp2
          go_ret
          exact ⟨rfl, rfl⟩
      · have HB : Aid.Hid2 (Dia.rcell b = -1) := ⟨by unfold Dia.rcell; rw [if_neg (by omega), if_neg (by omega)]⟩
        rw [HB.out]
        go_enter Tryd.func31, Tryd.ntmps31
        go_wp2
        go_ret
        exact ⟨rfl, rfl⟩
  · have HB : Aid.Hid2 (Dia.rcell b = -1) := ⟨by unfold Dia.rcell; rw [if_neg (by omega), if_neg (by omega)]⟩
    rw [HB.out]
    go_enter Tryd.func31, Tryd.ntmps31
    go_wp2
    go_ret
    exact ⟨rfl, rfl⟩
def Dia.rtwo (c : Int) : Int × Int := if c = 34914 then (202, 772) else if c = 34916 then (202, 780) else if c = 34979 then (234, 772) else if c = 34981 then (234, 780) else (0, 0)
set_option maxRecDepth 100000 in
theorem Tryd.c_rtwo (l b : Int) (w : World) (hl : 0 ≤ l ∧ l ≤ 255) (hb : 0 ≤ b ∧ b ≤ 255) :
    Calls Tryd.prog 21 #[.int .i64 l, .int .i64 b] w fun e w' => e = .returned (.tuple #[.int .i32 (Dia.rtwo (l * 256 + b)).1, .int .i32 (Dia.rtwo (l * 256 + b)).2]) ∧ w = w' := by
  obtain ⟨l0, l1⟩ := hl
  obtain ⟨b0, b1⟩ := hb
  have e1 : IntKind.i64.wrap (l * 256) = l * 256 := IntWalk.i64_in _ (by omega)
  have e2 : IntKind.i64.wrap (l * 256 + b) = l * 256 + b := IntWalk.i64_in _ (by omega)
  by_cases n1 : l * 256 + b = 34914
  · rw [n1]
    rw [n1] at e2
    go_enter Tryd.func21, Tryd.ntmps21
    go_wp2
    go_ret2
    exact ⟨by rfl, rfl⟩
  · by_cases n2 : l * 256 + b = 34916
    · rw [n2]
      rw [n2] at e2 n1
      go_enter Tryd.func21, Tryd.ntmps21
      go_wp2
      go_ret2
      exact ⟨by rfl, rfl⟩
    · by_cases n3 : l * 256 + b = 34979
      · rw [n3]
        rw [n3] at e2 n1 n2
        go_enter Tryd.func21, Tryd.ntmps21
        go_wp2
        go_ret2
        exact ⟨by rfl, rfl⟩
      · by_cases n4 : l * 256 + b = 34981
        · rw [n4]
          rw [n4] at e2 n1 n2 n3
          go_enter Tryd.func21, Tryd.ntmps21
          go_wp2
          go_ret2
          exact ⟨by rfl, rfl⟩
        · have HR : Aid.Hid2 (Dia.rtwo (l * 256 + b) = (0, 0)) := ⟨by unfold Dia.rtwo; rw [if_neg n1, if_neg n2, if_neg n3, if_neg n4]⟩
          rw [HR.out]
          go_enter Tryd.func21, Tryd.ntmps21
          go_wp2
          go_ret2
          exact ⟨rfl, rfl⟩
end Go.Proofs
