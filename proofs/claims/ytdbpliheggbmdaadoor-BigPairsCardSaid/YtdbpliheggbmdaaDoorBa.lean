/- walks of big5's reference: One, Signs -/
import Derived.Test.YtdbpliheggbmdaaDoorB9
namespace Go.Proofs
open Go.RowKit

def Dia.rone (l b : Int) : Int := if Dia.rcell b < 0 then 0 else if (Dia.rowP l).getD (Dia.rcell b).toNat 0 = 63 then 0 else (Dia.rowP l).getD (Dia.rcell b).toNat 0
theorem Dia.rcell_le (b : Int) : Dia.rcell b ≤ 156 := by unfold Dia.rcell; split; omega; split <;> omega
set_option maxRecDepth 100000 in
theorem Dia.rowT_len (l : Int) : (Dia.rowT l).length ≤ 1000000 := by
  have h : Dia.rowT136.length ≤ 1000000 ∧ Dia.rowT161.length ≤ 1000000 ∧ Dia.rowT163.length ≤ 1000000 ∧ Dia.rowT164.length ≤ 1000000 ∧ Dia.rowT165.length ≤ 1000000 := by decide +kernel
  obtain ⟨h1, h2, h3, h4, h5⟩ := h
  unfold Dia.rowT
  repeat' split
  all_goals first | assumption | simp
set_option maxRecDepth 100000 in
theorem Tryd.c_rone (l b : Int) (w : World) (hb : 0 ≤ b ∧ b ≤ 255) :
    Calls Tryd.prog 14 #[.int .i64 l, .int .i64 b] w fun e w' => e = .returned (.int .i32 (Dia.rone l b)) ∧ Below w.heap.size w w' := by
  have HC := Aid.Hid2.mk (Tryd.c_rcell b w hb)
  by_cases hc : Dia.rcell b < 0
  · have HR : Aid.Hid2 (Dia.rone l b = 0) := ⟨by unfold Dia.rone; rw [if_pos hc]⟩
    rw [HR.out]
    generalize Dia.rcell b = c at *
    go_enter Tryd.func14, Tryd.ntmps14
    go_wp2_with fail
    refine HC.out.mono ?_
    rintro e w1 ⟨rfl, rfl⟩
    go_wp2
    go_ret
    exact ⟨rfl, Below.refl _ _⟩
  · have hle := Dia.rcell_le b
    obtain ⟨n, hn⟩ := Int.eq_ofNat_of_zero_le (show 0 ≤ Dia.rcell b by omega)
    have HR0 : Aid.Hid2 (Dia.rone l b = if (Dia.rowP l).getD n 0 = 63 then 0 else (Dia.rowP l).getD n 0) := ⟨by unfold Dia.rone; rw [if_neg hc, hn]; rfl⟩
    rw [hn] at HC hle
    have HN : Aid.Hid2 (∀ (s : ByteArray) (w1 : World), s = ⟨(Dia.rowT l).toArray⟩ → Calls Tryd.prog 32 #[.string s, .int .i64 n] w1 fun e w' => e = .returned (.int .i32 ((Dia.rowP l).getD n 0)) ∧ Below w1.heap.size w1 w') := ⟨fun s w1 hs => by
      subst hs
      have h := Tryd.c_nth ⟨(Dia.rowT l).toArray⟩ n w1 (by simpa [ByteArray.size] using Dia.rowT_len l) (by omega) (by simp [Dia.rowT_pts])
      simpa [Dia.rowT_pts] using h⟩
    rw [HR0.out]
    clear hn hc HR0
    generalize (Dia.rowP l).getD n 0 = p at *
    by_cases hp : p = 63
    · have hp' : (p == 63) = true := by simp [hp]
      rw [if_pos hp]
      subst hp
      go_enter Tryd.func14, Tryd.ntmps14
      go_wp2_with fail
      refine HC.out.mono ?_
      rintro e w1 ⟨rfl, rfl⟩
      go_wp2_with fail
      refine (Tryd.c_rrow l _).mono ?_
      rintro e w2 ⟨s, hs, rfl, rfl⟩
      go_wp2_with fail
      refine (HN.out s _ hs.out).mono ?_
      rintro e w3 ⟨rfl, hb3⟩
      go_wp2
      go_ret
      exact ⟨rfl, hb3⟩
    · rw [if_neg hp]
      go_enter Tryd.func14, Tryd.ntmps14
      go_wp2_with fail
      refine HC.out.mono ?_
      rintro e w1 ⟨rfl, rfl⟩
      go_wp2_with fail
      refine (Tryd.c_rrow l _).mono ?_
      rintro e w2 ⟨s, hs, rfl, rfl⟩
      go_wp2_with fail
      refine (HN.out s _ hs.out).mono ?_
      rintro e w3 ⟨rfl, hb3⟩
      go_wp2
      go_ret
      exact ⟨rfl, hb3⟩
end Go.Proofs
