/- walks of point's reference: At; walks of point and its reference: the rest -/
import Derived.Test.YtoaojojapebamaaGreatDoorM04
namespace Go.Proofs
open Go.RowKit

theorem Dia.acc_bd (l : List UInt8) (i : Nat) {c : Nat} {n : Nat} {p0 : Int} (k : Nat) (hc : Dia.Lead c n p0) (hm : ∀ j, 1 ≤ j → j < k + 1 → 0 ≤ Dia.more l (i + j)) : 0 ≤ Dia.acc l i p0 k ∧ (k ≤ 3 → Dia.acc l i p0 k ≤ 8388607) := by
  have h0 : 0 ≤ p0 ∧ p0 ≤ 31 := by unfold Dia.Lead at hc; omega
  have key : ∀ k : Nat, (∀ j, 1 ≤ j → j < k + 1 → 0 ≤ Dia.more l (i + j)) → 0 ≤ Dia.acc l i p0 k := by
    intro k
    induction k with
    | zero => intro _; exact h0.1
    | succ k ih =>
      intro hm
      have h1 := ih (fun j a b => hm j a (by omega))
      have h2 := hm (k + 1) (by omega) (by omega)
      show 0 ≤ Dia.acc l i p0 k * 64 + Dia.more l (i + (k + 1))
      omega
  refine ⟨key k hm, fun hk => ?_⟩
  have hmm := Dia.more_le l
  have a0 : Dia.acc l i p0 0 = p0 := rfl
  have a1 : Dia.acc l i p0 1 = Dia.acc l i p0 0 * 64 + Dia.more l (i + 1) := rfl
  have a2 : Dia.acc l i p0 2 = Dia.acc l i p0 1 * 64 + Dia.more l (i + 2) := rfl
  have a3 : Dia.acc l i p0 3 = Dia.acc l i p0 2 * 64 + Dia.more l (i + 3) := rfl
  have m1 := hmm (i + 1)
  have m2 := hmm (i + 2)
  have m3 := hmm (i + 3)
  have : k = 0 ∨ k = 1 ∨ k = 2 ∨ k = 3 := by omega
  rcases this with rfl | rfl | rfl | rfl <;> omega

end Go.Proofs
namespace Go.Proofs
open Go.RowKit

theorem Dia.str_app (x y : List UInt8) : (⟨x.toArray⟩ : ByteArray) ++ ⟨y.toArray⟩ = ⟨(x ++ y).toArray⟩ := by
  apply ByteArray.ext; simp

set_option maxRecDepth 100000 in
theorem Tryz.c_Bad (a b : Int) (w : World) :
    Calls Tryz.prog 7 #[.agg #[.int .i64 a, .int .i64 b]] w fun e w' => e = .returned (.bool (a != 0)) ∧ Below w.heap.size w w' := by
  go_enter Tryz.func7, Tryz.ntmps7
  go_wp2
  go_ret
  exact ⟨rfl, (Below.refl _ _).alloc (Nat.le_refl _) _⟩

set_option maxRecDepth 100000 in
theorem Tryz.c_Bad_no (b : Int) (w : World) : Calls Tryz.prog 7 #[.agg #[.int .i64 0, .int .i64 b]] w fun e w' => e = .returned (.bool false) ∧ Below w.heap.size w w' := Tryz.c_Bad 0 b w
set_option maxRecDepth 100000 in
theorem Tryz.c_Bad_yes (b : Int) (w : World) : Calls Tryz.prog 7 #[.agg #[.int .i64 2, .int .i64 b]] w fun e w' => e = .returned (.bool true) ∧ Below w.heap.size w w' := Tryz.c_Bad 2 b w

end Go.Proofs
