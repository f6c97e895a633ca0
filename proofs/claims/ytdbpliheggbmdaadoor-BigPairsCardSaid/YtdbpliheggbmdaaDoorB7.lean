/- PLAIN: what big5's table finds at a place -/
import Derived.Test.YtdbpliheggbmdaaDoorB6
namespace Go.Proofs.Dia

theorem rowPairs_none (c : Int) : ∀ (l : List Int) (k : Int), (c < k ∨ k + l.length ≤ c) → (rowPairs k l).find? (fun q => q.1 == c) = none
  | [], _, _ => rfl
  | p :: l, k, h => by
    have ih := rowPairs_none c l (k + 1) (by simp at h; omega)
    have hk : (k == c) = false := by simp at h ⊢; omega
    unfold rowPairs
    split
    · exact ih
    · rw [List.find?_cons, hk]
      exact ih
theorem rowPairs_some : ∀ (l : List Int) (k : Int) (i : Nat), i < l.length → (rowPairs k l).find? (fun q => q.1 == k + (i : Int)) = if l.getD i 0 = 63 then none else some (k + (i : Int), l.getD i 0)
  | [], _, i, h => by simp at h
  | p :: l, k, 0, _ => by
    have h0 := rowPairs_none (k + ((0 : Nat) : Int)) l (k + 1) (by omega)
    unfold rowPairs
    by_cases hp : p = 63
    · rw [if_pos hp, h0]
      simp [hp]
    · rw [if_neg hp, List.find?_cons]
      simp [hp]
  | p :: l, k, i + 1, h => by
    have ih := rowPairs_some l (k + 1) i (by simpa using h)
    have e : k + 1 + (i : Int) = k + ((i + 1 : Nat) : Int) := by omega
    rw [e] at ih
    have hk : (k == k + ((i + 1 : Nat) : Int)) = false := by simp; omega
    unfold rowPairs
    by_cases hp : p = 63
    · rw [if_pos hp, ih]
      simp
    · rw [if_neg hp, List.find?_cons]
      simp only [hk]
      rw [ih]
      simp
end Go.Proofs.Dia
