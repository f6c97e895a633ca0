/- PLAIN: what big5's table finds at a place, by the rows -/
import Derived.Test.YtdbpliheggbmdaaDoorB7
import Derived.Test.YtdbpliheggbmdaaDoorT1
namespace Go.Proofs.Dia

theorem rowPairs_get (l : List Int) (k : Int) (i : Nat) (h0 : ∀ p ∈ l, p ≠ 0) : (rowPairs k l).find? (fun q => q.1 == k + (i : Int)) = if l.getD i 0 = 63 ∨ l.getD i 0 = 0 then none else some (k + (i : Int), l.getD i 0) := by
  by_cases hi : i < l.length
  · rw [rowPairs_some l k i hi]
    have hne : l.getD i 0 ≠ 0 := by
      rw [List.getD_eq_getElem?_getD, List.getElem?_eq_getElem hi]
      exact h0 _ (List.getElem_mem _)
    by_cases hp : l.getD i 0 = 63
    · rw [if_pos hp, if_pos (.inl hp)]
    · rw [if_neg hp, if_neg (by rintro (h | h); exact hp h; exact hne h)]
  · rw [rowPairs_none _ l k (by omega), if_pos (.inr (by rw [List.getD_eq_getElem?_getD, List.getElem?_eq_none (by omega)]; rfl))]
set_option maxRecDepth 100000 in
theorem row_ne0 : (∀ p ∈ rowP136, p ≠ 0) ∧ (∀ p ∈ rowP161, p ≠ 0) ∧ (∀ p ∈ rowP163, p ≠ 0) ∧ (∀ p ∈ rowP164, p ≠ 0) ∧ (∀ p ∈ rowP165, p ≠ 0) := by decide +kernel
theorem big_fwd (lead : Int) (c : Nat) (_h0 : 129 ≤ lead) (_h1 : lead ≤ 255) (hc : c < 157) :
    fwdl bigL ((lead - 129) * 157 + c) = if (rowP lead).getD c 0 = 63 ∨ (rowP lead).getD c 0 = 0 then (0, false) else ((rowP lead).getD c 0, true) := by
  obtain ⟨l1, l2, l3, l4, l5⟩ := row_lens
  obtain ⟨z1, z2, z3, z4, z5⟩ := row_ne0
  unfold fwdl
  rw [big_rows, List.find?_append, List.find?_append, List.find?_append, List.find?_append]
  have N1 := rowPairs_none ((lead - 129) * 157 + c) rowP136 (7 * 157)
  have N2 := rowPairs_none ((lead - 129) * 157 + c) rowP161 (32 * 157)
  have N3 := rowPairs_none ((lead - 129) * 157 + c) rowP163 (34 * 157)
  have N4 := rowPairs_none ((lead - 129) * 157 + c) rowP164 (35 * 157)
  have N5 := rowPairs_none ((lead - 129) * 157 + c) rowP165 (36 * 157)
  by_cases e1 : lead = 136
  · subst e1
    have G := rowPairs_get rowP136 (7 * 157) c z1
    rw [show ((136 : Int) - 129) * 157 + c = 7 * 157 + c from by omega] at *
    rw [G, N2 (by omega), N3 (by omega), N4 (by omega), N5 (by omega)]
    simp only [rowP, if_true]
    by_cases hz : rowP136.getD c 0 = 63 ∨ rowP136.getD c 0 = 0
    · rw [if_pos hz, if_pos hz]; rfl
    · rw [if_neg hz, if_neg hz]; rfl
  by_cases e2 : lead = 161
  · subst e2
    have G := rowPairs_get rowP161 (32 * 157) c z2
    rw [show ((161 : Int) - 129) * 157 + c = 32 * 157 + c from by omega] at *
    rw [N1 (by omega), G, N3 (by omega), N4 (by omega), N5 (by omega)]
    simp only [rowP, if_neg e1, if_true]
    by_cases hz : rowP161.getD c 0 = 63 ∨ rowP161.getD c 0 = 0
    · rw [if_pos hz, if_pos hz]; rfl
    · rw [if_neg hz, if_neg hz]; rfl
  by_cases e3 : lead = 163
  · subst e3
    have G := rowPairs_get rowP163 (34 * 157) c z3
    rw [show ((163 : Int) - 129) * 157 + c = 34 * 157 + c from by omega] at *
    rw [N1 (by omega), N2 (by omega), G, N4 (by omega), N5 (by omega)]
    simp only [rowP, if_neg e1, if_neg e2, if_true]
    by_cases hz : rowP163.getD c 0 = 63 ∨ rowP163.getD c 0 = 0
    · rw [if_pos hz, if_pos hz]; rfl
    · rw [if_neg hz, if_neg hz]; rfl
  by_cases e4 : lead = 164
  · subst e4
    have G := rowPairs_get rowP164 (35 * 157) c z4
    rw [show ((164 : Int) - 129) * 157 + c = 35 * 157 + c from by omega] at *
    rw [N1 (by omega), N2 (by omega), N3 (by omega), G, N5 (by omega)]
    simp only [rowP, if_neg e1, if_neg e2, if_neg e3, if_true]
    by_cases hz : rowP164.getD c 0 = 63 ∨ rowP164.getD c 0 = 0
    · rw [if_pos hz, if_pos hz]; rfl
    · rw [if_neg hz, if_neg hz]; rfl
  by_cases e5 : lead = 165
  · subst e5
    have G := rowPairs_get rowP165 (36 * 157) c z5
    rw [show ((165 : Int) - 129) * 157 + c = 36 * 157 + c from by omega] at *
    rw [N1 (by omega), N2 (by omega), N3 (by omega), N4 (by omega), G]
    simp only [rowP, if_neg e1, if_neg e2, if_neg e3, if_neg e4, if_true]
    by_cases hz : rowP165.getD c 0 = 63 ∨ rowP165.getD c 0 = 0
    · rw [if_pos hz, if_pos hz]; rfl
    · rw [if_neg hz, if_neg hz]; rfl
  rw [N1 (by omega), N2 (by omega), N3 (by omega), N4 (by omega), N5 (by omega)]
  simp [rowP, e1, e2, e3, e4, e5]
end Go.Proofs.Dia
