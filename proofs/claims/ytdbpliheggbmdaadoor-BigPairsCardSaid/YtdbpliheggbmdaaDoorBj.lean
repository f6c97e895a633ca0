/- PLAIN: big5: the signs of two bytes are the document's, and lead back; the pairs -/
import Derived.Test.YtdbpliheggbmdaaDoorBi
namespace Go.Proofs.Dia

theorem fwd_rev {L : List (Int × Int)} (hn : (L.map Prod.snd).Nodup) (k p : Int) (h : fwdl L k = (p, true)) : revl L p = (k, true) := by
  unfold fwdl at h
  cases hf : L.find? (fun q => q.1 == k) with
  | none => rw [hf] at h; simp at h
  | some q =>
    rw [hf] at h
    simp only [Prod.mk.injEq, and_true] at h
    have hq : q ∈ L := List.mem_of_find?_eq_some hf
    have hk : q.1 = k := by simpa using List.find?_some hf
    unfold revl
    cases hg : L.find? (fun q => q.2 == p) with
    | none =>
      have := List.find?_eq_none.1 hg q hq
      simp [h] at this
    | some r =>
      have hr : r ∈ L := List.mem_of_find?_eq_some hg
      have hp : r.2 = p := by simpa using List.find?_some hg
      obtain ⟨i, hi, ei⟩ := List.getElem_of_mem hq
      obtain ⟨j, hj, ej⟩ := List.getElem_of_mem hr
      have hij : i = j := by
        have := (List.getElem_inj (h₀ := by simpa using hi) (h₁ := by simpa using hj) hn).1 (by rw [List.getElem_map, List.getElem_map, ei, ej, h, hp])
        exact this
      subst hij
      have : q = r := by rw [← ei, ← ej]
      rw [← this]
      exact congrArg (fun x => (x, true)) hk
set_option maxRecDepth 100000 in
theorem bigL_nodup : (bigL.map Prod.snd).Nodup := by decide +kernel

theorem rcell_bcell (b : Int) : ((bcell b).2 = false ∧ rcell b < 0) ∨ ((bcell b).2 = true ∧ rcell b = (bcell b).1 ∧ 0 ≤ rcell b ∧ rcell b ≤ 156) := by
  unfold rcell bcell
  by_cases h1 : 64 ≤ b ∧ b ≤ 126
  · rw [if_pos h1, if_pos h1]; exact .inr ⟨rfl, rfl, by omega, by omega⟩
  · rw [if_neg h1, if_neg h1]
    by_cases h2 : 161 ≤ b ∧ b ≤ 254
    · rw [if_pos h2, if_pos h2]; exact .inr ⟨rfl, rfl, by omega, by omega⟩
    · rw [if_neg h2, if_neg h2]; exact .inl ⟨rfl, by omega⟩
theorem rtwo_cases (c : Int) : rtwo c = (0, 0) ∨ ((c = 34914 ∨ c = 34916 ∨ c = 34979 ∨ c = 34981) ∧ btwoC (rtwo c).1 (rtwo c).2 = c ∧ (rtwo c).1 ≠ 0 ∧ sc (rtwo c).1 = true ∧ sc (rtwo c).2 = true) := by
  unfold rtwo
  by_cases h1 : c = 34914
  · subst h1; exact .inr ⟨by decide, by decide, by decide, by decide, by decide⟩
  by_cases h2 : c = 34916
  · subst h2; exact .inr ⟨by decide, by decide, by decide, by decide, by decide⟩
  by_cases h3 : c = 34979
  · subst h3; exact .inr ⟨by decide, by decide, by decide, by decide, by decide⟩
  by_cases h4 : c = 34981
  · subst h4; exact .inr ⟨by decide, by decide, by decide, by decide, by decide⟩
  rw [if_neg h1, if_neg h2, if_neg h3, if_neg h4]
  exact .inl rfl
theorem rowP_none (l : Int) (h : l < 129 ∨ l = 255) : rowP l = [] := by
  unfold rowP
  rw [if_neg (by omega), if_neg (by omega), if_neg (by omega), if_neg (by omega), if_neg (by omega)]
theorem rcC_cell (l b : Int) (h : 0 ≤ rcell b) (_hl : 129 ≤ l) : rcC l (rcell b).toNat = l * 256 + b := by
  unfold rcell at *
  by_cases h1 : 64 ≤ b ∧ b ≤ 126
  · rw [if_pos h1]
    unfold rcC
    rw [if_pos (by omega)]
    omega
  · rw [if_neg h1] at h ⊢
    by_cases h2 : 161 ≤ b ∧ b ≤ 254
    · rw [if_pos h2]
      unfold rcC
      rw [if_neg (by omega)]
      omega
    · rw [if_neg h2] at h
      omega
/-- THE SIGNS OF TWO BYTES, AND BACK -/
theorem bs_cases (l b : Int) (hl : 0 ≤ l ∧ l ≤ 255) (hb : 0 ≤ b ∧ b ≤ 255) :
    (bsigns l b = ([], false) ∧ rsigns l b = []) ∨ (∃ sl : List Int, bsigns l b = (encs sl, true) ∧ rsigns l b = encs sl ∧ encs sl ≠ [] ∧ (∀ p ∈ sl, sc p = true) ∧ sl.length ≤ 2 ∧ bbytes sl = (bigB (l * 256 + b).toNat 2, (sl.length : Int))) := by
  unfold bsigns rsigns
  rcases rcell_bcell b with ⟨h1, h2⟩ | ⟨h1, h2, h3, h4⟩
  · rw [if_pos (.inl h1)]
    have ht : rtwo (l * 256 + b) = (0, 0) := by
      rcases rtwo_cases (l * 256 + b) with h | ⟨h, _⟩
      · exact h
      · exfalso
        unfold rcell at h2
        split at h2
        · omega
        · rename_i g1
          split at h2
          · omega
          · omega
    have ho : rone l b = 0 := by unfold rone; rw [if_pos h2]
    rw [ht, ho]
    exact .inl ⟨rfl, rfl⟩
  · by_cases hl2 : l < 129 ∨ l = 255
    · rw [if_pos (.inr hl2)]
      have ht : rtwo (l * 256 + b) = (0, 0) := by
        rcases rtwo_cases (l * 256 + b) with h | ⟨h, _⟩
        · exact h
        · exfalso; omega
      have ho : rone l b = 0 := by
        unfold rone
        rw [if_neg (by omega), rowP_none l hl2]
        rfl
      rw [ht, ho]
      exact .inl ⟨rfl, rfl⟩
    · rw [if_neg (by rintro (h | h); (rw [h1] at h; cases h); exact hl2 h)]
      rcases rtwo_cases (l * 256 + b) with ht | ⟨_, hc, hn, s1, s2⟩
      · rw [ht]
        simp only [ne_eq, not_true_eq_false, if_false]
        obtain ⟨c, hcc⟩ := Int.eq_ofNat_of_zero_le h3
        have hF := big_fwd l c (by omega) (by omega) (by omega)
        rw [← h2, hcc, hF]
        have hRO : rone l b = if (rowP l).getD c 0 = 63 then 0 else (rowP l).getD c 0 := by
          unfold rone
          rw [if_neg (by omega), hcc]
          rfl
        rw [hRO]
        by_cases hz : (rowP l).getD c 0 = 63 ∨ (rowP l).getD c 0 = 0
        · rw [if_pos hz]
          have : (if (rowP l).getD c 0 = 63 then (0 : Int) else (rowP l).getD c 0) = 0 := by
            rcases hz with hz | hz
            · rw [if_pos hz]
            · by_cases h : (rowP l).getD c 0 = 63
              · rw [if_pos h]
              · rw [if_neg h]; exact hz
          rw [this]
          exact .inl ⟨rfl, rfl⟩
        · have hz1 : ¬ (rowP l).getD c 0 = 63 := fun h => hz (.inl h)
          have hz2 : ¬ (rowP l).getD c 0 = 0 := fun h => hz (.inr h)
          rw [if_neg hz] at hF ⊢
          have hb2 := fwd_rev bigL_nodup _ _ hF
          rw [if_neg hz1, if_pos hz2]
          have hsc : sc ((rowP l).getD c 0) = true := by
            have := fwdl_sc bigL_sc ((l - 129) * 157 + c) (by rw [hF])
            rw [hF] at this
            exact this
          refine .inr ⟨[(rowP l).getD c 0], ?_, ?_, ?_, ?_, by simp, ?_⟩
          · simp [encs]
          · simp [encs]
          · simpa [encs] using enc_ne hsc
          · simpa using hsc
          · show bone _ = _
            unfold bone
            rw [hb2, if_pos rfl]
            rw [bcode_at l c (by omega) (by omega)]
            have := rcC_cell l b h3 (by omega)
            rw [hcc] at this
            rw [show ((c : Int).toNat) = c from rfl] at this
            rw [this]
            rfl
      · generalize rtwo (l * 256 + b) = t at *
        obtain ⟨p, q⟩ := t
        simp only at hc hn s1 s2
        rw [if_pos hn, if_pos hn]
        refine .inr ⟨[p, q], ?_, ?_, ?_, ?_, by simp, ?_⟩
        · simp [encs]
        · simp [encs]
        · intro e
          simp [encs] at e
          exact enc_ne s1 e.1
        · intro x hx
          simp at hx
          rcases hx with rfl | rfl
          · exact s1
          · exact s2
        · rw [bbytes_two, hc, if_pos (by omega)]
          rfl
theorem two_bytes (l b : Int) (hl : 0 ≤ l ∧ l ≤ 255) (hb : 0 ≤ b ∧ b ≤ 255) : strOfNums [l, b] = ⟨(bigB (l * 256 + b).toNat 2).toArray⟩ := by
  unfold strOfNums bigB
  obtain ⟨x, rfl⟩ := Int.eq_ofNat_of_zero_le hl.1
  obtain ⟨y, rfl⟩ := Int.eq_ofNat_of_zero_le hb.1
  have e : ((x : Int) * 256 + (y : Int)).toNat = x * 256 + y := by omega
  rw [e]
  simp only [List.map_cons, List.map_nil, List.range_succ, List.range_zero, List.nil_append, List.map_append, Int.toNat_natCast]
  have e1 : (x * 256 + y) / 256 ^ (2 - 1 - 0) % 256 = x := by omega
  have e2 : (x * 256 + y) / 256 ^ (2 - 1 - 1) % 256 = y := by omega
  rw [e1, e2]
  rfl
theorem two_code (c : Int) (h0 : 0 ≤ c) (h1 : c < 65536) : strOfNums [c / 256, c % 256] = ⟨(bigB c.toNat 2).toArray⟩ := by
  rw [two_bytes _ _ ⟨by omega, by omega⟩ ⟨by omega, by omega⟩]
  have e : c / 256 * 256 + c % 256 = c := by omega
  rw [e]
theorem awake_1 : bsigns 136 98 = ([195, 138, 204, 132], true) := by decide +kernel
theorem awake_2 : bbytes [202, 65] = ([136, 102], 1) := by decide +kernel
end Go.Proofs.Dia
