/- PLAIN: wansung's rows: what its table finds, forwards and backwards -/
import Derived.Test.YtfiinmidcmgphaaDoorCb
import Derived.Test.YtfiinmidcmgphaaDoorT1
namespace Go.Proofs.Dia

/-- the sign of a row's place; 0: none -/
def wAt (i j : Nat) : Int := (wanW.getD i []).getD j 0
theorem wanW_len : wanW.length = 12 ∧ ∀ r ∈ wanW, r.length = 94 := by decide +kernel
theorem zRow_none (c : Int) : ∀ (l : List Int) (k : Int), (c < k ∨ k + l.length ≤ c) → (zRow k l).find? (fun q => q.1 == c) = none
  | [], _, _ => rfl
  | p :: l, k, h => by
    have ih := zRow_none c l (k + 1) (by simp at h; omega)
    unfold zRow
    split
    · exact ih
    · rw [List.find?_cons]
      have : (k == c) = false := by simp at h ⊢; omega
      simp only [this]
      exact ih
theorem zRow_at : ∀ (l : List Int) (k : Int) (j : Nat), (zRow k l).find? (fun q => q.1 == k + (j : Int)) = if l.getD j 0 = 0 then none else some (k + (j : Int), l.getD j 0)
  | [], k, j => by simp [zRow]
  | p :: l, k, 0 => by
    have h0 := zRow_none (k + ((0 : Nat) : Int)) l (k + 1) (by omega)
    unfold zRow
    by_cases hp : p = 0
    · rw [if_pos hp, h0]; simp [hp]
    · rw [if_neg hp, List.find?_cons]; simp [hp]
  | p :: l, k, j + 1 => by
    have ih := zRow_at l (k + 1) j
    have e : k + 1 + (j : Int) = k + ((j + 1 : Nat) : Int) := by omega
    rw [e] at ih
    have hk : (k == k + ((j + 1 : Nat) : Int)) = false := by simp; omega
    unfold zRow
    by_cases hp : p = 0
    · rw [if_pos hp, ih]; simp
    · rw [if_neg hp, List.find?_cons]
      simp only [hk]
      rw [ih]; simp
theorem zAll_none (c : Int) : ∀ (rs : List (List Int)) (i : Int), (∀ r ∈ rs, r.length = 94) → c < i * 94 → (zAll i rs).find? (fun q => q.1 == c) = none
  | [], _, _, _ => rfl
  | r :: rs, i, h, hc => by
    unfold zAll
    rw [List.find?_append, zRow_none c r (i * 94) (.inl hc), zAll_none c rs (i + 1) (fun x hx => h x (by simp [hx])) (by omega)]
    rfl
theorem zAll_at : ∀ (rs : List (List Int)) (i : Int) (m j : Nat), (∀ r ∈ rs, r.length = 94) → j < 94 →
    (zAll i rs).find? (fun q => q.1 == (i + m) * 94 + (j : Int)) = if (rs.getD m []).getD j 0 = 0 then none else some ((i + m) * 94 + (j : Int), (rs.getD m []).getD j 0)
  | [], _, _, _, _, _ => by simp [zAll]
  | r :: rs, i, 0, j, h, hj => by
    unfold zAll
    have e : (i + ((0 : Nat) : Int)) * 94 + (j : Int) = i * 94 + (j : Int) := by omega
    rw [e, List.find?_append, zRow_at]
    have h2 := zAll_none (i * 94 + (j : Int)) rs (i + 1) (fun x hx => h x (by simp [hx])) (by omega)
    rw [h2]
    simp
  | r :: rs, i, m + 1, j, h, hj => by
    unfold zAll
    have hr : r.length = 94 := h r (by simp)
    have e : (i + ((m + 1 : Nat) : Int)) * 94 + (j : Int) = (i + 1 + (m : Int)) * 94 + (j : Int) := by omega
    rw [e, List.find?_append, zRow_none _ r (i * 94) (.inr (by omega)), zAll_at rs (i + 1) m j (fun x hx => h x (by simp [hx])) hj]
    simp
theorem wan_fwd (m j : Nat) (hj : j < 94) : fwdl wanL ((m : Int) * 94 + j) = if wAt m j = 0 then (0, false) else (wAt m j, true) := by
  have h := zAll_at wanW 0 m j wanW_len.2 hj
  have e : ((0 : Int) + (m : Int)) * 94 + (j : Int) = (m : Int) * 94 + j := by omega
  rw [e] at h
  unfold fwdl wanL
  rw [h]
  show (match (if wAt m j = 0 then none else some ((m : Int) * 94 + (j : Int), wAt m j)) with | some q => (q.2, true) | none => (0, false)) = _
  by_cases hz : wAt m j = 0
  · rw [if_pos hz, if_pos hz]
  · rw [if_neg hz, if_neg hz]

/-- the first place of a sign in a row's rest, in the rows -/
def zScan (p : Int) : Nat → List Int → Option Nat
  | _, [] => none
  | j, x :: l => if x = p then some j else zScan p (j + 1) l
def zScanA (p : Int) : Nat → List (List Int) → Option Nat
  | _, [] => none
  | i, r :: rs => match zScan p 0 r with | some j => some (i * 94 + j) | none => zScanA p (i + 1) rs
theorem zScan_bd (p : Int) : ∀ (l : List Int) (n i : Nat), zScan p n l = some i → n ≤ i ∧ i < n + l.length
  | [], _, _, h => by simp [zScan] at h
  | x :: l, n, i, h => by
    unfold zScan at h
    split at h
    · simp at h; subst h; simp
    · have := zScan_bd p l (n + 1) i h
      simp; omega
theorem zRow_rev (p k : Int) (hp : p ≠ 0) : ∀ (l : List Int) (n : Nat), (zRow (k + n) l).find? (fun q => q.2 == p) = (zScan p n l).map fun (i : Nat) => (k + (i : Int), p)
  | [], _ => rfl
  | x :: l, n => by
    have ih := zRow_rev p k hp l (n + 1)
    have e : k + (n : Int) + 1 = k + ((n + 1 : Nat) : Int) := by omega
    unfold zRow zScan
    rw [e]
    by_cases hx : x = 0
    · have hne : ¬ x = p := by rw [hx]; exact fun h => hp h.symm
      rw [if_pos hx, if_neg hne, ih]
    · rw [if_neg hx, List.find?_cons]
      by_cases h : x = p
      · subst h
        rw [if_pos rfl]
        simp
      · have hb : (x == p) = false := by simpa using h
        rw [if_neg h]
        simp only [hb]
        exact ih
theorem zAll_rev (p : Int) (hp : p ≠ 0) : ∀ (rs : List (List Int)) (i : Nat), (zAll i rs).find? (fun q => q.2 == p) = (zScanA p i rs).map fun (k : Nat) => ((k : Int), p)
  | [], _ => rfl
  | r :: rs, i => by
    have ih := zAll_rev p hp rs (i + 1)
    have h := zRow_rev p ((i : Int) * 94) hp r 0
    have z : (i : Int) * 94 + ((0 : Nat) : Int) = (i : Int) * 94 := by omega
    have e : (i : Int) + 1 = ((i + 1 : Nat) : Int) := by omega
    rw [z] at h
    unfold zAll zScanA
    rw [List.find?_append, h, e, ih]
    cases zScan p 0 r with
    | none => rfl
    | some j => simp
theorem wan_rev (p : Int) (hp : p ≠ 0) : revl wanL p = match zScanA p 0 wanW with | some k => ((k : Int), true) | none => (0, false) := by
  have h := zAll_rev p hp wanW 0
  unfold revl wanL
  rw [show (0 : Int) = ((0 : Nat) : Int) from rfl, h]
  cases zScanA p 0 wanW <;> rfl
theorem zScanA_bd (p : Int) : ∀ (rs : List (List Int)) (i k : Nat), (∀ r ∈ rs, r.length = 94) → zScanA p i rs = some k → k < (i + rs.length) * 94
  | [], _, _, _, h => by simp [zScanA] at h
  | r :: rs, i, k, hr, h => by
    unfold zScanA at h
    cases hs : zScan p 0 r with
    | some j =>
      rw [hs] at h
      simp at h
      have := zScan_bd p r 0 j hs
      have h2 := hr r (by simp)
      simp only [List.length_cons]
      omega
    | none =>
      rw [hs] at h
      have := zScanA_bd p rs (i + 1) k (fun x hx => hr x (by simp [hx])) h
      simp only [List.length_cons]
      omega
/-- are they all different? by a number's bits -/
def nodupB : List Nat → Nat → Bool
  | [], _ => true
  | x :: l, acc => !acc.testBit x && nodupB l (acc ||| 2 ^ x)
theorem nodup_of_b : ∀ (l : List Nat) (acc : Nat), nodupB l acc = true → l.Nodup ∧ ∀ x ∈ l, acc.testBit x = false
  | [], _, _ => ⟨List.nodup_nil, fun _ h => by cases h⟩
  | x :: l, acc, h => by
    unfold nodupB at h
    rw [Bool.and_eq_true, Bool.not_eq_true'] at h
    obtain ⟨h1, h2⟩ := nodup_of_b l _ h.2
    have h3 : ∀ y ∈ l, acc.testBit y = false ∧ x ≠ y := fun y hy => by
      have := h2 y hy
      rw [Nat.testBit_or, Bool.or_eq_false_iff] at this
      refine ⟨this.1, fun e => ?_⟩
      subst e
      rw [Nat.testBit_two_pow_self] at this
      exact absurd this.2 (by decide)
    refine ⟨List.nodup_cons.2 ⟨fun hx => (h3 x hx).2 rfl, h1⟩, fun y hy => ?_⟩
    rcases List.mem_cons.1 hy with rfl | hy
    · exact h.1
    · exact (h3 y hy).1
set_option maxRecDepth 100000 in
theorem wanL_nodupB : nodupB (wanL.map fun q => q.2.toNat) 0 = true := by decide +kernel
theorem wanL_nodup : (wanL.map Prod.snd).Nodup := by
  have h := (nodup_of_b _ _ wanL_nodupB).1
  unfold List.Nodup at *
  rw [List.pairwise_map] at *
  exact h.imp fun {a b} hn e => hn (by rw [e])
theorem wanL_sc : ∀ q ∈ wanL, 0 < q.2 ∧ q.2 < 65536 ∧ ¬ (44032 ≤ q.2 ∧ q.2 ≤ 55203) := by decide +kernel
theorem wfwd_rev {L : List (Int × Int)} (hn : (L.map Prod.snd).Nodup) (k p : Int) (h : fwdl L k = (p, true)) : revl L p = (k, true) := by
  unfold fwdl at h
  cases hf : L.find? (fun q => q.1 == k) with
  | none => rw [hf] at h; simp at h
  | some q =>
    rw [hf] at h
    simp only [Prod.mk.injEq, and_true] at h
    have hq : q ∈ L := List.mem_of_find?_eq_some hf
    have hk : q.1 = k := by simpa using List.find?_some hf
    unfold revl
    cases hg : L.find? (fun q => q.2 == p) with
    | none =>
      have := List.find?_eq_none.1 hg q hq
      simp [h] at this
    | some r =>
      have hr : r ∈ L := List.mem_of_find?_eq_some hg
      have hp : r.2 = p := by simpa using List.find?_some hg
      obtain ⟨i, hi, ei⟩ := List.getElem_of_mem hq
      obtain ⟨j, hj, ej⟩ := List.getElem_of_mem hr
      have hij : i = j := (List.getElem_inj (h₀ := by simpa using hi) (h₁ := by simpa using hj) hn).1 (by rw [List.getElem_map, List.getElem_map, ei, ej, h, hp])
      subst hij
      have : q = r := by rw [← ei, ← ej]
      rw [← this]
      exact congrArg (fun x => (x, true)) hk
end Go.Proofs.Dia
