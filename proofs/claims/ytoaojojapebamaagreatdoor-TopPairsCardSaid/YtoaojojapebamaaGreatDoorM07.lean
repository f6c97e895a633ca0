/- PLAIN LAWS ON TABLES OF CODES: rows, levels, their pairs, and the document's lists of pairs by rising codes.; PLAIN LAWS: the document's pairs, piece by piece, are a table's. -/
import Derived.Test.YtoaojojapebamaaGreatDoorM01
namespace Go.Proofs.Dia

/-- a row of codes -/
structure Row where
  from' : Int
  to : Int
  count : Int
  list : List Int
def Row.has (r : Row) (code : Int) : Bool := decide (r.from' ≤ code) && decide (code - r.from' < r.count)
def Row.at (r : Row) (code : Int) : Int := if r.list = [] then r.to + (code - r.from') else r.list.getD (code - r.from').toNat 0
/-- a row that may be -/
structure Row.Ok (r : Row) : Prop where
  f0 : 0 ≤ r.from'
  f1 : r.from' + r.count ≤ 1048576
  c0 : 1 ≤ r.count
  t0 : r.list = [] → 0 ≤ r.to
  t1 : r.list = [] → r.to + (r.count - 1) ≤ 1114111
  l : r.list ≠ [] → (r.list.length : Int) = r.count
/-- a row's codes -/
def Row.cs (r : Row) : List Int := (List.range r.count.toNat).map fun (k : Nat) => r.from' + (k : Int)
theorem Row.mem_cs (r : Row) (c : Int) : c ∈ r.cs ↔ r.has c = true := by
  simp only [Row.cs, Row.has, List.mem_map, List.mem_range, Bool.and_eq_true, decide_eq_true_eq]
  constructor
  · rintro ⟨k, hk, rfl⟩; omega
  · rintro ⟨h1, h2⟩; exact ⟨(c - r.from').toNat, by omega, by omega⟩
def Row.prs (h : Int → Bool) (r : Row) : List (Int × Int) := (r.cs.filter fun c => !h c).map fun c => (c, r.at c)
def hid (ls : List (List Row)) (c : Int) : Bool := ls.any fun rs => rs.any fun r => r.has c
def prsRows (h : Int → Bool) (rs : List Row) : List (Int × Int) := rs.flatMap (Row.prs h)
def prsTo (ls : List (List Row)) : Nat → List (Int × Int)
  | 0 => []
  | i + 1 => prsTo ls i ++ prsRows (hid (ls.take i)) (ls.getD i [])
/-- a table's pairs, level by level -/
def prs (ls : List (List Row)) : List (Int × Int) := prsTo ls ls.length

theorem hid_append (a b : List (List Row)) (c : Int) : hid (a ++ b) c = (hid a c || hid b c) := by simp [hid]
theorem prsRows_or (h g : Int → Bool) (rs : List Row) : prsRows (fun c => h c || g c) rs = (prsRows g rs).filter fun q => !h q.1 := by
  unfold prsRows
  rw [List.filter_flatMap]
  congr 1
  funext r
  unfold Row.prs
  rw [List.filter_map, List.filter_filter]
  congr 1
  apply List.filter_congr
  intro c _
  simp
theorem getD_left {α : Type} {d : α} (a b : List α) {i : Nat} (h : i < a.length) : (a ++ b).getD i d = a.getD i d := by
  rw [List.getD_eq_getElem?_getD, List.getElem?_append_left h, List.getD_eq_getElem?_getD]
theorem getD_right {α : Type} {d : α} (a b : List α) (j : Nat) : (a ++ b).getD (a.length + j) d = b.getD j d := by
  rw [List.getD_eq_getElem?_getD, List.getElem?_append_right (by omega), List.getD_eq_getElem?_getD]
  congr 2; omega
theorem prsTo_append (ls ms : List (List Row)) : ∀ j, j ≤ ms.length → prsTo (ls ++ ms) (ls.length + j) = prs ls ++ (prsTo ms j).filter fun q => !hid ls q.1
  | 0, _ => by
    have : ∀ i, i ≤ ls.length → prsTo (ls ++ ms) i = prsTo ls i := by
      intro i
      induction i with
      | zero => intro _; rfl
      | succ i ih =>
        intro hi
        simp only [prsTo]
        rw [ih (by omega), List.take_append_of_le_length (by omega), getD_left _ _ (by omega)]
    simp [prsTo, prs, this]
  | j + 1, hj => by
    have e : ls.length + (j + 1) = (ls.length + j) + 1 := by omega
    rw [e]
    simp only [prsTo]
    rw [prsTo_append ls ms j (by omega), List.filter_append, List.append_assoc]
    congr 2
    have e1 : (ls ++ ms).take (ls.length + j) = ls ++ ms.take j := by rw [List.take_length_add_append]
    have e2 : (ls ++ ms).getD (ls.length + j) [] = ms.getD j [] := by
      exact getD_right ls ms j
    rw [e1, e2, ← prsRows_or]
    congr 1
    funext c
    exact hid_append _ _ _
theorem prs_append (ls ms : List (List Row)) : prs (ls ++ ms) = prs ls ++ (prs ms).filter fun q => !hid ls q.1 := by
  unfold prs
  rw [List.length_append, prsTo_append ls ms _ (Nat.le_refl _)]
  rfl
theorem prs_one (rs : List Row) : prs [rs] = prsRows (fun _ => false) rs := by
  simp [prs, prsTo]
  congr 1
theorem prs_nil : prs [] = [] := rfl
theorem prs_cons (rs : List Row) (ls : List (List Row)) : prs (rs :: ls) = prsRows (fun _ => false) rs ++ (prs ls).filter fun q => !hid [rs] q.1 := by
  have := prs_append [rs] ls
  rw [prs_one] at this
  exact this

/-- a code's sign -/
def fwd (ls : List (List Row)) (code : Int) : Int × Bool :=
  match ls.flatten.find? (fun r => r.has code) with
  | some r => (r.at code, true)
  | none => (0, false)
theorem find_row (r : Row) (c : Int) : (r.prs fun _ => false).find? (fun q => q.1 == c) = if r.has c then some (c, r.at c) else none := by
  have e : r.prs (fun _ => false) = r.cs.map fun c => (c, r.at c) := by
    unfold Row.prs
    rw [List.filter_eq_self.2 (by simp)]
  rw [e]
  by_cases h : r.has c = true
  · rw [if_pos h]
    have hm := (r.mem_cs c).2 h
    generalize r.cs = l at hm
    induction l with
    | nil => simp at hm
    | cons x l ih =>
      rw [List.map_cons, List.find?_cons]
      by_cases hx : x = c
      · subst hx; simp
      · have : ((x, r.at x).1 == c) = false := by simpa using hx
        rw [this]
        rcases List.mem_cons.1 hm with h1 | h1
        · exact absurd h1.symm hx
        · exact ih h1
  · rw [if_neg h, List.find?_eq_none]
    intro q hq
    obtain ⟨x, hx, rfl⟩ := List.mem_map.1 hq
    simp only [beq_iff_eq]
    intro hc
    subst hc
    exact h ((r.mem_cs _).1 hx)
theorem find_rows (c : Int) : ∀ (rs : List Row), (prsRows (fun _ => false) rs).find? (fun q => q.1 == c) = (rs.find? fun r => r.has c).map fun r => (c, r.at c)
  | [] => rfl
  | r :: rs => by
    have e : prsRows (fun _ => false) (r :: rs) = r.prs (fun _ => false) ++ prsRows (fun _ => false) rs := by simp [prsRows]
    rw [e, List.find?_append, find_row, find_rows c rs, List.find?_cons]
    by_cases h : r.has c = true
    · rw [if_pos h, h]; rfl
    · rw [if_neg h]
      have : r.has c = false := by simpa using h
      rw [this]; rfl
theorem find_prs (c : Int) : ∀ (ls : List (List Row)), (prs ls).find? (fun q => q.1 == c) = (ls.flatten.find? fun r => r.has c).map fun r => (c, r.at c)
  | [] => rfl
  | rs :: ls => by
    rw [prs_cons, List.find?_append, find_rows, List.flatten_cons, List.find?_append, List.find?_filter]
    cases h : rs.find? (fun r => r.has c) with
    | some r => rfl
    | none =>
      have hn : hid [rs] c = false := by
        rw [List.find?_eq_none] at h
        simp only [hid, List.any_cons, List.any_nil, Bool.or_false]
        rw [List.any_eq_false]
        intro r hr; simpa using h r hr
      have e : (fun q : Int × Int => decide ((!hid [rs] q.1) = true ∧ (q.1 == c) = true)) = fun q => q.1 == c := by
        funext q
        by_cases hq : q.1 = c
        · rw [hq, hn]; simp
        · have : (q.1 == c) = false := by simpa using hq
          rw [this]; simp
      rw [e, find_prs c ls]
      simp
theorem fwd_prs (ls : List (List Row)) (c : Int) : fwd ls c = match (prs ls).find? (fun q => q.1 == c) with | some q => (q.2, true) | none => (0, false) := by
  unfold fwd
  rw [find_prs]
  cases ls.flatten.find? (fun r => r.has c) <;> rfl

/-- the codes, from one on, of a sign in listed signs -/
def codesL (f : Int) : List Int → Int → List Int
  | [], _ => []
  | x :: l, p => if x = p then f :: codesL (f + 1) l p else codesL (f + 1) l p
def Row.codes (r : Row) (p : Int) : List Int :=
  if r.list = [] then (if p < r.to ∨ r.to + (r.count - 1) < p then [] else [r.from' + (p - r.to)]) else codesL r.from' r.list p
theorem codesL_eq (p : Int) : ∀ (l : List Int) (f : Int), codesL f l p = ((List.range l.length).filter fun k => l.getD k 0 == p).map fun (k : Nat) => f + (k : Int)
  | [], f => rfl
  | x :: l, f => by
    have ih := codesL_eq p l (f + 1)
    rw [List.length_cons, List.range_succ_eq_map, List.filter_cons]
    simp only [codesL]
    have e : ((List.map Nat.succ (List.range l.length)).filter fun k => (x :: l).getD k 0 == p).map (fun (k : Nat) => f + (k : Int)) = codesL (f + 1) l p := by
      rw [ih, List.filter_map, List.map_map]
      have e1 : ((fun k => (x :: l).getD k 0 == p) ∘ Nat.succ) = fun k => l.getD k 0 == p := by funext k; simp
      rw [e1]
      apply List.map_congr_left
      intro k _
      simp only [Function.comp_apply, Nat.succ_eq_add_one]
      omega
    by_cases h : x = p
    · rw [if_pos h, if_pos (by simpa using h), List.map_cons, e]; simp
    · rw [if_neg h, if_neg (by simpa using h), e]
theorem range_filter_one (n k : Nat) (h : k < n) : (List.range n).filter (fun j => j == k) = [k] := by
  induction n with
  | zero => omega
  | succ n ih =>
    rw [List.range_succ, List.filter_append]
    by_cases hk : k = n
    · subst hk
      rw [List.filter_eq_nil_iff.2 (by intro j hj; have := List.mem_range.1 hj; simp; omega)]
      simp
    · rw [ih (by omega)]
      have : (n == k) = false := by simp; omega
      simp [this]
theorem codes_eq (r : Row) (ho : r.Ok) (p : Int) : r.codes p = r.cs.filter fun c => r.at c == p := by
  unfold Row.codes Row.cs
  rw [List.filter_map]
  have hf : ∀ k : Nat, (r.from' + (k : Int) - r.from') = (k : Int) := by intro k; omega
  by_cases hl : r.list = []
  · rw [if_pos hl]
    have e : ((fun c => r.at c == p) ∘ fun (k : Nat) => r.from' + (k : Int)) = fun k : Nat => r.to + (k : Int) == p := by
      funext k; simp [Row.at, hl, hf]
    rw [e]
    have hc := ho.c0
    by_cases ho2 : p < r.to ∨ r.to + (r.count - 1) < p
    · rw [if_pos ho2, List.filter_eq_nil_iff.2]
      · rfl
      · intro k hk; have := List.mem_range.1 hk; simp; omega
    · rw [if_neg ho2]
      have e2 : (List.range r.count.toNat).filter (fun k : Nat => r.to + (k : Int) == p) = [(p - r.to).toNat] := by
        rw [← range_filter_one r.count.toNat (p - r.to).toNat (by omega)]
        apply List.filter_congr
        intro k _
        rw [Bool.eq_iff_iff]; simp; omega
      rw [e2]
      simp only [List.map_cons, List.map_nil]
      congr 1
      omega
  · rw [if_neg hl, codesL_eq]
    have hlen := ho.l hl
    have e : r.count.toNat = r.list.length := by omega
    rw [e]
    have e1 : ((fun c => r.at c == p) ∘ fun (k : Nat) => r.from' + (k : Int)) = fun k : Nat => r.list.getD k 0 == p := by
      funext k; simp [Row.at, hl, hf]
    rw [e1]

/-- the least so far -/
def ms (s : Int × Bool) (c : Int) : Int × Bool := if !s.2 || decide (c < s.1) then (c, true) else s
/-- Go's step: the least so far, if the code isn't hidden -/
def step (h : Int → Bool) (s : Int × Bool) (c : Int) : Int × Bool := if (!s.2 || decide (c < s.1)) && !h c then (c, true) else s
theorem step_ms (h : Int → Bool) (s : Int × Bool) (c : Int) : step h s c = if !h c then ms s c else s := by
  unfold step ms
  cases h c <;> simp
theorem foldl_step (h : Int → Bool) : ∀ (l : List Int) (s : Int × Bool), l.foldl (step h) s = (l.filter fun c => !h c).foldl ms s
  | [], s => rfl
  | c :: l, s => by
    rw [List.foldl_cons, foldl_step h l, step_ms, List.filter_cons]
    split <;> simp_all
def revRow (h : Int → Bool) (p : Int) (s : Int × Bool) (r : Row) : Int × Bool := (r.codes p).foldl (step h) s
def revTo (ls : List (List Row)) (p : Int) : Nat → Int × Bool
  | 0 => (0, false)
  | i + 1 => (ls.getD i []).foldl (revRow (hid (ls.take i)) p) (revTo ls p i)
def rev (ls : List (List Row)) (p : Int) : Int × Bool := revTo ls p ls.length
/-- a list's codes of a sign -/
def cof (l : List (Int × Int)) (p : Int) : List Int := (l.filter fun q => q.2 == p).map (·.1)
theorem cof_append (a b : List (Int × Int)) (p : Int) : cof (a ++ b) p = cof a p ++ cof b p := by simp [cof]
theorem revRow_eq (h : Int → Bool) (p : Int) (s : Int × Bool) (r : Row) (ho : r.Ok) : revRow h p s r = (cof (r.prs h) p).foldl ms s := by
  unfold revRow
  rw [foldl_step, codes_eq r ho]
  congr 1
  unfold cof Row.prs
  rw [List.filter_map, List.map_map, List.filter_filter, List.filter_filter]
  have : ((fun x : Int × Int => x.1) ∘ fun c => (c, r.at c)) = id := rfl
  rw [this, List.map_id]
  apply List.filter_congr
  intro c _
  simp [Bool.and_comm]
theorem revRows_eq (h : Int → Bool) (p : Int) : ∀ (rs : List Row) (s : Int × Bool), (∀ r ∈ rs, r.Ok) → rs.foldl (revRow h p) s = (cof (prsRows h rs) p).foldl ms s
  | [], s, _ => rfl
  | r :: rs, s, ho => by
    have e : prsRows h (r :: rs) = r.prs h ++ prsRows h rs := by simp [prsRows]
    rw [List.foldl_cons, revRows_eq h p rs _ (fun x hx => ho x (by simp [hx])), revRow_eq h p s r (ho r (by simp)), e, cof_append, List.foldl_append]
theorem revTo_eq (ls : List (List Row)) (p : Int) (ho : ∀ rs ∈ ls, ∀ r ∈ rs, r.Ok) : ∀ i, i ≤ ls.length → revTo ls p i = (cof (prsTo ls i) p).foldl ms (0, false)
  | 0, _ => rfl
  | i + 1, hi => by
    simp only [revTo, prsTo]
    rw [revTo_eq ls p ho i (by omega), cof_append, List.foldl_append, revRows_eq]
    intro r hr
    have e : ls.getD i [] = ls[i] := by simp [List.getD_eq_getElem?_getD, show i < ls.length by omega]
    rw [e] at hr
    exact ho _ (List.getElem_mem _) r hr
theorem ms_true : ∀ (l : List Int) (m : Int), ∃ k, l.foldl ms (m, true) = (k, true) ∧ (k = m ∨ k ∈ l) ∧ k ≤ m ∧ ∀ x ∈ l, k ≤ x
  | [], m => ⟨m, rfl, .inl rfl, Int.le_refl _, by simp⟩
  | c :: l, m => by
    rw [List.foldl_cons]
    by_cases h : c < m
    · have e : ms (m, true) c = (c, true) := by simp [ms, h]
      rw [e]
      obtain ⟨k, h1, h2, h3, h4⟩ := ms_true l c
      refine ⟨k, h1, ?_, by omega, ?_⟩
      · rcases h2 with h2 | h2
        · exact .inr (by simp [h2])
        · exact .inr (by simp [h2])
      · intro x hx
        rcases List.mem_cons.1 hx with hx | hx
        · omega
        · exact h4 x hx
    · have e : ms (m, true) c = (m, true) := by simp [ms, h]
      rw [e]
      obtain ⟨k, h1, h2, h3, h4⟩ := ms_true l m
      refine ⟨k, h1, ?_, h3, ?_⟩
      · rcases h2 with h2 | h2
        · exact .inl h2
        · exact .inr (by simp [h2])
      · intro x hx
        rcases List.mem_cons.1 hx with hx | hx
        · omega
        · exact h4 x hx
theorem ms_none (l : List Int) : (l = [] ∧ l.foldl ms (0, false) = (0, false)) ∨ ∃ k, l.foldl ms (0, false) = (k, true) ∧ k ∈ l ∧ ∀ x ∈ l, k ≤ x := by
  cases l with
  | nil => exact .inl ⟨rfl, rfl⟩
  | cons c l =>
    have e : ms (0, false) c = (c, true) := by simp [ms]
    rw [List.foldl_cons, e]
    obtain ⟨k, h1, h2, h3, h4⟩ := ms_true l c
    refine .inr ⟨k, h1, ?_, ?_⟩
    · rcases h2 with h2 | h2 <;> simp [h2]
    · intro x hx
      rcases List.mem_cons.1 hx with hx | hx
      · omega
      · exact h4 x hx

/-- pairs by rising codes -/
def Rise (l : List (Int × Int)) : Prop := l.Pairwise fun a b => a.1 < b.1
/-- the table's pairs, by rising codes -/
def IsTab (ls : List (List Row)) (l : List (Int × Int)) : Prop := Rise l ∧ l.Perm (prs ls)
theorem rise_find {l : List (Int × Int)} (h : Rise l) {q : Int × Int} (hq : q ∈ l) : l.find? (fun x => x.1 == q.1) = some q := by
  induction l with
  | nil => simp at hq
  | cons x l ih =>
    rw [List.find?_cons]
    obtain ⟨h1, h2⟩ := List.pairwise_cons.1 h
    rcases List.mem_cons.1 hq with rfl | hq
    · simp
    · have := h1 q hq
      have e : (x.1 == q.1) = false := by simp; omega
      rw [e]
      exact ih h2 hq
theorem find_iff {l : List (Int × Int)} (c : Int) : (l.find? fun x => x.1 == c) = none ↔ ∀ q ∈ l, q.1 ≠ c := by
  rw [List.find?_eq_none]; simp
theorem find_some {l : List (Int × Int)} {c : Int} {q : Int × Int} (h : (l.find? fun x => x.1 == c) = some q) : q ∈ l ∧ q.1 = c :=
  ⟨List.mem_of_find?_eq_some h, by simpa using List.find?_some h⟩
theorem nodup_of_rise {l : List (Int × Int)} (h : Rise l) : (l.map (·.1)).Nodup := by
  rw [List.nodup_iff_pairwise_ne, List.pairwise_map]
  exact h.imp (by intro a b h1; omega)
/-- in a list without two pairs of one code: what is found at a code -/
theorem find_nodup {l m : List (Int × Int)} (hp : l.Perm m) (hn : (l.map (·.1)).Nodup) (c : Int) : (l.find? fun x => x.1 == c) = (m.find? fun x => x.1 == c) := by
  have hn' : (m.map (·.1)).Nodup := (hp.map _).nodup_iff.1 hn
  have key : ∀ {k : List (Int × Int)}, (k.map (·.1)).Nodup → ∀ q ∈ k, (k.find? fun x => x.1 == q.1) = some q := by
    intro k hk q hq
    induction k with
    | nil => simp at hq
    | cons x k ih =>
      rw [List.map_cons, List.nodup_cons] at hk
      rw [List.find?_cons]
      rcases List.mem_cons.1 hq with rfl | hq
      · simp
      · have e : (x.1 == q.1) = false := by
          have : x.1 ≠ q.1 := fun e => hk.1 (by rw [e]; exact List.mem_map_of_mem hq)
          simpa using this
        rw [e]
        exact ih hk.2 hq
  cases h : m.find? (fun x => x.1 == c) with
  | none =>
    rw [find_iff] at h ⊢
    intro q hq
    exact h q (hp.mem_iff.1 hq)
  | some q =>
    obtain ⟨h1, rfl⟩ := find_some h
    exact key hn q (hp.mem_iff.2 h1)
theorem fwd_tab {ls : List (List Row)} {l : List (Int × Int)} (h : IsTab ls l) (c : Int) : fwd ls c = match l.find? (fun q => q.1 == c) with | some q => (q.2, true) | none => (0, false) := by
  rw [fwd_prs, find_nodup h.2 (nodup_of_rise h.1)]
theorem rev_tab {ls : List (List Row)} {l : List (Int × Int)} (h : IsTab ls l) (ho : ∀ rs ∈ ls, ∀ r ∈ rs, r.Ok) (p : Int) :
    rev ls p = match l.find? (fun q => q.2 == p) with | some q => (q.1, true) | none => (0, false) := by
  unfold rev
  rw [revTo_eq ls p ho _ (Nat.le_refl _)]
  change ((cof (prs ls) p).foldl ms (0, false)) = _
  have hm : ∀ x, x ∈ cof (prs ls) p ↔ x ∈ cof l p := fun x => ((h.2.filter _).map _).mem_iff.symm
  have hmem : ∀ x, x ∈ cof l p ↔ ∃ q ∈ l, q.2 = p ∧ q.1 = x := by
    intro x
    simp only [cof, List.mem_map, List.mem_filter, beq_iff_eq]
    constructor
    · rintro ⟨q, ⟨h1, h2⟩, h3⟩; exact ⟨q, h1, h2, h3⟩
    · rintro ⟨q, h1, h2, h3⟩; exact ⟨q, ⟨h1, h2⟩, h3⟩
  rcases ms_none (cof (prs ls) p) with ⟨h1, h2⟩ | ⟨k, h1, h2, h3⟩
  · rw [h2]
    have hn : l.find? (fun q => q.2 == p) = none := by
      rw [List.find?_eq_none]
      intro q hq
      simp only [beq_iff_eq]
      intro e
      have : q.1 ∈ cof (prs ls) p := (hm _).2 ((hmem _).2 ⟨q, hq, e, rfl⟩)
      rw [h1] at this; simp at this
    rw [hn]
  · rw [h1]
    obtain ⟨q, q1, q2, q3⟩ := (hmem k).1 ((hm k).1 h2)
    have least : ∀ x ∈ l, x.2 = p → k ≤ x.1 := fun x hx e => h3 _ ((hm _).2 ((hmem _).2 ⟨x, hx, e, rfl⟩))
    have hr := h.1
    clear h1 h2 h3 hm hmem h
    have : l.find? (fun q => q.2 == p) = some q := by
      induction l with
      | nil => simp at q1
      | cons x l ih =>
        rw [List.find?_cons]
        obtain ⟨r1, r2⟩ := List.pairwise_cons.1 hr
        by_cases e : x.2 = p
        · have : (x.2 == p) = true := by simpa using e
          rw [this]
          rcases List.mem_cons.1 q1 with rfl | q1
          · rfl
          · have := r1 q q1
            have := least x (by simp) e
            omega
        · have e' : (x.2 == p) = false := by simpa using e
          rw [e']
          rcases List.mem_cons.1 q1 with rfl | q1
          · exact absurd q2 e
          · exact ih q1 (fun x hx => least x (by simp [hx])) r2
    rw [this]
    simp [q3]

/-- of two rows: no code in both -/
def Row.apart (r x : Row) : Bool := decide (r.from' ≥ x.from' + x.count) || decide (x.from' ≥ r.from' + r.count)
theorem apart_has {r x : Row} (h : r.apart x = true) {c : Int} (h1 : x.has c = true) : r.has c = false := by
  simp only [Row.apart, Row.has, Bool.or_eq_true, Bool.and_eq_true, decide_eq_true_eq] at *
  rw [Bool.and_eq_false_iff]
  simp only [decide_eq_false_iff_not]
  omega
theorem has_apart {r x : Row} (hr : r.Ok) (hx : x.Ok) (h : r.apart x = false) : ∃ c, x.has c = true ∧ r.has c = true := by
  have a := hr.c0
  have b := hx.c0
  simp only [Row.apart, Bool.or_eq_false_iff, decide_eq_false_iff_not] at h
  simp only [Row.has, Bool.and_eq_true, decide_eq_true_eq]
  by_cases e : r.from' ≤ x.from'
  · exact ⟨x.from', by omega, by omega⟩
  · exact ⟨r.from', by omega, by omega⟩
/-- levels of rows that may be: no code twice in a level -/
structure WF (ls : List (List Row)) : Prop where
  ok : ∀ rs ∈ ls, ∀ r ∈ rs, r.Ok
  dis : ∀ rs ∈ ls, rs.Pairwise fun x r => r.apart x = true
theorem cs_nodup (r : Row) : r.cs.Nodup := by
  unfold Row.cs
  rw [List.nodup_iff_pairwise_ne, List.pairwise_map]
  exact List.nodup_range.imp (by intro a b h; omega)
theorem prs_fst (h : Int → Bool) (r : Row) : (r.prs h).map (·.1) = r.cs.filter fun c => !h c := by
  unfold Row.prs
  rw [List.map_map]
  exact List.map_id _
theorem rows_nodup (h : Int → Bool) : ∀ (rs : List Row), rs.Pairwise (fun x r => r.apart x = true) → ((prsRows h rs).map (·.1)).Nodup
  | [], _ => by simp [prsRows]
  | r :: rs, hd => by
    obtain ⟨h1, h2⟩ := List.pairwise_cons.1 hd
    have e : prsRows h (r :: rs) = r.prs h ++ prsRows h rs := by simp [prsRows]
    rw [e, List.map_append, List.nodup_append]
    refine ⟨by rw [prs_fst]; exact (cs_nodup r).filter _, rows_nodup h rs h2, ?_⟩
    intro a ha b hb
    rw [prs_fst, List.mem_filter] at ha
    simp only [prsRows, List.map_flatMap, List.mem_flatMap] at hb
    obtain ⟨x, hx, hb⟩ := hb
    rw [prs_fst, List.mem_filter] at hb
    intro hab
    subst hab
    have := apart_has (h1 x hx) ((r.mem_cs _).1 ha.1)
    rw [(x.mem_cs _).1 hb.1] at this
    exact absurd this (by decide)
theorem prs_nodup : ∀ (ls : List (List Row)), WF ls → ((prs ls).map (·.1)).Nodup
  | [], _ => by simp [prs_nil]
  | rs :: ls, hw => by
    rw [prs_cons, List.map_append, List.nodup_append]
    refine ⟨rows_nodup _ rs (hw.dis rs (by simp)), ?_, ?_⟩
    · exact ((List.filter_sublist).map _).nodup (prs_nodup ls ⟨fun x hx => hw.ok x (by simp [hx]), fun x hx => hw.dis x (by simp [hx])⟩)
    · intro a ha b hb hab
      subst hab
      obtain ⟨q, hq, rfl⟩ := List.mem_map.1 hb
      have h2 := (List.mem_filter.1 hq).2
      simp only [prsRows, List.map_flatMap, List.mem_flatMap] at ha
      obtain ⟨r, hr, ha⟩ := ha
      rw [prs_fst, List.mem_filter] at ha
      have h3 := (r.mem_cs _).1 ha.1
      have : hid [rs] q.1 = true := by
        simp only [hid, List.any_cons, List.any_nil, Bool.or_false]
        exact List.any_eq_true.2 ⟨r, hr, h3⟩
      rw [this] at h2
      exact absurd h2 (by decide)
/-- what is sorted is by rising codes -/
theorem rise_of {l m : List (Int × Int)} (hs : l.Pairwise fun a b => a.1 ≤ b.1) (hp : l.Perm m) (hn : (m.map (·.1)).Nodup) : Rise l := by
  have h1 := (hp.map (·.1)).nodup_iff.2 hn
  rw [List.nodup_iff_pairwise_ne, List.pairwise_map] at h1
  exact (hs.and h1).imp (by intro a b h; omega)
theorem rise_unique {l m : List (Int × Int)} (h1 : Rise l) (h2 : Rise m) (hp : l.Perm m) : l = m :=
  have h3 : l.Pairwise fun a b => decide (a.1 < b.1) = true := h1.imp (by intro a b h; simpa using h)
  have h4 : m.Pairwise fun a b => decide (a.1 < b.1) = true := h2.imp (by intro a b h; simpa using h)
  List.Perm.eq_of_pairwise (fun a b _ _ h5 h6 => by simp at h5 h6; omega) h3 h4 hp
end Go.Proofs.Dia
namespace Go.Proofs.Dia

def ins : List (Int × Int) → Int × Int → List (Int × Int)
  | [], p => [p]
  | x :: l, p => if p.1 < x.1 then p :: x :: l else x :: ins l p
/-- the document's Put, a round -/
def pstep (p : Int × Int) (s : List (Int × Int) × Bool) (x : Int × Int) : List (Int × Int) × Bool := if !s.2 && decide (p.1 < x.1) then (s.1 ++ [p, x], true) else (s.1 ++ [x], s.2)
def rput (l : List (Int × Int)) (p : Int × Int) : List (Int × Int) := if (l.foldl (pstep p) ([], false)).2 then (l.foldl (pstep p) ([], false)).1 else (l.foldl (pstep p) ([], false)).1 ++ [p]
theorem pstep_done (p : Int × Int) : ∀ (l o : List (Int × Int)), l.foldl (pstep p) (o, true) = (o ++ l, true)
  | [], o => by simp
  | x :: l, o => by
    rw [List.foldl_cons]
    have : pstep p (o, true) x = (o ++ [x], true) := by simp [pstep]
    rw [this, pstep_done p l]; simp
theorem pstep_ins (p : Int × Int) : ∀ (l o : List (Int × Int)), (if (l.foldl (pstep p) (o, false)).2 then (l.foldl (pstep p) (o, false)).1 else (l.foldl (pstep p) (o, false)).1 ++ [p]) = o ++ ins l p
  | [], o => by simp [ins]
  | x :: l, o => by
    rw [List.foldl_cons]
    by_cases h : p.1 < x.1
    · have : pstep p (o, false) x = (o ++ [p, x], true) := by simp [pstep, h]
      rw [this, pstep_done]; simp [ins, h]
    · have : pstep p (o, false) x = (o ++ [x], false) := by simp [pstep, h]
      rw [this, pstep_ins p l]; simp [ins, h]
theorem rput_ins (l : List (Int × Int)) (p : Int × Int) : rput l p = ins l p := by
  unfold rput; rw [pstep_ins]; simp
theorem ins_perm (p : Int × Int) : ∀ (l : List (Int × Int)), (ins l p).Perm (p :: l)
  | [] => List.Perm.refl _
  | x :: l => by
    unfold ins
    split
    · exact List.Perm.refl _
    · exact ((ins_perm p l).cons x).trans (List.Perm.swap p x l)
theorem ins_sorted (p : Int × Int) : ∀ (l : List (Int × Int)), l.Pairwise (fun a b => a.1 ≤ b.1) → (ins l p).Pairwise (fun a b => a.1 ≤ b.1)
  | [], _ => by simp [ins]
  | x :: l, h => by
    obtain ⟨h1, h2⟩ := List.pairwise_cons.1 h
    unfold ins
    split
    · rename_i hc
      refine List.pairwise_cons.2 ⟨?_, h⟩
      intro q hq
      rcases List.mem_cons.1 hq with rfl | hq
      · omega
      · have := h1 q hq; omega
    · rename_i hc
      refine List.pairwise_cons.2 ⟨?_, ins_sorted p l h2⟩
      intro q hq
      rcases List.mem_cons.1 ((ins_perm p l).mem_iff.1 hq) with rfl | hq
      · omega
      · exact h1 q hq
theorem rput_len (l : List (Int × Int)) (p : Int × Int) : (rput l p).length = l.length + 1 := by
  rw [rput_ins, (ins_perm p l).length_eq]; rfl

/-- the document's Find: the place of a code; -1 -/
def rfind (l : List (Int × Int)) (c : Int) : Int := match l.findIdx? (fun q => q.1 == c) with | some i => i | none => -1
theorem rfind_neg (l : List (Int × Int)) (c : Int) : rfind l c < 0 ↔ ∀ q ∈ l, q.1 ≠ c := by
  unfold rfind
  cases h : l.findIdx? (fun q => q.1 == c) with
  | none =>
    rw [List.findIdx?_eq_none_iff] at h
    simp only [beq_eq_false_iff_ne] at h
    simp only [show ((-1 : Int) < 0) = True by simp, true_iff]
    exact h
  | some i =>
    obtain ⟨h1, h2, _⟩ := List.findIdx?_eq_some_iff_getElem.1 h
    simp only [show ¬ ((i : Int) < 0) by omega, false_iff]
    intro h3
    exact h3 _ (List.getElem_mem h1) (by simpa using h2)
theorem rfind_get {l : List (Int × Int)} {c : Int} {q : Int × Int} (h : l.find? (fun q => q.1 == c) = some q) : ∃ i : Nat, rfind l c = i ∧ ∃ hi : i < l.length, l[i] = q := by
  unfold rfind
  cases h2 : l.findIdx? (fun q => q.1 == c) with
  | none =>
    rw [List.findIdx?_eq_none_iff] at h2
    have h3 := List.mem_of_find?_eq_some h
    have h4 := List.find?_some h
    rw [h2 q h3] at h4
    exact absurd h4 (by decide)
  | some i =>
    obtain ⟨h3, h4, h5⟩ := List.findIdx?_eq_some_iff_getElem.1 h2
    refine ⟨i, rfl, h3, ?_⟩
    obtain ⟨_, us', bs, e, h6⟩ := List.find?_eq_some_iff_append.1 h
    subst e
    have hi : i = us'.length := by
      rcases Nat.lt_trichotomy i us'.length with h7 | h7 | h7
      · have := h6 _ (List.getElem_mem h7)
        rw [List.getElem_append_left h7] at h4
        rw [h4] at this
        exact absurd this (by decide)
      · exact h7
      · have := h5 us'.length h7
        simp only [List.getElem_append_right (Nat.le_refl _), Nat.sub_self, List.getElem_cons_zero] at this
        have h8 := List.find?_some h
        exact absurd h8 this
    subst hi
    simp
theorem rfind_none {l : List (Int × Int)} {c : Int} (h : l.find? (fun q => q.1 == c) = none) : rfind l c = -1 := by
  unfold rfind
  have : l.findIdx? (fun q => q.1 == c) = none := by
    rw [List.findIdx?_eq_none_iff]
    intro q hq
    rw [List.find?_eq_none] at h
    simpa using h q hq
  rw [this]
/-- the document's Reverse -/
def rrev (l : List (Int × Int)) (p : Int) : Int := match l.find? (fun q => q.2 == p) with | some q => q.1 | none => -1
/-- the document's Join -/
def rjoin (l more : List (Int × Int)) : Option (List (Int × Int)) := if more.any (fun q => decide (0 ≤ rfind l q.1)) then none else some (more.foldl rput l)
/-- the document's Over -/
def ostep (l : List (Int × Int)) (out : List (Int × Int)) (q : Int × Int) : List (Int × Int) := if rfind l q.1 < 0 then rput out q else out
def rover (l other : List (Int × Int)) : List (Int × Int) := other.foldl (ostep l) l

theorem puts_perm : ∀ (more l : List (Int × Int)), (more.foldl rput l).Perm (l ++ more)
  | [], l => by simp
  | p :: more, l => by
    rw [List.foldl_cons]
    refine (puts_perm more _).trans ?_
    rw [rput_ins]
    exact ((ins_perm p l).append_right more).trans (by simpa using (List.perm_middle (a := p) (l₁ := l) (l₂ := more)).symm)
theorem puts_sorted : ∀ (more l : List (Int × Int)), l.Pairwise (fun a b => a.1 ≤ b.1) → (more.foldl rput l).Pairwise (fun a b => a.1 ≤ b.1)
  | [], _, h => h
  | p :: more, l, h => by
    rw [List.foldl_cons]
    exact puts_sorted more _ (by rw [rput_ins]; exact ins_sorted p l h)
theorem rise_le {l : List (Int × Int)} (h : Rise l) : l.Pairwise fun a b => a.1 ≤ b.1 := h.imp (by intro a b h; omega)

theorem hid_prs (ls : List (List Row)) (c : Int) : hid ls c = true ↔ ∃ q ∈ prs ls, q.1 = c := by
  have h := find_prs c ls
  constructor
  · intro hh
    have hs : ∃ r, ls.flatten.find? (fun r => r.has c) = some r := by
      cases e : ls.flatten.find? (fun r => r.has c) with
      | some r => exact ⟨r, rfl⟩
      | none =>
        rw [List.find?_eq_none] at e
        simp only [hid, List.any_eq_true] at hh
        obtain ⟨rs, h1, r, h2, h3⟩ := hh
        exact absurd h3 (e r (List.mem_flatten.2 ⟨rs, h1, h2⟩))
    obtain ⟨r, hr⟩ := hs
    rw [hr] at h
    obtain ⟨h1, h2⟩ := find_some h
    exact ⟨_, h1, h2⟩
  · rintro ⟨q, h1, h2⟩
    cases e : ls.flatten.find? (fun r => r.has c) with
    | none =>
      rw [e] at h
      exact absurd h2 ((find_iff c).1 h q h1)
    | some r =>
      have h3 := List.mem_of_find?_eq_some e
      have h4 := List.find?_some e
      obtain ⟨rs, h5, h6⟩ := List.mem_flatten.1 h3
      simp only [hid, List.any_eq_true]
      exact ⟨rs, h5, r, h6, h4⟩
theorem hid_tab {ls : List (List Row)} {l : List (Int × Int)} (h : IsTab ls l) (c : Int) : hid ls c = decide (0 ≤ rfind l c) := by
  rw [Bool.eq_iff_iff, hid_prs]
  have h1 : (∃ q ∈ prs ls, q.1 = c) ↔ ∃ q ∈ l, q.1 = c := by
    constructor
    · rintro ⟨q, h1, h2⟩; exact ⟨q, h.2.mem_iff.2 h1, h2⟩
    · rintro ⟨q, h1, h2⟩; exact ⟨q, h.2.mem_iff.1 h1, h2⟩
  rw [h1]
  have h2 := rfind_neg l c
  simp only [decide_eq_true_eq]
  constructor
  · rintro ⟨q, h3, h4⟩
    refine Int.not_lt.1 fun h5 => ?_
    exact h2.1 h5 q h3 h4
  · intro h3
    refine Classical.byContradiction fun h4 => ?_
    have := h2.2 (fun q hq e => h4 ⟨q, hq, e⟩)
    omega

theorem over_puts (l : List (Int × Int)) : ∀ (other out : List (Int × Int)), other.foldl (ostep l) out = (other.filter fun q => decide (rfind l q.1 < 0)).foldl rput out
  | [], _ => rfl
  | q :: other, out => by
    rw [List.foldl_cons, over_puts l other, List.filter_cons]
    unfold ostep
    by_cases h : rfind l q.1 < 0 <;> simp [h]
theorem wf_append {ls ms : List (List Row)} (h1 : WF ls) (h2 : WF ms) : WF (ls ++ ms) where
  ok rs hrs := by
    rcases List.mem_append.1 hrs with h | h
    · exact h1.ok rs h
    · exact h2.ok rs h
  dis rs hrs := by
    rcases List.mem_append.1 hrs with h | h
    · exact h1.dis rs h
    · exact h2.dis rs h
theorem over_tab {ls ms : List (List Row)} {l m : List (Int × Int)} (w1 : WF ls) (w2 : WF ms) (h1 : IsTab ls l) (h2 : IsTab ms m) : IsTab (ls ++ ms) (rover l m) := by
  have hp : (rover l m).Perm (prs (ls ++ ms)) := by
    unfold rover
    rw [over_puts, prs_append]
    refine (puts_perm _ _).trans ?_
    refine h1.2.append ?_
    have e : (fun q : Int × Int => decide (rfind l q.1 < 0)) = fun q => !hid ls q.1 := by
      funext q
      rw [hid_tab h1, ← decide_not]
      congr 1
      rw [Int.not_le]
    rw [e]
    exact h2.2.filter _
  exact ⟨rise_of (by unfold rover; rw [over_puts]; exact puts_sorted _ _ (rise_le h1.1)) hp (prs_nodup _ (wf_append w1 w2)), hp⟩

/-- a piece -/
structure Piece where
  from' : Int
  to : Int
  count : Int
  text : List UInt8
def inRange (f c : Int) : Bool := decide (0 ≤ f ∧ 1 ≤ c ∧ c ≤ 1048576 ∧ f ≤ 1048576 - c)
def seqOk (t c : Int) : Bool := sc t && (sc (t + (c - 1)) && (decide (55296 ≤ t) || decide (t + (c - 1) ≤ 57343)))
/-- a piece's row; none: it may not be -/
def right (p : Piece) : Option Row :=
  if p.text = [] then (if inRange p.from' p.count && seqOk p.to p.count then some ⟨p.from', p.to, p.count, []⟩ else none)
  else if decide ((pts p.text).2 < 0) && inRange p.from' (pts p.text).1.length then some ⟨p.from', p.to, (pts p.text).1.length, (pts p.text).1⟩ else none
/-- the document's pairs of a piece -/
def rpiece (p : Piece) : Option (List (Int × Int)) :=
  if p.text ≠ [] then (if 0 ≤ (pts p.text).2 ∨ p.from' < 0 ∨ 1048576 - ((pts p.text).1.length : Int) < p.from' then none
    else some ((List.range (pts p.text).1.length).map fun (k : Nat) => (p.from' + (k : Int), (pts p.text).1.getD k 0)))
  else if p.from' < 0 ∨ p.count < 1 ∨ 1048576 < p.count ∨ 1048576 - p.count < p.from' ∨ sc p.to = false then none
  else if sc (p.to + p.count - 1) = false ∨ (p.to < 55296 ∧ 57343 < p.to + p.count - 1) then none
  else some ((List.range p.count.toNat).map fun (k : Nat) => (p.from' + (k : Int), p.to + (k : Int)))
theorem pts_ne {l : List UInt8} (h : l ≠ []) (h2 : (pts l).2 < 0) : (pts l).1 ≠ [] := by
  rcases pts_cases l with ⟨ps, h3, rfl, h4⟩ | ⟨ps, r, h3, h4⟩
  · rw [h4]
    intro e
    simp only at e
    subst e
    exact h rfl
  · exfalso
    obtain ⟨h5, h6, h7, h8⟩ := h4
    rw [h8] at h2
    simp only at h2
    omega
theorem prs_free (r : Row) : (r.prs fun _ => false) = (List.range r.count.toNat).map fun (k : Nat) => (r.from' + (k : Int), r.at (r.from' + (k : Int))) := by
  unfold Row.prs Row.cs
  rw [List.filter_eq_self.2 (by simp), List.map_map]
  rfl
theorem right_some {p : Piece} {r : Row} (hr : right p = some r) : r.Ok ∧ rpiece p = some (r.prs fun _ => false) := by
  obtain ⟨f, t, c, s⟩ := p
  unfold right at hr
  simp only at hr
  by_cases hs : s = []
  · rw [if_pos hs] at hr
    by_cases hc : (inRange f c && seqOk t c) = true
    · rw [if_pos hc] at hr
      cases hr
      simp only [inRange, seqOk, Bool.and_eq_true, Bool.or_eq_true, decide_eq_true_eq] at hc
      obtain ⟨⟨h1, h2, h3, h4⟩, h5, h6, h7⟩ := hc
      have s5 := (sc_iff _).1 h5
      have s6 := (sc_iff _).1 h6
      refine ⟨⟨h1, by simp only; omega, h2, fun _ => by simp only; omega, fun _ => by simp only; omega, fun h => absurd rfl h⟩, ?_⟩
      unfold rpiece
      simp only [hs, ne_eq, not_true, if_false]
      have e1 : t + c - 1 = t + (c - 1) := by omega
      rw [e1, if_neg (by rw [h5]; simp; omega), if_neg (by rw [h6]; simp; omega), prs_free]
      congr 1
      apply List.map_congr_left
      intro k _
      simp only [Row.at, if_true]
      congr 1
      omega
    · rw [if_neg hc] at hr; cases hr
  · rw [if_neg hs] at hr
    by_cases hc : (decide ((pts s).2 < 0) && inRange f (pts s).1.length) = true
    · rw [if_pos hc] at hr
      cases hr
      simp only [inRange, Bool.and_eq_true, decide_eq_true_eq] at hc
      obtain ⟨h0, h1, h2, h3, h4⟩ := hc
      have hne := pts_ne hs h0
      refine ⟨⟨h1, by simp only; omega, h2, fun h => absurd h hne, fun h => absurd h hne, fun _ => rfl⟩, ?_⟩
      unfold rpiece
      simp only [ne_eq, hs, not_false_eq_true, if_true]
      rw [if_neg (by omega), prs_free]
      congr 1
      simp only [Int.toNat_natCast]
      apply List.map_congr_left
      intro k _
      simp only [Row.at, if_neg hne]
      congr 2
      omega
    · rw [if_neg hc] at hr; cases hr
theorem right_none {p : Piece} (hr : right p = none) : rpiece p = none := by
  obtain ⟨f, t, c, s⟩ := p
  unfold right at hr
  simp only at hr
  unfold rpiece
  simp only
  by_cases hs : s = []
  · rw [if_pos hs] at hr
    rw [if_neg (by simpa using hs)]
    by_cases hc : (inRange f c && seqOk t c) = true
    · rw [if_pos hc] at hr; cases hr
    · have e1 : t + c - 1 = t + (c - 1) := by omega
      rw [e1]
      by_cases h1 : f < 0 ∨ c < 1 ∨ 1048576 < c ∨ 1048576 - c < f ∨ sc t = false
      · rw [if_pos h1]
      · rw [if_neg h1, if_pos]
        simp only [inRange, seqOk, Bool.and_eq_true, Bool.or_eq_true, decide_eq_true_eq] at hc
        have h2 : sc t = true := by
          cases h : sc t
          · exact absurd (.inr (.inr (.inr (.inr h)))) h1
          · rfl
        cases h3 : sc (t + (c - 1))
        · exact .inl rfl
        · refine .inr ?_
          refine Classical.byContradiction fun h4 => hc ⟨by omega, h2, h3, by omega⟩
  · rw [if_neg hs] at hr
    rw [if_pos hs]
    by_cases hc : (decide ((pts s).2 < 0) && inRange f (pts s).1.length) = true
    · rw [if_pos hc] at hr; cases hr
    · rw [if_pos]
      simp only [inRange, Bool.and_eq_true, decide_eq_true_eq] at hc
      refine Classical.byContradiction fun h4 => hc ?_
      have h0 : (pts s).2 < 0 := by omega
      have := pts_ne hs h0
      have h5 : 0 < (pts s).1.length := by
        cases e : (pts s).1 with
        | nil => exact absurd e this
        | cons => simp
      omega

/-- Go's New -/
def newL (rs : List Row) (i : Int) : List Piece → List Row × Int
  | [] => (rs, -1)
  | p :: ps => match right p with
    | none => ([], i)
    | some r => if rs.all (fun x => r.apart x) then newL (rs ++ [r]) (i + 1) ps else ([], i)
/-- the document's pairs of pieces -/
def madeL (l : List (Int × Int)) (i : Int) : List Piece → List (Int × Int) × Int
  | [] => (l, -1)
  | p :: ps => match rpiece p with
    | none => ([], i)
    | some more => match rjoin l more with
      | none => ([], i)
      | some l' => madeL l' (i + 1) ps
def lv (o : List Row × Int) : List (List Row) := if o.2 < 0 then [o.1] else []
theorem newL_neg : ∀ (ps : List Piece) (rs : List Row) (i : Int), 0 ≤ i → (newL rs i ps).2 = -1 ∨ 0 ≤ (newL rs i ps).2 ∧ (newL rs i ps).2 < i + ps.length
  | [], _, _, _ => .inl rfl
  | p :: ps, rs, i, hi => by
    unfold newL
    split
    · right; simp; omega
    · split
      · rcases newL_neg ps _ (i + 1) (by omega) with h | h
        · exact .inl h
        · right; rw [List.length_cons]; omega
      · right; simp; omega
theorem wf_nil : WF [] := ⟨by simp, by simp⟩
theorem tab_nil : IsTab [] [] := ⟨List.Pairwise.nil, List.Perm.refl _⟩
theorem made_new : ∀ (ps : List Piece) (rs : List Row) (l : List (Int × Int)) (i : Int), 0 ≤ i → WF [rs] → IsTab [rs] l →
    (madeL l i ps).2 = (newL rs i ps).2 ∧ WF (lv (newL rs i ps)) ∧ IsTab (lv (newL rs i ps)) (madeL l i ps).1
  | [], rs, l, i, _, hw, ht => ⟨rfl, hw, ht⟩
  | p :: ps, rs, l, i, hi, hw, ht => by
    unfold madeL newL
    cases hr : right p with
    | none =>
      rw [right_none hr]
      simp only [lv]
      rw [if_neg (by omega)]
      exact ⟨trivial, wf_nil, tab_nil⟩
    | some r =>
      obtain ⟨ho, hp⟩ := right_some hr
      rw [hp]
      simp only
      have hany : (r.prs fun _ => false).any (fun q => decide (0 ≤ rfind l q.1)) = !rs.all (fun x => r.apart x) := by
        rw [Bool.eq_iff_iff]
        simp only [List.any_eq_true, Bool.not_eq_true', List.all_eq_false, decide_eq_true_eq]
        constructor
        · rintro ⟨q, h1, h2⟩
          have h3 : hid [rs] q.1 = true := by rw [hid_tab ht]; simpa using h2
          simp only [hid, List.any_cons, List.any_nil, Bool.or_false, List.any_eq_true] at h3
          obtain ⟨x, hx, h4⟩ := h3
          refine ⟨x, hx, fun h5 => ?_⟩
          have h6 := apart_has h5 h4
          have h7 : q.1 ∈ (r.prs fun _ => false).map (·.1) := List.mem_map_of_mem h1
          rw [prs_fst, List.mem_filter] at h7
          rw [(r.mem_cs _).1 h7.1] at h6
          exact absurd h6 (by decide)
        · rintro ⟨x, hx, h1⟩
          obtain ⟨c, h2, h3⟩ := has_apart ho (hw.ok rs (by simp) x hx) (by simpa using h1)
          refine ⟨(c, r.at c), ?_, ?_⟩
          · unfold Row.prs
            rw [List.filter_eq_self.2 (by simp)]
            exact List.mem_map_of_mem ((r.mem_cs c).2 h3)
          · have h4 : hid [rs] c = true := by
              simp only [hid, List.any_cons, List.any_nil, Bool.or_false, List.any_eq_true]
              exact ⟨x, hx, h2⟩
            rw [hid_tab ht] at h4
            simpa using h4
      unfold rjoin
      rw [hany]
      by_cases hall : rs.all (fun x => r.apart x) = true
      · rw [hall]
        simp only [Bool.not_true, Bool.false_eq_true, if_false, if_true]
        refine made_new ps (rs ++ [r]) _ (i + 1) (by omega) ?_ ?_
        · refine ⟨?_, ?_⟩
          · intro x hx y hy
            obtain rfl := List.mem_singleton.1 hx
            rcases List.mem_append.1 hy with hy | hy
            · exact hw.ok rs (by simp) y hy
            · rw [List.mem_singleton.1 hy]; exact ho
          · intro x hx
            obtain rfl := List.mem_singleton.1 hx
            rw [List.pairwise_append]
            refine ⟨hw.dis rs (by simp), by simp, ?_⟩
            intro x hx y hy
            rw [List.mem_singleton.1 hy]
            exact List.all_eq_true.1 hall x hx
        · have hpm : ((r.prs fun _ => false).foldl rput l).Perm (prs [rs ++ [r]]) := by
            refine (puts_perm _ _).trans ?_
            rw [prs_one]
            have e : prsRows (fun _ => false) (rs ++ [r]) = prs [rs] ++ r.prs fun _ => false := by
              rw [prs_one]; simp [prsRows]
            rw [e]
            exact ht.2.append_right _
          refine ⟨rise_of (puts_sorted _ _ (rise_le ht.1)) hpm (prs_nodup _ ?_), hpm⟩
          refine ⟨?_, ?_⟩
          · intro x hx y hy
            obtain rfl := List.mem_singleton.1 hx
            rcases List.mem_append.1 hy with hy | hy
            · exact hw.ok rs (by simp) y hy
            · rw [List.mem_singleton.1 hy]; exact ho
          · intro x hx
            obtain rfl := List.mem_singleton.1 hx
            rw [List.pairwise_append]
            refine ⟨hw.dis rs (by simp), by simp, ?_⟩
            intro x hx y hy
            rw [List.mem_singleton.1 hy]
            exact List.all_eq_true.1 hall x hx
      · have hall' : rs.all (fun x => r.apart x) = false := by simpa using hall
        rw [hall']
        simp only [Bool.not_false, if_true, Bool.false_eq_true, if_false, lv]
        rw [if_neg (by omega)]
        exact ⟨trivial, wf_nil, tab_nil⟩
theorem made_ok (ps : List Piece) : (madeL [] 0 ps).2 = (newL [] 0 ps).2 ∧ WF (lv (newL [] 0 ps)) ∧ IsTab (lv (newL [] 0 ps)) (madeL [] 0 ps).1 := by
  refine made_new ps [] [] 0 (by omega) ?_ ?_
  · exact ⟨by intro x hx y hy; obtain rfl := List.mem_singleton.1 hx; simp at hy, by intro x hx; obtain rfl := List.mem_singleton.1 hx; exact List.Pairwise.nil⟩
  · exact ⟨List.Pairwise.nil, by rw [prs_one]; exact List.Perm.refl _⟩
end Go.Proofs.Dia
