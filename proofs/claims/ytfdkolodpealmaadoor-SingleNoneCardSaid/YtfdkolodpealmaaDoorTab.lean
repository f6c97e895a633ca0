/- PLAIN LAWS ON TABLES OF CODES: rows, levels, their pairs, and the document's lists of pairs by rising codes. -/
import Derived.Test.YtfdkolodpealmaaDoorUtf
namespace Go.Proofs.Dia

/-- a row of codes -/
structure Row where
  from' : Int
  to : Int
  count : Int
  list : List Int
def Row.has (r : Row) (code : Int) : Bool := decide (r.from' ≤ code) && decide (code - r.from' < r.count)
def Row.at (r : Row) (code : Int) : Int := if r.list = [] then r.to + (code - r.from') else r.list.getD (code - r.from').toNat 0
/-- a row that may be -/
structure Row.Ok (r : Row) : Prop where
  f0 : 0 ≤ r.from'
  f1 : r.from' + r.count ≤ 1048576
  c0 : 1 ≤ r.count
  t0 : r.list = [] → 0 ≤ r.to
  t1 : r.list = [] → r.to + (r.count - 1) ≤ 1114111
  l : r.list ≠ [] → (r.list.length : Int) = r.count
/-- a row's codes -/
def Row.cs (r : Row) : List Int := (List.range r.count.toNat).map fun (k : Nat) => r.from' + (k : Int)
theorem Row.mem_cs (r : Row) (c : Int) : c ∈ r.cs ↔ r.has c = true := by
  simp only [Row.cs, Row.has, List.mem_map, List.mem_range, Bool.and_eq_true, decide_eq_true_eq]
  constructor
  · rintro ⟨k, hk, rfl⟩; omega
  · rintro ⟨h1, h2⟩; exact ⟨(c - r.from').toNat, by omega, by omega⟩
def Row.prs (h : Int → Bool) (r : Row) : List (Int × Int) := (r.cs.filter fun c => !h c).map fun c => (c, r.at c)
def hid (ls : List (List Row)) (c : Int) : Bool := ls.any fun rs => rs.any fun r => r.has c
def prsRows (h : Int → Bool) (rs : List Row) : List (Int × Int) := rs.flatMap (Row.prs h)
def prsTo (ls : List (List Row)) : Nat → List (Int × Int)
  | 0 => []
  | i + 1 => prsTo ls i ++ prsRows (hid (ls.take i)) (ls.getD i [])
/-- a table's pairs, level by level -/
def prs (ls : List (List Row)) : List (Int × Int) := prsTo ls ls.length

theorem hid_append (a b : List (List Row)) (c : Int) : hid (a ++ b) c = (hid a c || hid b c) := by simp [hid]
theorem prsRows_or (h g : Int → Bool) (rs : List Row) : prsRows (fun c => h c || g c) rs = (prsRows g rs).filter fun q => !h q.1 := by
  unfold prsRows
  rw [List.filter_flatMap]
  congr 1
  funext r
  unfold Row.prs
  rw [List.filter_map, List.filter_filter]
  congr 1
  apply List.filter_congr
  intro c _
  simp
theorem getD_left {α : Type} {d : α} (a b : List α) {i : Nat} (h : i < a.length) : (a ++ b).getD i d = a.getD i d := by
  rw [List.getD_eq_getElem?_getD, List.getElem?_append_left h, List.getD_eq_getElem?_getD]
theorem getD_right {α : Type} {d : α} (a b : List α) (j : Nat) : (a ++ b).getD (a.length + j) d = b.getD j d := by
  rw [List.getD_eq_getElem?_getD, List.getElem?_append_right (by omega), List.getD_eq_getElem?_getD]
  congr 2; omega
theorem prsTo_append (ls ms : List (List Row)) : ∀ j, j ≤ ms.length → prsTo (ls ++ ms) (ls.length + j) = prs ls ++ (prsTo ms j).filter fun q => !hid ls q.1
  | 0, _ => by
    have : ∀ i, i ≤ ls.length → prsTo (ls ++ ms) i = prsTo ls i := by
      intro i
      induction i with
      | zero => intro _; rfl
      | succ i ih =>
        intro hi
        simp only [prsTo]
        rw [ih (by omega), List.take_append_of_le_length (by omega), getD_left _ _ (by omega)]
    simp [prsTo, prs, this]
  | j + 1, hj => by
    have e : ls.length + (j + 1) = (ls.length + j) + 1 := by omega
    rw [e]
    simp only [prsTo]
    rw [prsTo_append ls ms j (by omega), List.filter_append, List.append_assoc]
    congr 2
    have e1 : (ls ++ ms).take (ls.length + j) = ls ++ ms.take j := by rw [List.take_length_add_append]
    have e2 : (ls ++ ms).getD (ls.length + j) [] = ms.getD j [] := by
      exact getD_right ls ms j
    rw [e1, e2, ← prsRows_or]
    congr 1
    funext c
    exact hid_append _ _ _
theorem prs_append (ls ms : List (List Row)) : prs (ls ++ ms) = prs ls ++ (prs ms).filter fun q => !hid ls q.1 := by
  unfold prs
  rw [List.length_append, prsTo_append ls ms _ (Nat.le_refl _)]
  rfl
theorem prs_one (rs : List Row) : prs [rs] = prsRows (fun _ => false) rs := by
  simp [prs, prsTo]
  congr 1
theorem prs_nil : prs [] = [] := rfl
theorem prs_cons (rs : List Row) (ls : List (List Row)) : prs (rs :: ls) = prsRows (fun _ => false) rs ++ (prs ls).filter fun q => !hid [rs] q.1 := by
  have := prs_append [rs] ls
  rw [prs_one] at this
  exact this

/-- a code's sign -/
def fwd (ls : List (List Row)) (code : Int) : Int × Bool :=
  match ls.flatten.find? (fun r => r.has code) with
  | some r => (r.at code, true)
  | none => (0, false)
theorem find_row (r : Row) (c : Int) : (r.prs fun _ => false).find? (fun q => q.1 == c) = if r.has c then some (c, r.at c) else none := by
  have e : r.prs (fun _ => false) = r.cs.map fun c => (c, r.at c) := by
    unfold Row.prs
    rw [List.filter_eq_self.2 (by simp)]
  rw [e]
  by_cases h : r.has c = true
  · rw [if_pos h]
    have hm := (r.mem_cs c).2 h
    generalize r.cs = l at hm
    induction l with
    | nil => simp at hm
    | cons x l ih =>
      rw [List.map_cons, List.find?_cons]
      by_cases hx : x = c
      · subst hx; simp
      · have : ((x, r.at x).1 == c) = false := by simpa using hx
        rw [this]
        rcases List.mem_cons.1 hm with h1 | h1
        · exact absurd h1.symm hx
        · exact ih h1
  · rw [if_neg h, List.find?_eq_none]
    intro q hq
    obtain ⟨x, hx, rfl⟩ := List.mem_map.1 hq
    simp only [beq_iff_eq]
    intro hc
    subst hc
    exact h ((r.mem_cs _).1 hx)
theorem find_rows (c : Int) : ∀ (rs : List Row), (prsRows (fun _ => false) rs).find? (fun q => q.1 == c) = (rs.find? fun r => r.has c).map fun r => (c, r.at c)
  | [] => rfl
  | r :: rs => by
    have e : prsRows (fun _ => false) (r :: rs) = r.prs (fun _ => false) ++ prsRows (fun _ => false) rs := by simp [prsRows]
    rw [e, List.find?_append, find_row, find_rows c rs, List.find?_cons]
    by_cases h : r.has c = true
    · rw [if_pos h, h]; rfl
    · rw [if_neg h]
      have : r.has c = false := by simpa using h
      rw [this]; rfl
theorem find_prs (c : Int) : ∀ (ls : List (List Row)), (prs ls).find? (fun q => q.1 == c) = (ls.flatten.find? fun r => r.has c).map fun r => (c, r.at c)
  | [] => rfl
  | rs :: ls => by
    rw [prs_cons, List.find?_append, find_rows, List.flatten_cons, List.find?_append, List.find?_filter]
    cases h : rs.find? (fun r => r.has c) with
    | some r => rfl
    | none =>
      have hn : hid [rs] c = false := by
        rw [List.find?_eq_none] at h
        simp only [hid, List.any_cons, List.any_nil, Bool.or_false]
        rw [List.any_eq_false]
        intro r hr; simpa using h r hr
      have e : (fun q : Int × Int => decide ((!hid [rs] q.1) = true ∧ (q.1 == c) = true)) = fun q => q.1 == c := by
        funext q
        by_cases hq : q.1 = c
        · rw [hq, hn]; simp
        · have : (q.1 == c) = false := by simpa using hq
          rw [this]; simp
      rw [e, find_prs c ls]
      simp
theorem fwd_prs (ls : List (List Row)) (c : Int) : fwd ls c = match (prs ls).find? (fun q => q.1 == c) with | some q => (q.2, true) | none => (0, false) := by
  unfold fwd
  rw [find_prs]
  cases ls.flatten.find? (fun r => r.has c) <;> rfl

/-- the codes, from one on, of a sign in listed signs -/
def codesL (f : Int) : List Int → Int → List Int
  | [], _ => []
  | x :: l, p => if x = p then f :: codesL (f + 1) l p else codesL (f + 1) l p
def Row.codes (r : Row) (p : Int) : List Int :=
  if r.list = [] then (if p < r.to ∨ r.to + (r.count - 1) < p then [] else [r.from' + (p - r.to)]) else codesL r.from' r.list p
theorem codesL_eq (p : Int) : ∀ (l : List Int) (f : Int), codesL f l p = ((List.range l.length).filter fun k => l.getD k 0 == p).map fun (k : Nat) => f + (k : Int)
  | [], f => rfl
  | x :: l, f => by
    have ih := codesL_eq p l (f + 1)
    rw [List.length_cons, List.range_succ_eq_map, List.filter_cons]
    simp only [codesL]
    have e : ((List.map Nat.succ (List.range l.length)).filter fun k => (x :: l).getD k 0 == p).map (fun (k : Nat) => f + (k : Int)) = codesL (f + 1) l p := by
      rw [ih, List.filter_map, List.map_map]
      have e1 : ((fun k => (x :: l).getD k 0 == p) ∘ Nat.succ) = fun k => l.getD k 0 == p := by funext k; simp
      rw [e1]
      apply List.map_congr_left
      intro k _
      simp only [Function.comp_apply, Nat.succ_eq_add_one]
      omega
    by_cases h : x = p
    · rw [if_pos h, if_pos (by simpa using h), List.map_cons, e]; simp
    · rw [if_neg h, if_neg (by simpa using h), e]
theorem range_filter_one (n k : Nat) (h : k < n) : (List.range n).filter (fun j => j == k) = [k] := by
  induction n with
  | zero => omega
  | succ n ih =>
    rw [List.range_succ, List.filter_append]
    by_cases hk : k = n
    · subst hk
      rw [List.filter_eq_nil_iff.2 (by intro j hj; have := List.mem_range.1 hj; simp; omega)]
      simp
    · rw [ih (by omega)]
      have : (n == k) = false := by simp; omega
      simp [this]
theorem codes_eq (r : Row) (ho : r.Ok) (p : Int) : r.codes p = r.cs.filter fun c => r.at c == p := by
  unfold Row.codes Row.cs
  rw [List.filter_map]
  have hf : ∀ k : Nat, (r.from' + (k : Int) - r.from') = (k : Int) := by intro k; omega
  by_cases hl : r.list = []
  · rw [if_pos hl]
    have e : ((fun c => r.at c == p) ∘ fun (k : Nat) => r.from' + (k : Int)) = fun k : Nat => r.to + (k : Int) == p := by
      funext k; simp [Row.at, hl, hf]
    rw [e]
    have hc := ho.c0
    by_cases ho2 : p < r.to ∨ r.to + (r.count - 1) < p
    · rw [if_pos ho2, List.filter_eq_nil_iff.2]
      · rfl
      · intro k hk; have := List.mem_range.1 hk; simp; omega
    · rw [if_neg ho2]
      have e2 : (List.range r.count.toNat).filter (fun k : Nat => r.to + (k : Int) == p) = [(p - r.to).toNat] := by
        rw [← range_filter_one r.count.toNat (p - r.to).toNat (by omega)]
        apply List.filter_congr
        intro k _
        rw [Bool.eq_iff_iff]; simp; omega
      rw [e2]
      simp only [List.map_cons, List.map_nil]
      congr 1
      omega
  · rw [if_neg hl, codesL_eq]
    have hlen := ho.l hl
    have e : r.count.toNat = r.list.length := by omega
    rw [e]
    have e1 : ((fun c => r.at c == p) ∘ fun (k : Nat) => r.from' + (k : Int)) = fun k : Nat => r.list.getD k 0 == p := by
      funext k; simp [Row.at, hl, hf]
    rw [e1]

/-- the least so far -/
def ms (s : Int × Bool) (c : Int) : Int × Bool := if !s.2 || decide (c < s.1) then (c, true) else s
/-- Go's step: the least so far, if the code isn't hidden -/
def step (h : Int → Bool) (s : Int × Bool) (c : Int) : Int × Bool := if (!s.2 || decide (c < s.1)) && !h c then (c, true) else s
theorem step_ms (h : Int → Bool) (s : Int × Bool) (c : Int) : step h s c = if !h c then ms s c else s := by
  unfold step ms
  cases h c <;> simp
theorem foldl_step (h : Int → Bool) : ∀ (l : List Int) (s : Int × Bool), l.foldl (step h) s = (l.filter fun c => !h c).foldl ms s
  | [], s => rfl
  | c :: l, s => by
    rw [List.foldl_cons, foldl_step h l, step_ms, List.filter_cons]
    split <;> simp_all
def revRow (h : Int → Bool) (p : Int) (s : Int × Bool) (r : Row) : Int × Bool := (r.codes p).foldl (step h) s
def revTo (ls : List (List Row)) (p : Int) : Nat → Int × Bool
  | 0 => (0, false)
  | i + 1 => (ls.getD i []).foldl (revRow (hid (ls.take i)) p) (revTo ls p i)
def rev (ls : List (List Row)) (p : Int) : Int × Bool := revTo ls p ls.length
/-- a list's codes of a sign -/
def cof (l : List (Int × Int)) (p : Int) : List Int := (l.filter fun q => q.2 == p).map (·.1)
theorem cof_append (a b : List (Int × Int)) (p : Int) : cof (a ++ b) p = cof a p ++ cof b p := by simp [cof]
theorem revRow_eq (h : Int → Bool) (p : Int) (s : Int × Bool) (r : Row) (ho : r.Ok) : revRow h p s r = (cof (r.prs h) p).foldl ms s := by
  unfold revRow
  rw [foldl_step, codes_eq r ho]
  congr 1
  unfold cof Row.prs
  rw [List.filter_map, List.map_map, List.filter_filter, List.filter_filter]
  have : ((fun x : Int × Int => x.1) ∘ fun c => (c, r.at c)) = id := rfl
  rw [this, List.map_id]
  apply List.filter_congr
  intro c _
  simp [Bool.and_comm]
theorem revRows_eq (h : Int → Bool) (p : Int) : ∀ (rs : List Row) (s : Int × Bool), (∀ r ∈ rs, r.Ok) → rs.foldl (revRow h p) s = (cof (prsRows h rs) p).foldl ms s
  | [], s, _ => rfl
  | r :: rs, s, ho => by
    have e : prsRows h (r :: rs) = r.prs h ++ prsRows h rs := by simp [prsRows]
    rw [List.foldl_cons, revRows_eq h p rs _ (fun x hx => ho x (by simp [hx])), revRow_eq h p s r (ho r (by simp)), e, cof_append, List.foldl_append]
theorem revTo_eq (ls : List (List Row)) (p : Int) (ho : ∀ rs ∈ ls, ∀ r ∈ rs, r.Ok) : ∀ i, i ≤ ls.length → revTo ls p i = (cof (prsTo ls i) p).foldl ms (0, false)
  | 0, _ => rfl
  | i + 1, hi => by
    simp only [revTo, prsTo]
    rw [revTo_eq ls p ho i (by omega), cof_append, List.foldl_append, revRows_eq]
    intro r hr
    have e : ls.getD i [] = ls[i] := by simp [List.getD_eq_getElem?_getD, show i < ls.length by omega]
    rw [e] at hr
    exact ho _ (List.getElem_mem _) r hr
theorem ms_true : ∀ (l : List Int) (m : Int), ∃ k, l.foldl ms (m, true) = (k, true) ∧ (k = m ∨ k ∈ l) ∧ k ≤ m ∧ ∀ x ∈ l, k ≤ x
  | [], m => ⟨m, rfl, .inl rfl, Int.le_refl _, by simp⟩
  | c :: l, m => by
    rw [List.foldl_cons]
    by_cases h : c < m
    · have e : ms (m, true) c = (c, true) := by simp [ms, h]
      rw [e]
      obtain ⟨k, h1, h2, h3, h4⟩ := ms_true l c
      refine ⟨k, h1, ?_, by omega, ?_⟩
      · rcases h2 with h2 | h2
        · exact .inr (by simp [h2])
        · exact .inr (by simp [h2])
      · intro x hx
        rcases List.mem_cons.1 hx with hx | hx
        · omega
        · exact h4 x hx
    · have e : ms (m, true) c = (m, true) := by simp [ms, h]
      rw [e]
      obtain ⟨k, h1, h2, h3, h4⟩ := ms_true l m
      refine ⟨k, h1, ?_, h3, ?_⟩
      · rcases h2 with h2 | h2
        · exact .inl h2
        · exact .inr (by simp [h2])
      · intro x hx
        rcases List.mem_cons.1 hx with hx | hx
        · omega
        · exact h4 x hx
theorem ms_none (l : List Int) : (l = [] ∧ l.foldl ms (0, false) = (0, false)) ∨ ∃ k, l.foldl ms (0, false) = (k, true) ∧ k ∈ l ∧ ∀ x ∈ l, k ≤ x := by
  cases l with
  | nil => exact .inl ⟨rfl, rfl⟩
  | cons c l =>
    have e : ms (0, false) c = (c, true) := by simp [ms]
    rw [List.foldl_cons, e]
    obtain ⟨k, h1, h2, h3, h4⟩ := ms_true l c
    refine .inr ⟨k, h1, ?_, ?_⟩
    · rcases h2 with h2 | h2 <;> simp [h2]
    · intro x hx
      rcases List.mem_cons.1 hx with hx | hx
      · omega
      · exact h4 x hx

/-- pairs by rising codes -/
def Rise (l : List (Int × Int)) : Prop := l.Pairwise fun a b => a.1 < b.1
/-- the table's pairs, by rising codes -/
def IsTab (ls : List (List Row)) (l : List (Int × Int)) : Prop := Rise l ∧ l.Perm (prs ls)
theorem rise_find {l : List (Int × Int)} (h : Rise l) {q : Int × Int} (hq : q ∈ l) : l.find? (fun x => x.1 == q.1) = some q := by
  induction l with
  | nil => simp at hq
  | cons x l ih =>
    rw [List.find?_cons]
    obtain ⟨h1, h2⟩ := List.pairwise_cons.1 h
    rcases List.mem_cons.1 hq with rfl | hq
    · simp
    · have := h1 q hq
      have e : (x.1 == q.1) = false := by simp; omega
      rw [e]
      exact ih h2 hq
theorem find_iff {l : List (Int × Int)} (c : Int) : (l.find? fun x => x.1 == c) = none ↔ ∀ q ∈ l, q.1 ≠ c := by
  rw [List.find?_eq_none]; simp
theorem find_some {l : List (Int × Int)} {c : Int} {q : Int × Int} (h : (l.find? fun x => x.1 == c) = some q) : q ∈ l ∧ q.1 = c :=
  ⟨List.mem_of_find?_eq_some h, by simpa using List.find?_some h⟩
theorem nodup_of_rise {l : List (Int × Int)} (h : Rise l) : (l.map (·.1)).Nodup := by
  rw [List.nodup_iff_pairwise_ne, List.pairwise_map]
  exact h.imp (by intro a b h1; omega)
/-- in a list without two pairs of one code: what is found at a code -/
theorem find_nodup {l m : List (Int × Int)} (hp : l.Perm m) (hn : (l.map (·.1)).Nodup) (c : Int) : (l.find? fun x => x.1 == c) = (m.find? fun x => x.1 == c) := by
  have hn' : (m.map (·.1)).Nodup := (hp.map _).nodup_iff.1 hn
  have key : ∀ {k : List (Int × Int)}, (k.map (·.1)).Nodup → ∀ q ∈ k, (k.find? fun x => x.1 == q.1) = some q := by
    intro k hk q hq
    induction k with
    | nil => simp at hq
    | cons x k ih =>
      rw [List.map_cons, List.nodup_cons] at hk
      rw [List.find?_cons]
      rcases List.mem_cons.1 hq with rfl | hq
      · simp
      · have e : (x.1 == q.1) = false := by
          have : x.1 ≠ q.1 := fun e => hk.1 (by rw [e]; exact List.mem_map_of_mem hq)
          simpa using this
        rw [e]
        exact ih hk.2 hq
  cases h : m.find? (fun x => x.1 == c) with
  | none =>
    rw [find_iff] at h ⊢
    intro q hq
    exact h q (hp.mem_iff.1 hq)
  | some q =>
    obtain ⟨h1, rfl⟩ := find_some h
    exact key hn q (hp.mem_iff.2 h1)
theorem fwd_tab {ls : List (List Row)} {l : List (Int × Int)} (h : IsTab ls l) (c : Int) : fwd ls c = match l.find? (fun q => q.1 == c) with | some q => (q.2, true) | none => (0, false) := by
  rw [fwd_prs, find_nodup h.2 (nodup_of_rise h.1)]
theorem rev_tab {ls : List (List Row)} {l : List (Int × Int)} (h : IsTab ls l) (ho : ∀ rs ∈ ls, ∀ r ∈ rs, r.Ok) (p : Int) :
    rev ls p = match l.find? (fun q => q.2 == p) with | some q => (q.1, true) | none => (0, false) := by
  unfold rev
  rw [revTo_eq ls p ho _ (Nat.le_refl _)]
  change ((cof (prs ls) p).foldl ms (0, false)) = _
  have hm : ∀ x, x ∈ cof (prs ls) p ↔ x ∈ cof l p := fun x => ((h.2.filter _).map _).mem_iff.symm
  have hmem : ∀ x, x ∈ cof l p ↔ ∃ q ∈ l, q.2 = p ∧ q.1 = x := by
    intro x
    simp only [cof, List.mem_map, List.mem_filter, beq_iff_eq]
    constructor
    · rintro ⟨q, ⟨h1, h2⟩, h3⟩; exact ⟨q, h1, h2, h3⟩
    · rintro ⟨q, h1, h2, h3⟩; exact ⟨q, ⟨h1, h2⟩, h3⟩
  rcases ms_none (cof (prs ls) p) with ⟨h1, h2⟩ | ⟨k, h1, h2, h3⟩
  · rw [h2]
    have hn : l.find? (fun q => q.2 == p) = none := by
      rw [List.find?_eq_none]
      intro q hq
      simp only [beq_iff_eq]
      intro e
      have : q.1 ∈ cof (prs ls) p := (hm _).2 ((hmem _).2 ⟨q, hq, e, rfl⟩)
      rw [h1] at this; simp at this
    rw [hn]
  · rw [h1]
    obtain ⟨q, q1, q2, q3⟩ := (hmem k).1 ((hm k).1 h2)
    have least : ∀ x ∈ l, x.2 = p → k ≤ x.1 := fun x hx e => h3 _ ((hm _).2 ((hmem _).2 ⟨x, hx, e, rfl⟩))
    have hr := h.1
    clear h1 h2 h3 hm hmem h
    have : l.find? (fun q => q.2 == p) = some q := by
      induction l with
      | nil => simp at q1
      | cons x l ih =>
        rw [List.find?_cons]
        obtain ⟨r1, r2⟩ := List.pairwise_cons.1 hr
        by_cases e : x.2 = p
        · have : (x.2 == p) = true := by simpa using e
          rw [this]
          rcases List.mem_cons.1 q1 with rfl | q1
          · rfl
          · have := r1 q q1
            have := least x (by simp) e
            omega
        · have e' : (x.2 == p) = false := by simpa using e
          rw [e']
          rcases List.mem_cons.1 q1 with rfl | q1
          · exact absurd q2 e
          · exact ih q1 (fun x hx => least x (by simp [hx])) r2
    rw [this]
    simp [q3]

/-- of two rows: no code in both -/
def Row.apart (r x : Row) : Bool := decide (r.from' ≥ x.from' + x.count) || decide (x.from' ≥ r.from' + r.count)
theorem apart_has {r x : Row} (h : r.apart x = true) {c : Int} (h1 : x.has c = true) : r.has c = false := by
  simp only [Row.apart, Row.has, Bool.or_eq_true, Bool.and_eq_true, decide_eq_true_eq] at *
  rw [Bool.and_eq_false_iff]
  simp only [decide_eq_false_iff_not]
  omega
theorem has_apart {r x : Row} (hr : r.Ok) (hx : x.Ok) (h : r.apart x = false) : ∃ c, x.has c = true ∧ r.has c = true := by
  have a := hr.c0
  have b := hx.c0
  simp only [Row.apart, Bool.or_eq_false_iff, decide_eq_false_iff_not] at h
  simp only [Row.has, Bool.and_eq_true, decide_eq_true_eq]
  by_cases e : r.from' ≤ x.from'
  · exact ⟨x.from', by omega, by omega⟩
  · exact ⟨r.from', by omega, by omega⟩
/-- levels of rows that may be: no code twice in a level -/
structure WF (ls : List (List Row)) : Prop where
  ok : ∀ rs ∈ ls, ∀ r ∈ rs, r.Ok
  dis : ∀ rs ∈ ls, rs.Pairwise fun x r => r.apart x = true
theorem cs_nodup (r : Row) : r.cs.Nodup := by
  unfold Row.cs
  rw [List.nodup_iff_pairwise_ne, List.pairwise_map]
  exact List.nodup_range.imp (by intro a b h; omega)
theorem prs_fst (h : Int → Bool) (r : Row) : (r.prs h).map (·.1) = r.cs.filter fun c => !h c := by
  unfold Row.prs
  rw [List.map_map]
  exact List.map_id _
theorem rows_nodup (h : Int → Bool) : ∀ (rs : List Row), rs.Pairwise (fun x r => r.apart x = true) → ((prsRows h rs).map (·.1)).Nodup
  | [], _ => by simp [prsRows]
  | r :: rs, hd => by
    obtain ⟨h1, h2⟩ := List.pairwise_cons.1 hd
    have e : prsRows h (r :: rs) = r.prs h ++ prsRows h rs := by simp [prsRows]
    rw [e, List.map_append, List.nodup_append]
    refine ⟨by rw [prs_fst]; exact (cs_nodup r).filter _, rows_nodup h rs h2, ?_⟩
    intro a ha b hb
    rw [prs_fst, List.mem_filter] at ha
    simp only [prsRows, List.map_flatMap, List.mem_flatMap] at hb
    obtain ⟨x, hx, hb⟩ := hb
    rw [prs_fst, List.mem_filter] at hb
    intro hab
    subst hab
    have := apart_has (h1 x hx) ((r.mem_cs _).1 ha.1)
    rw [(x.mem_cs _).1 hb.1] at this
    exact absurd this (by decide)
theorem prs_nodup : ∀ (ls : List (List Row)), WF ls → ((prs ls).map (·.1)).Nodup
  | [], _ => by simp [prs_nil]
  | rs :: ls, hw => by
    rw [prs_cons, List.map_append, List.nodup_append]
    refine ⟨rows_nodup _ rs (hw.dis rs (by simp)), ?_, ?_⟩
    · exact ((List.filter_sublist).map _).nodup (prs_nodup ls ⟨fun x hx => hw.ok x (by simp [hx]), fun x hx => hw.dis x (by simp [hx])⟩)
    · intro a ha b hb hab
      subst hab
      obtain ⟨q, hq, rfl⟩ := List.mem_map.1 hb
      have h2 := (List.mem_filter.1 hq).2
      simp only [prsRows, List.map_flatMap, List.mem_flatMap] at ha
      obtain ⟨r, hr, ha⟩ := ha
      rw [prs_fst, List.mem_filter] at ha
      have h3 := (r.mem_cs _).1 ha.1
      have : hid [rs] q.1 = true := by
        simp only [hid, List.any_cons, List.any_nil, Bool.or_false]
        exact List.any_eq_true.2 ⟨r, hr, h3⟩
      rw [this] at h2
      exact absurd h2 (by decide)
/-- what is sorted is by rising codes -/
theorem rise_of {l m : List (Int × Int)} (hs : l.Pairwise fun a b => a.1 ≤ b.1) (hp : l.Perm m) (hn : (m.map (·.1)).Nodup) : Rise l := by
  have h1 := (hp.map (·.1)).nodup_iff.2 hn
  rw [List.nodup_iff_pairwise_ne, List.pairwise_map] at h1
  exact (hs.and h1).imp (by intro a b h; omega)
theorem rise_unique {l m : List (Int × Int)} (h1 : Rise l) (h2 : Rise m) (hp : l.Perm m) : l = m :=
  have h3 : l.Pairwise fun a b => decide (a.1 < b.1) = true := h1.imp (by intro a b h; simpa using h)
  have h4 : m.Pairwise fun a b => decide (a.1 < b.1) = true := h2.imp (by intro a b h; simpa using h)
  List.Perm.eq_of_pairwise (fun a b _ _ h5 h6 => by simp at h5 h6; omega) h3 h4 hp
end Go.Proofs.Dia
