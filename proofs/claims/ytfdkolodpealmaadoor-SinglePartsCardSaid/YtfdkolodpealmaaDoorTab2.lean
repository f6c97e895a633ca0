/- PLAIN LAWS: the document's pairs, piece by piece, are a table's. -/
import Derived.Test.YtfdkolodpealmaaDoorTab
namespace Go.Proofs.Dia

def ins : List (Int × Int) → Int × Int → List (Int × Int)
  | [], p => [p]
  | x :: l, p => if p.1 < x.1 then p :: x :: l else x :: ins l p
/-- the document's Put, a round -/
def pstep (p : Int × Int) (s : List (Int × Int) × Bool) (x : Int × Int) : List (Int × Int) × Bool := if !s.2 && decide (p.1 < x.1) then (s.1 ++ [p, x], true) else (s.1 ++ [x], s.2)
def rput (l : List (Int × Int)) (p : Int × Int) : List (Int × Int) := if (l.foldl (pstep p) ([], false)).2 then (l.foldl (pstep p) ([], false)).1 else (l.foldl (pstep p) ([], false)).1 ++ [p]
theorem pstep_done (p : Int × Int) : ∀ (l o : List (Int × Int)), l.foldl (pstep p) (o, true) = (o ++ l, true)
  | [], o => by simp
  | x :: l, o => by
    rw [List.foldl_cons]
    have : pstep p (o, true) x = (o ++ [x], true) := by simp [pstep]
    rw [this, pstep_done p l]; simp
theorem pstep_ins (p : Int × Int) : ∀ (l o : List (Int × Int)), (if (l.foldl (pstep p) (o, false)).2 then (l.foldl (pstep p) (o, false)).1 else (l.foldl (pstep p) (o, false)).1 ++ [p]) = o ++ ins l p
  | [], o => by simp [ins]
  | x :: l, o => by
    rw [List.foldl_cons]
    by_cases h : p.1 < x.1
    · have : pstep p (o, false) x = (o ++ [p, x], true) := by simp [pstep, h]
      rw [this, pstep_done]; simp [ins, h]
    · have : pstep p (o, false) x = (o ++ [x], false) := by simp [pstep, h]
      rw [this, pstep_ins p l]; simp [ins, h]
theorem rput_ins (l : List (Int × Int)) (p : Int × Int) : rput l p = ins l p := by
  unfold rput; rw [pstep_ins]; simp
theorem ins_perm (p : Int × Int) : ∀ (l : List (Int × Int)), (ins l p).Perm (p :: l)
  | [] => List.Perm.refl _
  | x :: l => by
    unfold ins
    split
    · exact List.Perm.refl _
    · exact ((ins_perm p l).cons x).trans (List.Perm.swap p x l)
theorem ins_sorted (p : Int × Int) : ∀ (l : List (Int × Int)), l.Pairwise (fun a b => a.1 ≤ b.1) → (ins l p).Pairwise (fun a b => a.1 ≤ b.1)
  | [], _ => by simp [ins]
  | x :: l, h => by
    obtain ⟨h1, h2⟩ := List.pairwise_cons.1 h
    unfold ins
    split
    · rename_i hc
      refine List.pairwise_cons.2 ⟨?_, h⟩
      intro q hq
      rcases List.mem_cons.1 hq with rfl | hq
      · omega
      · have := h1 q hq; omega
    · rename_i hc
      refine List.pairwise_cons.2 ⟨?_, ins_sorted p l h2⟩
      intro q hq
      rcases List.mem_cons.1 ((ins_perm p l).mem_iff.1 hq) with rfl | hq
      · omega
      · exact h1 q hq
theorem rput_len (l : List (Int × Int)) (p : Int × Int) : (rput l p).length = l.length + 1 := by
  rw [rput_ins, (ins_perm p l).length_eq]; rfl

/-- the document's Find: the place of a code; -1 -/
def rfind (l : List (Int × Int)) (c : Int) : Int := match l.findIdx? (fun q => q.1 == c) with | some i => i | none => -1
theorem rfind_neg (l : List (Int × Int)) (c : Int) : rfind l c < 0 ↔ ∀ q ∈ l, q.1 ≠ c := by
  unfold rfind
  cases h : l.findIdx? (fun q => q.1 == c) with
  | none =>
    rw [List.findIdx?_eq_none_iff] at h
    simp only [beq_eq_false_iff_ne] at h
    simp only [show ((-1 : Int) < 0) = True by simp, true_iff]
    exact h
  | some i =>
    obtain ⟨h1, h2, _⟩ := List.findIdx?_eq_some_iff_getElem.1 h
    simp only [show ¬ ((i : Int) < 0) by omega, false_iff]
    intro h3
    exact h3 _ (List.getElem_mem h1) (by simpa using h2)
theorem rfind_get {l : List (Int × Int)} {c : Int} {q : Int × Int} (h : l.find? (fun q => q.1 == c) = some q) : ∃ i : Nat, rfind l c = i ∧ ∃ hi : i < l.length, l[i] = q := by
  unfold rfind
  cases h2 : l.findIdx? (fun q => q.1 == c) with
  | none =>
    rw [List.findIdx?_eq_none_iff] at h2
    have h3 := List.mem_of_find?_eq_some h
    have h4 := List.find?_some h
    rw [h2 q h3] at h4
    exact absurd h4 (by decide)
  | some i =>
    obtain ⟨h3, h4, h5⟩ := List.findIdx?_eq_some_iff_getElem.1 h2
    refine ⟨i, rfl, h3, ?_⟩
    obtain ⟨_, as, bs, e, h6⟩ := List.find?_eq_some_iff_append.1 h
    subst e
    have hi : i = as.length := by
      rcases Nat.lt_trichotomy i as.length with h7 | h7 | h7
      · have := h6 _ (List.getElem_mem h7)
        rw [List.getElem_append_left h7] at h4
        rw [h4] at this
        exact absurd this (by decide)
      · exact h7
      · have := h5 as.length h7
        simp only [List.getElem_append_right (Nat.le_refl _), Nat.sub_self, List.getElem_cons_zero] at this
        have h8 := List.find?_some h
        exact absurd h8 this
    subst hi
    simp
theorem rfind_none {l : List (Int × Int)} {c : Int} (h : l.find? (fun q => q.1 == c) = none) : rfind l c = -1 := by
  unfold rfind
  have : l.findIdx? (fun q => q.1 == c) = none := by
    rw [List.findIdx?_eq_none_iff]
    intro q hq
    rw [List.find?_eq_none] at h
    simpa using h q hq
  rw [this]
/-- the document's Reverse -/
def rrev (l : List (Int × Int)) (p : Int) : Int := match l.find? (fun q => q.2 == p) with | some q => q.1 | none => -1
/-- the document's Join -/
def rjoin (l more : List (Int × Int)) : Option (List (Int × Int)) := if more.any (fun q => decide (0 ≤ rfind l q.1)) then none else some (more.foldl rput l)
/-- the document's Over -/
def ostep (l : List (Int × Int)) (out : List (Int × Int)) (q : Int × Int) : List (Int × Int) := if rfind l q.1 < 0 then rput out q else out
def rover (l other : List (Int × Int)) : List (Int × Int) := other.foldl (ostep l) l

theorem puts_perm : ∀ (more l : List (Int × Int)), (more.foldl rput l).Perm (l ++ more)
  | [], l => by simp
  | p :: more, l => by
    rw [List.foldl_cons]
    refine (puts_perm more _).trans ?_
    rw [rput_ins]
    exact ((ins_perm p l).append_right more).trans (by simpa using (List.perm_middle (a := p) (l₁ := l) (l₂ := more)).symm)
theorem puts_sorted : ∀ (more l : List (Int × Int)), l.Pairwise (fun a b => a.1 ≤ b.1) → (more.foldl rput l).Pairwise (fun a b => a.1 ≤ b.1)
  | [], _, h => h
  | p :: more, l, h => by
    rw [List.foldl_cons]
    exact puts_sorted more _ (by rw [rput_ins]; exact ins_sorted p l h)
theorem rise_le {l : List (Int × Int)} (h : Rise l) : l.Pairwise fun a b => a.1 ≤ b.1 := h.imp (by intro a b h; omega)

theorem hid_prs (ls : List (List Row)) (c : Int) : hid ls c = true ↔ ∃ q ∈ prs ls, q.1 = c := by
  have h := find_prs c ls
  constructor
  · intro hh
    have hs : ∃ r, ls.flatten.find? (fun r => r.has c) = some r := by
      cases e : ls.flatten.find? (fun r => r.has c) with
      | some r => exact ⟨r, rfl⟩
      | none =>
        rw [List.find?_eq_none] at e
        simp only [hid, List.any_eq_true] at hh
        obtain ⟨rs, h1, r, h2, h3⟩ := hh
        exact absurd h3 (e r (List.mem_flatten.2 ⟨rs, h1, h2⟩))
    obtain ⟨r, hr⟩ := hs
    rw [hr] at h
    obtain ⟨h1, h2⟩ := find_some h
    exact ⟨_, h1, h2⟩
  · rintro ⟨q, h1, h2⟩
    cases e : ls.flatten.find? (fun r => r.has c) with
    | none =>
      rw [e] at h
      exact absurd h2 ((find_iff c).1 h q h1)
    | some r =>
      have h3 := List.mem_of_find?_eq_some e
      have h4 := List.find?_some e
      obtain ⟨rs, h5, h6⟩ := List.mem_flatten.1 h3
      simp only [hid, List.any_eq_true]
      exact ⟨rs, h5, r, h6, h4⟩
theorem hid_tab {ls : List (List Row)} {l : List (Int × Int)} (h : IsTab ls l) (c : Int) : hid ls c = decide (0 ≤ rfind l c) := by
  rw [Bool.eq_iff_iff, hid_prs]
  have h1 : (∃ q ∈ prs ls, q.1 = c) ↔ ∃ q ∈ l, q.1 = c := by
    constructor
    · rintro ⟨q, h1, h2⟩; exact ⟨q, h.2.mem_iff.2 h1, h2⟩
    · rintro ⟨q, h1, h2⟩; exact ⟨q, h.2.mem_iff.1 h1, h2⟩
  rw [h1]
  have h2 := rfind_neg l c
  simp only [decide_eq_true_eq]
  constructor
  · rintro ⟨q, h3, h4⟩
    refine Int.not_lt.1 fun h5 => ?_
    exact h2.1 h5 q h3 h4
  · intro h3
    refine Classical.byContradiction fun h4 => ?_
    have := h2.2 (fun q hq e => h4 ⟨q, hq, e⟩)
    omega

theorem over_puts (l : List (Int × Int)) : ∀ (other out : List (Int × Int)), other.foldl (ostep l) out = (other.filter fun q => decide (rfind l q.1 < 0)).foldl rput out
  | [], _ => rfl
  | q :: other, out => by
    rw [List.foldl_cons, over_puts l other, List.filter_cons]
    unfold ostep
    by_cases h : rfind l q.1 < 0 <;> simp [h]
theorem wf_append {ls ms : List (List Row)} (h1 : WF ls) (h2 : WF ms) : WF (ls ++ ms) where
  ok rs hrs := by
    rcases List.mem_append.1 hrs with h | h
    · exact h1.ok rs h
    · exact h2.ok rs h
  dis rs hrs := by
    rcases List.mem_append.1 hrs with h | h
    · exact h1.dis rs h
    · exact h2.dis rs h
theorem over_tab {ls ms : List (List Row)} {l m : List (Int × Int)} (w1 : WF ls) (w2 : WF ms) (h1 : IsTab ls l) (h2 : IsTab ms m) : IsTab (ls ++ ms) (rover l m) := by
  have hp : (rover l m).Perm (prs (ls ++ ms)) := by
    unfold rover
    rw [over_puts, prs_append]
    refine (puts_perm _ _).trans ?_
    refine h1.2.append ?_
    have e : (fun q : Int × Int => decide (rfind l q.1 < 0)) = fun q => !hid ls q.1 := by
      funext q
      rw [hid_tab h1, ← decide_not]
      congr 1
      rw [Int.not_le]
    rw [e]
    exact h2.2.filter _
  exact ⟨rise_of (by unfold rover; rw [over_puts]; exact puts_sorted _ _ (rise_le h1.1)) hp (prs_nodup _ (wf_append w1 w2)), hp⟩

/-- a piece -/
structure Piece where
  from' : Int
  to : Int
  count : Int
  text : List UInt8
def inRange (f c : Int) : Bool := decide (0 ≤ f ∧ 1 ≤ c ∧ c ≤ 1048576 ∧ f ≤ 1048576 - c)
def seqOk (t c : Int) : Bool := sc t && (sc (t + (c - 1)) && (decide (55296 ≤ t) || decide (t + (c - 1) ≤ 57343)))
/-- a piece's row; none: it may not be -/
def right (p : Piece) : Option Row :=
  if p.text = [] then (if inRange p.from' p.count && seqOk p.to p.count then some ⟨p.from', p.to, p.count, []⟩ else none)
  else if decide ((pts p.text).2 < 0) && inRange p.from' (pts p.text).1.length then some ⟨p.from', p.to, (pts p.text).1.length, (pts p.text).1⟩ else none
/-- the document's pairs of a piece -/
def rpiece (p : Piece) : Option (List (Int × Int)) :=
  if p.text ≠ [] then (if 0 ≤ (pts p.text).2 ∨ p.from' < 0 ∨ 1048576 - ((pts p.text).1.length : Int) < p.from' then none
    else some ((List.range (pts p.text).1.length).map fun (k : Nat) => (p.from' + (k : Int), (pts p.text).1.getD k 0)))
  else if p.from' < 0 ∨ p.count < 1 ∨ 1048576 < p.count ∨ 1048576 - p.count < p.from' ∨ sc p.to = false then none
  else if sc (p.to + p.count - 1) = false ∨ (p.to < 55296 ∧ 57343 < p.to + p.count - 1) then none
  else some ((List.range p.count.toNat).map fun (k : Nat) => (p.from' + (k : Int), p.to + (k : Int)))
theorem pts_ne {l : List UInt8} (h : l ≠ []) (h2 : (pts l).2 < 0) : (pts l).1 ≠ [] := by
  rcases pts_cases l with ⟨ps, h3, rfl, h4⟩ | ⟨ps, r, h3, h4⟩
  · rw [h4]
    intro e
    simp only at e
    subst e
    exact h rfl
  · exfalso
    obtain ⟨h5, h6, h7, h8⟩ := h4
    rw [h8] at h2
    simp only at h2
    omega
theorem prs_free (r : Row) : (r.prs fun _ => false) = (List.range r.count.toNat).map fun (k : Nat) => (r.from' + (k : Int), r.at (r.from' + (k : Int))) := by
  unfold Row.prs Row.cs
  rw [List.filter_eq_self.2 (by simp), List.map_map]
  rfl
theorem right_some {p : Piece} {r : Row} (hr : right p = some r) : r.Ok ∧ rpiece p = some (r.prs fun _ => false) := by
  obtain ⟨f, t, c, s⟩ := p
  unfold right at hr
  simp only at hr
  by_cases hs : s = []
  · rw [if_pos hs] at hr
    by_cases hc : (inRange f c && seqOk t c) = true
    · rw [if_pos hc] at hr
      cases hr
      simp only [inRange, seqOk, Bool.and_eq_true, Bool.or_eq_true, decide_eq_true_eq] at hc
      obtain ⟨⟨h1, h2, h3, h4⟩, h5, h6, h7⟩ := hc
      have s5 := (sc_iff _).1 h5
      have s6 := (sc_iff _).1 h6
      refine ⟨⟨h1, by simp only; omega, h2, fun _ => by simp only; omega, fun _ => by simp only; omega, fun h => absurd rfl h⟩, ?_⟩
      unfold rpiece
      simp only [hs, ne_eq, not_true, if_false]
      have e1 : t + c - 1 = t + (c - 1) := by omega
      rw [e1, if_neg (by rw [h5]; simp; omega), if_neg (by rw [h6]; simp; omega), prs_free]
      congr 1
      apply List.map_congr_left
      intro k _
      simp only [Row.at, if_true]
      congr 1
      omega
    · rw [if_neg hc] at hr; cases hr
  · rw [if_neg hs] at hr
    by_cases hc : (decide ((pts s).2 < 0) && inRange f (pts s).1.length) = true
    · rw [if_pos hc] at hr
      cases hr
      simp only [inRange, Bool.and_eq_true, decide_eq_true_eq] at hc
      obtain ⟨h0, h1, h2, h3, h4⟩ := hc
      have hne := pts_ne hs h0
      refine ⟨⟨h1, by simp only; omega, h2, fun h => absurd h hne, fun h => absurd h hne, fun _ => rfl⟩, ?_⟩
      unfold rpiece
      simp only [ne_eq, hs, not_false_eq_true, if_true]
      rw [if_neg (by omega), prs_free]
      congr 1
      simp only [Int.toNat_natCast]
      apply List.map_congr_left
      intro k _
      simp only [Row.at, if_neg hne]
      congr 2
      omega
    · rw [if_neg hc] at hr; cases hr
theorem right_none {p : Piece} (hr : right p = none) : rpiece p = none := by
  obtain ⟨f, t, c, s⟩ := p
  unfold right at hr
  simp only at hr
  unfold rpiece
  simp only
  by_cases hs : s = []
  · rw [if_pos hs] at hr
    rw [if_neg (by simpa using hs)]
    by_cases hc : (inRange f c && seqOk t c) = true
    · rw [if_pos hc] at hr; cases hr
    · have e1 : t + c - 1 = t + (c - 1) := by omega
      rw [e1]
      by_cases h1 : f < 0 ∨ c < 1 ∨ 1048576 < c ∨ 1048576 - c < f ∨ sc t = false
      · rw [if_pos h1]
      · rw [if_neg h1, if_pos]
        simp only [inRange, seqOk, Bool.and_eq_true, Bool.or_eq_true, decide_eq_true_eq] at hc
        have h2 : sc t = true := by
          cases h : sc t
          · exact absurd (.inr (.inr (.inr (.inr h)))) h1
          · rfl
        cases h3 : sc (t + (c - 1))
        · exact .inl rfl
        · refine .inr ?_
          refine Classical.byContradiction fun h4 => hc ⟨by omega, h2, h3, by omega⟩
  · rw [if_neg hs] at hr
    rw [if_pos hs]
    by_cases hc : (decide ((pts s).2 < 0) && inRange f (pts s).1.length) = true
    · rw [if_pos hc] at hr; cases hr
    · rw [if_pos]
      simp only [inRange, Bool.and_eq_true, decide_eq_true_eq] at hc
      refine Classical.byContradiction fun h4 => hc ?_
      have h0 : (pts s).2 < 0 := by omega
      have := pts_ne hs h0
      have h5 : 0 < (pts s).1.length := by
        cases e : (pts s).1 with
        | nil => exact absurd e this
        | cons => simp
      omega

/-- Go's New -/
def newL (rs : List Row) (i : Int) : List Piece → List Row × Int
  | [] => (rs, -1)
  | p :: ps => match right p with
    | none => ([], i)
    | some r => if rs.all (fun x => r.apart x) then newL (rs ++ [r]) (i + 1) ps else ([], i)
/-- the document's pairs of pieces -/
def madeL (l : List (Int × Int)) (i : Int) : List Piece → List (Int × Int) × Int
  | [] => (l, -1)
  | p :: ps => match rpiece p with
    | none => ([], i)
    | some more => match rjoin l more with
      | none => ([], i)
      | some l' => madeL l' (i + 1) ps
def lv (o : List Row × Int) : List (List Row) := if o.2 < 0 then [o.1] else []
theorem newL_neg : ∀ (ps : List Piece) (rs : List Row) (i : Int), 0 ≤ i → (newL rs i ps).2 = -1 ∨ 0 ≤ (newL rs i ps).2 ∧ (newL rs i ps).2 < i + ps.length
  | [], _, _, _ => .inl rfl
  | p :: ps, rs, i, hi => by
    unfold newL
    split
    · right; simp; omega
    · split
      · rcases newL_neg ps _ (i + 1) (by omega) with h | h
        · exact .inl h
        · right; rw [List.length_cons]; omega
      · right; simp; omega
theorem wf_nil : WF [] := ⟨by simp, by simp⟩
theorem tab_nil : IsTab [] [] := ⟨List.Pairwise.nil, List.Perm.refl _⟩
theorem made_new : ∀ (ps : List Piece) (rs : List Row) (l : List (Int × Int)) (i : Int), 0 ≤ i → WF [rs] → IsTab [rs] l →
    (madeL l i ps).2 = (newL rs i ps).2 ∧ WF (lv (newL rs i ps)) ∧ IsTab (lv (newL rs i ps)) (madeL l i ps).1
  | [], rs, l, i, _, hw, ht => ⟨rfl, hw, ht⟩
  | p :: ps, rs, l, i, hi, hw, ht => by
    unfold madeL newL
    cases hr : right p with
    | none =>
      rw [right_none hr]
      simp only [lv]
      rw [if_neg (by omega)]
      exact ⟨trivial, wf_nil, tab_nil⟩
    | some r =>
      obtain ⟨ho, hp⟩ := right_some hr
      rw [hp]
      simp only
      have hany : (r.prs fun _ => false).any (fun q => decide (0 ≤ rfind l q.1)) = !rs.all (fun x => r.apart x) := by
        rw [Bool.eq_iff_iff]
        simp only [List.any_eq_true, Bool.not_eq_true', List.all_eq_false, decide_eq_true_eq]
        constructor
        · rintro ⟨q, h1, h2⟩
          have h3 : hid [rs] q.1 = true := by rw [hid_tab ht]; simpa using h2
          simp only [hid, List.any_cons, List.any_nil, Bool.or_false, List.any_eq_true] at h3
          obtain ⟨x, hx, h4⟩ := h3
          refine ⟨x, hx, fun h5 => ?_⟩
          have h6 := apart_has h5 h4
          have h7 : q.1 ∈ (r.prs fun _ => false).map (·.1) := List.mem_map_of_mem h1
          rw [prs_fst, List.mem_filter] at h7
          rw [(r.mem_cs _).1 h7.1] at h6
          exact absurd h6 (by decide)
        · rintro ⟨x, hx, h1⟩
          obtain ⟨c, h2, h3⟩ := has_apart ho (hw.ok rs (by simp) x hx) (by simpa using h1)
          refine ⟨(c, r.at c), ?_, ?_⟩
          · unfold Row.prs
            rw [List.filter_eq_self.2 (by simp)]
            exact List.mem_map_of_mem ((r.mem_cs c).2 h3)
          · have h4 : hid [rs] c = true := by
              simp only [hid, List.any_cons, List.any_nil, Bool.or_false, List.any_eq_true]
              exact ⟨x, hx, h2⟩
            rw [hid_tab ht] at h4
            simpa using h4
      unfold rjoin
      rw [hany]
      by_cases hall : rs.all (fun x => r.apart x) = true
      · rw [hall]
        simp only [Bool.not_true, Bool.false_eq_true, if_false, if_true]
        refine made_new ps (rs ++ [r]) _ (i + 1) (by omega) ?_ ?_
        · refine ⟨?_, ?_⟩
          · intro x hx y hy
            obtain rfl := List.mem_singleton.1 hx
            rcases List.mem_append.1 hy with hy | hy
            · exact hw.ok rs (by simp) y hy
            · rw [List.mem_singleton.1 hy]; exact ho
          · intro x hx
            obtain rfl := List.mem_singleton.1 hx
            rw [List.pairwise_append]
            refine ⟨hw.dis rs (by simp), by simp, ?_⟩
            intro x hx y hy
            rw [List.mem_singleton.1 hy]
            exact List.all_eq_true.1 hall x hx
        · have hpm : ((r.prs fun _ => false).foldl rput l).Perm (prs [rs ++ [r]]) := by
            refine (puts_perm _ _).trans ?_
            rw [prs_one]
            have e : prsRows (fun _ => false) (rs ++ [r]) = prs [rs] ++ r.prs fun _ => false := by
              rw [prs_one]; simp [prsRows]
            rw [e]
            exact ht.2.append_right _
          refine ⟨rise_of (puts_sorted _ _ (rise_le ht.1)) hpm (prs_nodup _ ?_), hpm⟩
          refine ⟨?_, ?_⟩
          · intro x hx y hy
            obtain rfl := List.mem_singleton.1 hx
            rcases List.mem_append.1 hy with hy | hy
            · exact hw.ok rs (by simp) y hy
            · rw [List.mem_singleton.1 hy]; exact ho
          · intro x hx
            obtain rfl := List.mem_singleton.1 hx
            rw [List.pairwise_append]
            refine ⟨hw.dis rs (by simp), by simp, ?_⟩
            intro x hx y hy
            rw [List.mem_singleton.1 hy]
            exact List.all_eq_true.1 hall x hx
      · have hall' : rs.all (fun x => r.apart x) = false := by simpa using hall
        rw [hall']
        simp only [Bool.not_false, if_true, Bool.false_eq_true, if_false, lv]
        rw [if_neg (by omega)]
        exact ⟨trivial, wf_nil, tab_nil⟩
theorem made_ok (ps : List Piece) : (madeL [] 0 ps).2 = (newL [] 0 ps).2 ∧ WF (lv (newL [] 0 ps)) ∧ IsTab (lv (newL [] 0 ps)) (madeL [] 0 ps).1 := by
  refine made_new ps [] [] 0 (by omega) ?_ ?_
  · exact ⟨by intro x hx y hy; obtain rfl := List.mem_singleton.1 hx; simp at hy, by intro x hx; obtain rfl := List.mem_singleton.1 hx; exact List.Pairwise.nil⟩
  · exact ⟨List.Pairwise.nil, by rw [prs_one]; exact List.Perm.refl _⟩
end Go.Proofs.Dia
