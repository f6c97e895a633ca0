/- PLAIN LAWS ON UTF-16: a sign's units as bytes 'wenc', the sign at the head 'whd', all signs 'wpts'. -/
import Derived.Test.YtoaojojapebamaaGreatDoorM01
namespace Go.Proofs.Dia
open Go.Lib

section
variable (hd : List UInt8 → Int × Nat) (en : Int → List UInt8)
def gens (l : List Int) : List UInt8 := l.flatMap en
def gGo : Nat → List UInt8 → Nat → List Int → List Int × Int
  | 0, _, _, acc => (acc, -1)
  | f + 1, l, i, acc => if l = [] then (acc, -1) else if (hd l).2 = 0 then ([], i) else gGo f (l.drop (hd l).2) (i + (hd l).2) (acc ++ [(hd l).1])
def gpts (l : List UInt8) : List Int × Int := gGo hd (l.length + 1) l 0 []
/-- what a code of signs by bytes owes -/
structure Coded : Prop where
  len : ∀ p, sc p = true → 1 ≤ (en p).length
  head : ∀ p r, sc p = true → hd (en p ++ r) = (p, (en p).length)
  some : ∀ l, (hd l).2 ≠ 0 → sc (hd l).1 = true ∧ (hd l).2 = (en (hd l).1).length ∧ l = en (hd l).1 ++ l.drop (hd l).2
end
section
variable {hd : List UInt8 → Int × Nat} {en : Int → List UInt8} (C : Coded hd en)
theorem gens_nil : gens en [] = [] := rfl
theorem gens_cons (p : Int) (ps : List Int) : gens en (p :: ps) = en p ++ gens en ps := by simp [gens]
theorem gens_append (a b : List Int) : gens en (a ++ b) = gens en a ++ gens en b := by simp [gens]
theorem gens_snoc (a : List Int) (p : Int) : gens en (a ++ [p]) = gens en a ++ en p := by simp [gens]
include C
theorem Coded.ne {p : Int} (h : sc p = true) : en p ≠ [] := fun e => by have := C.len p h; rw [e] at this; simp at this
theorem Coded.go_ok : ∀ (ps : List Int) (f i : Nat) (acc : List Int), (∀ p ∈ ps, sc p = true) → (gens en ps).length < f → gGo hd f (gens en ps) i acc = (acc ++ ps, -1)
  | [], f, i, acc, _, hf => by
    match f with
    | f + 1 => simp [gGo, gens_nil]
  | p :: ps, f, i, acc, h, hf => by
    match f with
    | f + 1 =>
      have hp := h p (by simp)
      have hl := C.len p hp
      have hne : gens en (p :: ps) ≠ [] := by rw [gens_cons]; simp [C.ne hp]
      rw [gGo, if_neg hne, gens_cons, C.head p _ hp, if_neg (by simp only; omega), List.drop_left]
      rw [Coded.go_ok ps f _ _ (fun q hq => h q (by simp [hq])) (by rw [gens_cons, List.length_append] at hf; omega)]
      simp
theorem Coded.go_bad (r : List UInt8) (hr : r ≠ []) (hh : (hd r).2 = 0) : ∀ (ps : List Int) (f i : Nat) (acc : List Int), (∀ p ∈ ps, sc p = true) → (gens en ps).length < f →
    gGo hd f (gens en ps ++ r) i acc = ([], ((i + (gens en ps).length : Nat) : Int))
  | [], f, i, acc, _, hf => by
    match f with
    | f + 1 => rw [gens_nil, List.nil_append, gGo, if_neg hr, if_pos hh]; simp
  | p :: ps, f, i, acc, h, hf => by
    match f with
    | f + 1 =>
      have hp := h p (by simp)
      have hl := C.len p hp
      have hne : gens en (p :: ps) ++ r ≠ [] := by rw [gens_cons]; simp [C.ne hp]
      rw [gGo, if_neg hne, gens_cons, List.append_assoc, C.head p _ hp, if_neg (by simp only; omega), List.drop_left]
      rw [Coded.go_bad r hr hh ps f _ _ (fun q hq => h q (by simp [hq])) (by rw [gens_cons, List.length_append] at hf; omega)]
      simp only [List.length_append]
      congr 2
      omega
theorem Coded.ok (ps : List Int) (h : ∀ p ∈ ps, sc p = true) : gpts hd (gens en ps) = (ps, -1) := by
  unfold gpts; rw [C.go_ok ps _ _ _ h (by omega)]; simp
theorem Coded.bad (ps : List Int) (h : ∀ p ∈ ps, sc p = true) (r : List UInt8) (hr : r ≠ []) (hh : (hd r).2 = 0) : gpts hd (gens en ps ++ r) = ([], ((gens en ps).length : Int)) := by
  unfold gpts; rw [C.go_bad r hr hh ps _ _ _ h (by simp; omega)]; simp
theorem Coded.split : ∀ (n : Nat) (l : List UInt8), l.length ≤ n → ∃ ps r, (∀ p ∈ ps, sc p = true) ∧ l = gens en ps ++ r ∧ (r ≠ [] → (hd r).2 = 0)
  | 0, l, h => ⟨[], [], by simp, by simpa [gens_nil] using h, by simp⟩
  | n + 1, l, h => by
    by_cases e : (hd l).2 = 0
    · exact ⟨[], l, by simp, by simp [gens_nil], fun _ => e⟩
    · obtain ⟨h1, h2, h3⟩ := C.some l e
      have h4 := C.len _ h1
      obtain ⟨ps, r, g1, g2, g3⟩ := Coded.split n (l.drop (hd l).2) (by rw [List.length_drop]; omega)
      refine ⟨(hd l).1 :: ps, r, ?_, ?_, g3⟩
      · intro p hp
        rcases List.mem_cons.1 hp with rfl | hp
        · exact h1
        · exact g1 p hp
      · rw [gens_cons, List.append_assoc, ← g2]; exact h3
theorem Coded.cases (l : List UInt8) : (∃ ps, (∀ p ∈ ps, sc p = true) ∧ l = gens en ps ∧ gpts hd l = (ps, -1)) ∨
    (∃ ps r, (∀ p ∈ ps, sc p = true) ∧ r ≠ [] ∧ (hd r).2 = 0 ∧ l = gens en ps ++ r ∧ gpts hd l = ([], ((gens en ps).length : Int))) := by
  obtain ⟨ps, r, h1, h2, h3⟩ := C.split l.length l (Nat.le_refl _)
  by_cases hr : r = []
  · left; subst hr; rw [List.append_nil] at h2; exact ⟨ps, h1, h2, by rw [h2]; exact C.ok ps h1⟩
  · right; exact ⟨ps, r, h1, hr, h3 hr, h2, by rw [h2]; exact C.bad ps h1 r hr (h3 hr)⟩
theorem Coded.len_ge : ∀ (ps : List Int), (∀ p ∈ ps, sc p = true) → ps.length ≤ (gens en ps).length
  | [], _ => by simp
  | p :: ps, h => by
    have h1 := C.len p (h p (by simp))
    have h2 := Coded.len_ge ps (fun q hq => h q (by simp [hq]))
    rw [gens_cons, List.length_append, List.length_cons]; omega
end
/-- bytes read up to a place: the signs ahead of it -/
def GUp (en : Int → List UInt8) (l : List UInt8) (i : Nat) (ps : List Int) : Prop := (∀ p ∈ ps, sc p = true) ∧ l = gens en ps ++ l.drop i ∧ i = (gens en ps).length
section
variable {hd : List UInt8 → Int × Nat} {en : Int → List UInt8}
theorem gUp_zero (l : List UInt8) : GUp en l 0 [] := ⟨by simp, by simp [gens_nil], by simp [gens_nil]⟩
theorem gUp_le {l : List UInt8} {i : Nat} {ps : List Int} (h : GUp en l i ps) : i ≤ l.length := by
  obtain ⟨_, h1, h2⟩ := h
  have := congrArg List.length h1
  simp at this; omega
theorem gUp_step (C : Coded hd en) {l : List UInt8} {i : Nat} {ps : List Int} (h : GUp en l i ps) {p : Int} {n : Nat} (hh : hd (l.drop i) = (p, n)) (hn : n ≠ 0) : GUp en l (i + n) (ps ++ [p]) := by
  obtain ⟨h0, h1, h2⟩ := h
  have hs := C.some (l.drop i) (by rw [hh]; exact hn)
  rw [hh] at hs
  obtain ⟨g1, g2, g3⟩ := hs
  simp only at g1 g2 g3
  refine ⟨?_, ?_, ?_⟩
  · intro q hq
    rcases List.mem_append.1 hq with hq | hq
    · exact h0 q hq
    · rw [List.mem_singleton] at hq; subst hq; exact g1
  · rw [gens_snoc, List.append_assoc, ← List.drop_drop, ← g3]; exact h1
  · rw [gens_snoc, List.length_append, ← g2]; omega
theorem gUp_end (C : Coded hd en) {l : List UInt8} {i : Nat} {ps : List Int} (h : GUp en l i ps) (hn : ¬ i < l.length) : gpts hd l = (ps, -1) := by
  obtain ⟨h0, h1, h2⟩ := h
  rw [List.drop_of_length_le (by omega), List.append_nil] at h1
  rw [h1]; exact C.ok ps h0
theorem gUp_bad (C : Coded hd en) {l : List UInt8} {i : Nat} {ps : List Int} (h : GUp en l i ps) (hi : i < l.length) (hn : (hd (l.drop i)).2 = 0) : gpts hd l = ([], (i : Int)) := by
  obtain ⟨h0, h1, h2⟩ := h
  rw [h1, C.bad ps h0 _ (by intro e; have := congrArg List.length e; simp at this; omega) hn, ← h2]
theorem gUp_len (C : Coded hd en) {l : List UInt8} {i : Nat} {ps : List Int} (h : GUp en l i ps) : ps.length ≤ i := by
  obtain ⟨h0, _, h2⟩ := h
  rw [h2]; exact C.len_ge ps h0
end

/-! ### units -/
def unit (a b : UInt8) (big : Bool) : Int := if big then (a.toNat : Int) * 256 + b.toNat else (b.toNat : Int) * 256 + a.toNat
def pairv (u v : Int) : Int × Bool := if u < 55296 ∨ 56319 < u ∨ v < 56320 ∨ 57343 < v then (0, false) else (65536 + (u - 55296) * 1024 + (v - 56320), true)
def whd (big : Bool) : List UInt8 → Int × Nat
  | a :: b :: r => if sc (unit a b big) then (unit a b big, 2) else
    match r with
    | c :: d :: _ => if (pairv (unit a b big) (unit c d big)).2 then ((pairv (unit a b big) (unit c d big)).1, 4) else (0, 0)
    | _ => (0, 0)
  | _ => (0, 0)
def wtwo (big : Bool) (u : Int) : List UInt8 := if big then [(u / 256).toNat.toUInt8, (u % 256).toNat.toUInt8] else [(u % 256).toNat.toUInt8, (u / 256).toNat.toUInt8]
def wen (big : Bool) (p : Int) : List UInt8 := if p < 65536 then wtwo big p else wtwo big (55296 + (p - 65536) / 1024) ++ wtwo big (56320 + (p - 65536) % 1024)

theorem unit_bd (a b : UInt8) (big : Bool) : 0 ≤ unit a b big ∧ unit a b big ≤ 65535 := by
  have := a.toNat_lt; have := b.toNat_lt
  unfold unit; split <;> omega
theorem wtwo_len (big : Bool) (u : Int) : (wtwo big u).length = 2 := by unfold wtwo; split <;> rfl
theorem unit_two (big : Bool) {u : Int} (h0 : 0 ≤ u) (h1 : u ≤ 65535) : ∃ a b, wtwo big u = [a, b] ∧ unit a b big = u := by
  unfold wtwo unit
  cases big
  · refine ⟨_, _, rfl, ?_⟩
    simp only [Bool.false_eq_true, if_false]
    rw [u8 _ (by omega), u8 _ (by omega)]; omega
  · refine ⟨_, _, rfl, ?_⟩
    simp only [if_true]
    rw [u8 _ (by omega), u8 _ (by omega)]; omega
theorem two_unit (a b : UInt8) (big : Bool) : wtwo big (unit a b big) = [a, b] := by
  have h1 := a.toNat_lt; have h2 := b.toNat_lt
  unfold wtwo unit
  cases big
  · simp only [Bool.false_eq_true, if_false]
    rw [u8_eq (b := a) (by omega), u8_eq (b := b) (by omega)]
  · simp only [if_true]
    rw [u8_eq (b := a) (by omega), u8_eq (b := b) (by omega)]
theorem wen_len (big : Bool) (p : Int) : (wen big p).length = if p < 65536 then 2 else 4 := by
  unfold wen
  split
  · exact wtwo_len _ _
  · rw [List.length_append, wtwo_len, wtwo_len]
theorem wcoded (big : Bool) : Coded (whd big) (wen big) where
  len p _ := by rw [wen_len]; split <;> omega
  head p r h := by
    have hs := h
    rw [sc_iff] at hs
    rw [wen_len]
    unfold wen
    by_cases c : p < 65536
    · rw [if_pos c, if_pos c]
      obtain ⟨a, b, e1, e2⟩ := unit_two big (u := p) (by omega) (by omega)
      rw [e1]
      simp only [List.cons_append, List.nil_append, whd, e2, h, if_true]
    · rw [if_neg c, if_neg c]
      obtain ⟨a, b, e1, e2⟩ := unit_two big (u := 55296 + (p - 65536) / 1024) (by omega) (by omega)
      obtain ⟨a', b', e3, e4⟩ := unit_two big (u := 56320 + (p - 65536) % 1024) (by omega) (by omega)
      rw [e1, e3]
      have hn : sc (55296 + (p - 65536) / 1024) = false := by
        rw [Bool.eq_false_iff, ne_eq, sc_iff]; omega
      have hp : pairv (55296 + (p - 65536) / 1024) (56320 + (p - 65536) % 1024) = (p, true) := by
        unfold pairv
        rw [if_neg (by omega)]
        refine Prod.ext ?_ rfl
        show 65536 + (55296 + (p - 65536) / 1024 - 55296) * 1024 + (56320 + (p - 65536) % 1024 - 56320) = p
        omega
      simp only [List.cons_append, List.nil_append, whd, e2, e4, hn, hp, Bool.false_eq_true, if_false, if_true]
  some l h := by
    match l, h with
    | [], h => simp [whd] at h
    | [a], h => simp [whd] at h
    | a :: b :: r, h =>
      have hb := unit_bd a b big
      by_cases c : sc (unit a b big) = true
      · have e : whd big (a :: b :: r) = (unit a b big, 2) := by
          match r with
          | [] => simp [whd, c]
          | [_] => simp [whd, c]
          | _ :: _ :: _ => simp [whd, c]
        rw [e]
        refine ⟨c, by rw [wen_len, if_pos (by omega)], ?_⟩
        simp only
        unfold wen
        rw [if_pos (by omega), two_unit]
        rfl
      · have c' : sc (unit a b big) = false := by simpa using c
        match r, h with
        | [], h => simp [whd, c'] at h
        | [_], h => simp [whd, c'] at h
        | x :: y :: r', h =>
          by_cases d : (pairv (unit a b big) (unit x y big)).2 = true
          · have e : whd big (a :: b :: x :: y :: r') = ((pairv (unit a b big) (unit x y big)).1, 4) := by simp [whd, c', d]
            rw [e]
            have hx := unit_bd x y big
            unfold pairv at d ⊢
            by_cases g : unit a b big < 55296 ∨ 56319 < unit a b big ∨ unit x y big < 56320 ∨ 57343 < unit x y big
            · rw [if_pos g] at d; cases d
            · rw [if_neg g]
              have e1 : 55296 + (65536 + (unit a b big - 55296) * 1024 + (unit x y big - 56320) - 65536) / 1024 = unit a b big := by omega
              have e2 : 56320 + (65536 + (unit a b big - 55296) * 1024 + (unit x y big - 56320) - 65536) % 1024 = unit x y big := by omega
              refine ⟨by rw [sc_iff]; simp only; omega, by rw [wen_len]; simp only; rw [if_neg (by omega)], ?_⟩
              simp only
              unfold wen
              rw [if_neg (by omega), e1, e2, two_unit, two_unit]
              rfl
          · have d' : (pairv (unit a b big) (unit x y big)).2 = false := by simpa using d
            simp [whd, c', d'] at h
/-- the head, by places -/
def un (l : List UInt8) (i : Nat) (big : Bool) : Int := unit (l.getD i 0) (l.getD (i + 1) 0) big
theorem drop_two {l : List UInt8} {i : Nat} (h : i + 1 < l.length) : l.drop i = l.getD i 0 :: l.getD (i + 1) 0 :: l.drop (i + 2) := by
  rw [List.drop_eq_getElem_cons (by omega : i < l.length), List.drop_eq_getElem_cons h]
  rw [List.getD_eq_getElem?_getD, List.getD_eq_getElem?_getD, List.getElem?_eq_getElem (by omega), List.getElem?_eq_getElem h]
  rfl
theorem whd_one {l : List UInt8} {i : Nat} {big : Bool} (h : i + 1 = l.length) : whd big (l.drop i) = (0, 0) := by
  rw [List.drop_eq_getElem_cons (by omega : i < l.length), List.drop_of_length_le (by omega)]
  rfl
theorem whd_plain {l : List UInt8} {i : Nat} {big : Bool} (h : i + 1 < l.length) (hs : sc (un l i big) = true) : whd big (l.drop i) = (un l i big, 2) := by
  rw [drop_two h]
  unfold un at *
  show (if sc (unit (l.getD i 0) (l.getD (i + 1) 0) big) = true then (unit (l.getD i 0) (l.getD (i + 1) 0) big, 2) else _) = _
  rw [if_pos hs]
theorem whd_cut {l : List UInt8} {i : Nat} {big : Bool} (h : i + 1 < l.length) (hs : sc (un l i big) = false) (h4 : l.length < i + 4) : whd big (l.drop i) = (0, 0) := by
  rw [drop_two h]
  unfold un at hs
  have hl : (l.drop (i + 2)).length < 2 := by rw [List.length_drop]; omega
  show (if sc (unit (l.getD i 0) (l.getD (i + 1) 0) big) = true then (unit (l.getD i 0) (l.getD (i + 1) 0) big, 2) else _) = _
  rw [if_neg (by rw [hs]; simp)]
  match hr : l.drop (i + 2), hl with
  | [], _ => rfl
  | [_], _ => rfl
theorem whd_pair {l : List UInt8} {i : Nat} {big : Bool} (h : i + 3 < l.length) (hs : sc (un l i big) = false) :
    whd big (l.drop i) = if (pairv (un l i big) (un l (i + 2) big)).2 then ((pairv (un l i big) (un l (i + 2) big)).1, 4) else (0, 0) := by
  rw [drop_two (by omega : i + 1 < l.length), drop_two (by omega : i + 2 + 1 < l.length)]
  unfold un at *
  show (if sc (unit (l.getD i 0) (l.getD (i + 1) 0) big) = true then (unit (l.getD i 0) (l.getD (i + 1) 0) big, 2) else _) = _
  rw [if_neg (by rw [hs]; simp)]
def wpts (big : Bool) (l : List UInt8) : List Int × Int := gpts (whd big) l
def wens (big : Bool) (ps : List Int) : List UInt8 := gens (wen big) ps
end Go.Proofs.Dia
