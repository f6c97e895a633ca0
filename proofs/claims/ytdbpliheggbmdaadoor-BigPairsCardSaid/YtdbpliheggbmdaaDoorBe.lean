/- PLAIN: big5, backwards -/
import Derived.Test.YtdbpliheggbmdaaDoorBc
namespace Go.Proofs.Dia

/-- the place of a sign in a row's rest, from a place on -/
def rcI (p : Int) : Nat → List Int → Option Nat
  | _, [] => none
  | n, x :: l => if x = p ∧ x ≠ 63 then some n else rcI p (n + 1) l
/-- the code of a row's place -/
def rcC (lead : Int) (c : Nat) : Int := if c < 63 then lead * 256 + 64 + c else lead * 256 + 161 + c - 63
def rcRow (p lead : Int) : Option Int := (rcI p 0 (rowP lead)).map (rcC lead)
def rcGo (p : Int) : List Int → Int × Int
  | [] => (-1, 0)
  | x :: l => match rcRow p x with | some c => (c, 1) | none => rcGo p l
def rcode1 (p : Int) : Int × Int := rcGo p [136, 161, 163, 164, 165]
def btwoC (p q : Int) : Int := if p = 202 ∧ q = 772 then 34914 else if p = 202 ∧ q = 780 then 34916 else if p = 234 ∧ q = 772 then 34979 else if p = 234 ∧ q = 780 then 34981 else 0
/-- Code -/
def rcode : List Int → Int × Int
  | [] => (-1, 0)
  | [p] => rcode1 p
  | p :: q :: _ => if btwoC p q ≠ 0 then (btwoC p q, 2) else rcode1 p
def bone (p : Int) : List UInt8 × Int := if (revl bigL p).2 = true then (bigB (bcode (revl bigL p).1).toNat 2, 1) else ([], 0)
/-- Bytes -/
def bbytes : List Int → List UInt8 × Int
  | [] => ([], 0)
  | [p] => bone p
  | p :: q :: _ => if btwoC p q ≠ 0 then (bigB (btwoC p q).toNat 2, 2) else bone p

theorem bbytes_two (p q : Int) (r : List Int) : bbytes (p :: q :: r) = if btwoC p q ≠ 0 then (bigB (btwoC p q).toNat 2, 2) else bone p := rfl
theorem rcode_two (p q : Int) (r : List Int) : rcode (p :: q :: r) = if btwoC p q ≠ 0 then (btwoC p q, 2) else rcode1 p := rfl
theorem rcI_bd (p : Int) : ∀ (l : List Int) (n i : Nat), rcI p n l = some i → n ≤ i ∧ i < n + l.length
  | [], _, _, h => by simp [rcI] at h
  | x :: l, n, i, h => by
    unfold rcI at h
    split at h
    · simp at h; subst h; simp
    · have := rcI_bd p l (n + 1) i h
      simp; omega
theorem rowPairs_rev (p k : Int) : ∀ (l : List Int) (n : Nat), (rowPairs (k + n) l).find? (fun q => q.2 == p) = (rcI p n l).map fun (i : Nat) => (k + (i : Int), p)
  | [], _ => rfl
  | x :: l, n => by
    have ih := rowPairs_rev p k l (n + 1)
    have e : k + (n : Int) + 1 = k + ((n + 1 : Nat) : Int) := by omega
    unfold rowPairs rcI
    rw [e]
    by_cases hx : x = 63
    · rw [if_pos hx, if_neg (by rintro ⟨_, h⟩; exact h hx), ih]
    · rw [if_neg hx, List.find?_cons]
      by_cases hp : x = p
      · subst hp
        rw [if_pos ⟨rfl, hx⟩]
        simp
      · have hb : (x == p) = false := by simpa using hp
        rw [if_neg (by rintro ⟨h, _⟩; exact hp h)]
        simp only [hb]
        exact ih
theorem bcode_at (lead : Int) (i : Nat) (_h0 : 129 ≤ lead) (hi : i < 157) : bcode ((lead - 129) * 157 + i) = rcC lead i := by
  have e1 : ((lead - 129) * 157 + (i : Int)) / 157 = lead - 129 := by omega
  have e2 : ((lead - 129) * 157 + (i : Int)) % 157 = i := by omega
  unfold bcode rcC
  rw [e1, e2]
  by_cases h : i < 63
  · rw [if_pos (by omega), if_pos h]; omega
  · rw [if_neg (by omega), if_neg h]; omega
theorem rcC_bd (lead : Int) (i : Nat) (h0 : 129 ≤ lead) (h1 : lead ≤ 254) (hi : i < 157) : 0 ≤ rcC lead i ∧ rcC lead i < 65536 := by
  unfold rcC; split <;> omega
theorem rcode1_bd (p : Int) : rcode1 p = (-1, 0) ∨ ((rcode1 p).2 = 1 ∧ 0 ≤ (rcode1 p).1 ∧ (rcode1 p).1 < 65536) := by
  obtain ⟨l1, l2, l3, l4, l5⟩ := row_lens
  have B : ∀ lead l i, 129 ≤ lead → lead ≤ 254 → rcI p 0 l = some i → l.length ≤ 157 → 0 ≤ rcC lead i ∧ rcC lead i < 65536 := fun lead l i a b h hl => rcC_bd lead i a b (by have := rcI_bd p _ _ _ h; omega)
  unfold rcode1
  simp only [rcGo, rcRow, rowP]
  simp only [if_true, show ((161 : Int) = 136) = False from by simp, show ((163 : Int) = 136) = False from by simp, show ((163 : Int) = 161) = False from by simp, show ((164 : Int) = 136) = False from by simp, show ((164 : Int) = 161) = False from by simp, show ((164 : Int) = 163) = False from by simp, show ((165 : Int) = 136) = False from by simp, show ((165 : Int) = 161) = False from by simp, show ((165 : Int) = 163) = False from by simp, show ((165 : Int) = 164) = False from by simp, if_false]
  cases h1 : rcI p 0 rowP136 with
  | some i => exact .inr ⟨rfl, B 136 _ i (by decide) (by decide) h1 (by omega)⟩
  | none =>
    cases h2 : rcI p 0 rowP161 with
    | some i => exact .inr ⟨rfl, B 161 _ i (by decide) (by decide) h2 (by omega)⟩
    | none =>
      cases h3 : rcI p 0 rowP163 with
      | some i => exact .inr ⟨rfl, B 163 _ i (by decide) (by decide) h3 (by omega)⟩
      | none =>
        cases h4 : rcI p 0 rowP164 with
        | some i => exact .inr ⟨rfl, B 164 _ i (by decide) (by decide) h4 (by omega)⟩
        | none =>
          cases h5 : rcI p 0 rowP165 with
          | some i => exact .inr ⟨rfl, B 165 _ i (by decide) (by decide) h5 (by omega)⟩
          | none => exact .inl rfl
theorem bone_eq (p : Int) : bone p = if (rcode1 p).2 = 0 then ([], 0) else (bigB (rcode1 p).1.toNat 2, 1) := by
  obtain ⟨l1, l2, l3, l4, l5⟩ := row_lens
  have R1 := rowPairs_rev p (7 * 157) rowP136 0
  have R2 := rowPairs_rev p (32 * 157) rowP161 0
  have R3 := rowPairs_rev p (34 * 157) rowP163 0
  have R4 := rowPairs_rev p (35 * 157) rowP164 0
  have R5 := rowPairs_rev p (36 * 157) rowP165 0
  have z : ∀ k : Int, k + ((0 : Nat) : Int) = k := fun k => by omega
  rw [z] at R1 R2 R3 R4 R5
  have B : ∀ lead l i, 129 ≤ lead → rcI p 0 l = some i → l.length ≤ 157 → bcode ((lead - 129) * 157 + i) = rcC lead i := fun lead l i a h hl => bcode_at lead i a (by have := rcI_bd p _ _ _ h; omega)
  unfold bone revl
  rw [big_rows, List.find?_append, List.find?_append, List.find?_append, List.find?_append, R1, R2, R3, R4, R5]
  unfold rcode1
  simp only [rcGo, rcRow, rowP]
  simp only [if_true, show ((161 : Int) = 136) = False from by simp, show ((163 : Int) = 136) = False from by simp, show ((163 : Int) = 161) = False from by simp, show ((164 : Int) = 136) = False from by simp, show ((164 : Int) = 161) = False from by simp, show ((164 : Int) = 163) = False from by simp, show ((165 : Int) = 136) = False from by simp, show ((165 : Int) = 161) = False from by simp, show ((165 : Int) = 163) = False from by simp, show ((165 : Int) = 164) = False from by simp, if_false]
  cases h1 : rcI p 0 rowP136 with
  | some i => simp only [Option.map_some, Option.some_or, if_true]; rw [if_neg (by decide), ← B 136 _ i (by decide) h1 (by omega)]; rfl
  | none =>
    cases h2 : rcI p 0 rowP161 with
    | some i => simp only [Option.map_some, Option.map_none, Option.none_or, Option.some_or, if_true]; rw [if_neg (by decide), ← B 161 _ i (by decide) h2 (by omega)]; rfl
    | none =>
      cases h3 : rcI p 0 rowP163 with
      | some i => simp only [Option.map_some, Option.map_none, Option.none_or, Option.some_or, if_true]; rw [if_neg (by decide), ← B 163 _ i (by decide) h3 (by omega)]; rfl
      | none =>
        cases h4 : rcI p 0 rowP164 with
        | some i => simp only [Option.map_some, Option.map_none, Option.none_or, Option.some_or, if_true]; rw [if_neg (by decide), ← B 164 _ i (by decide) h4 (by omega)]; rfl
        | none =>
          cases h5 : rcI p 0 rowP165 with
          | some i => simp only [Option.map_some, Option.map_none, Option.none_or, if_true]; rw [if_neg (by decide), ← B 165 _ i (by decide) h5 (by omega)]; rfl
          | none => rfl
theorem bbytes_eq (l : List Int) : bbytes l = if (rcode l).2 = 0 then ([], 0) else (bigB (rcode l).1.toNat 2, (rcode l).2) := by
  have H : ∀ p, bone p = if (rcode1 p).2 = 0 then ([], 0) else (bigB (rcode1 p).1.toNat 2, (rcode1 p).2) := fun p => by
    rw [bone_eq]
    rcases rcode1_bd p with h | ⟨h, _⟩
    · rw [h]; rfl
    · rw [h]
  match l with
  | [] => rfl
  | [p] => exact H p
  | p :: q :: r =>
    rw [bbytes_two, rcode_two]
    by_cases h : btwoC p q = 0
    · have h' : ¬ (btwoC p q ≠ 0) := by simp [h]
      rw [if_neg h', if_neg h']; exact H p
    · rw [if_pos h, if_pos h]; rfl
theorem btwoC_bd (p q : Int) : 0 ≤ btwoC p q ∧ btwoC p q < 65536 := by
  unfold btwoC
  repeat' split
  all_goals decide
theorem rcode_bd (l : List Int) : rcode l = (-1, 0) ∨ (0 ≤ (rcode l).1 ∧ (rcode l).1 < 65536 ∧ ((rcode l).2 = 1 ∨ (rcode l).2 = 2)) := by
  have H : ∀ p, rcode1 p = (-1, 0) ∨ (0 ≤ (rcode1 p).1 ∧ (rcode1 p).1 < 65536 ∧ ((rcode1 p).2 = 1 ∨ (rcode1 p).2 = 2)) := fun p => by
    rcases rcode1_bd p with h | ⟨h, h0, h1⟩
    · exact .inl h
    · exact .inr ⟨h0, h1, .inl h⟩
  match l with
  | [] => exact .inl rfl
  | [p] => exact H p
  | p :: q :: r =>
    rw [rcode_two]
    by_cases h : btwoC p q = 0
    · have h' : ¬ (btwoC p q ≠ 0) := by simp [h]
      rw [if_neg h']; exact H p
    · rw [if_pos h]; exact .inr ⟨(btwoC_bd p q).1, (btwoC_bd p q).2, .inr rfl⟩
theorem bbytes_app (l m : List Int) (h : 2 ≤ l.length) : bbytes (l ++ m) = bbytes l := by
  match l, h with
  | p :: q :: r, _ => rfl
theorem bbytes_one (l : List Int) (h : 2 ≤ l.length) : (bbytes l).2 = 2 ∨ bbytes l = bbytes [l.getD 0 0] := by
  match l, h with
  | p :: q :: r, _ =>
    rw [bbytes_two]
    by_cases h : btwoC p q = 0
    · have h' : ¬ (btwoC p q ≠ 0) := by simp [h]
      rw [if_neg h']; exact .inr rfl
    · rw [if_pos h]; exact .inl rfl
end Go.Proofs.Dia
