/- PLAIN LAWS ON UTF-8: a sign's bytes 'enc', the sign at a text's head 'hd', a text's signs 'pts'. No program in sight. -/
import Derived.Lib.RuneBytes
import Derived.Lib.DecodeN
import Derived.Lib.Small
namespace Go.Proofs.Dia
open Go.Lib

def sc (p : Int) : Bool := Lib.validRune p
theorem sc_iff (p : Int) : sc p = true ↔ (0 ≤ p ∧ p < 55296) ∨ (57343 < p ∧ p ≤ 1114111) := by
  unfold sc Lib.validRune; simp
def enc (p : Int) : List UInt8 := Lib.encodeRune p
def encs (l : List Int) : List UInt8 := l.flatMap enc
/-- the sign at the head; 0 bytes: none -/
def hd (l : List UInt8) : Int × Nat :=
  if l = [] then (0, 0) else
  let d := decodeN l.length (l.getD 0 0).toNat (l.getD 1 0).toNat (l.getD 2 0).toNat (l.getD 3 0).toNat
  if d.1 = 65533 ∧ d.2 ≤ 1 then (0, 0) else ((d.1 : Int), d.2)

theorem enc_one {p : Int} (h0 : 0 ≤ p) (h1 : p < 128) : enc p = [p.toNat.toUInt8] := by
  unfold enc Lib.encodeRune; rw [Lib.encodeRuneZ_one h0 (by omega)]; rfl
theorem enc_two {p : Int} (h0 : 128 ≤ p) (h1 : p < 2048) : enc p = [(192 + p / 64).toNat.toUInt8, (128 + p % 64).toNat.toUInt8] := by
  unfold enc Lib.encodeRune; rw [Lib.encodeRuneZ_two h0 (by omega)]; rfl
theorem enc_three {p : Int} (h : (2048 ≤ p ∧ p < 55296) ∨ (57343 < p ∧ p ≤ 65535)) :
    enc p = [(224 + p / 4096).toNat.toUInt8, (128 + p / 64 % 64).toNat.toUInt8, (128 + p % 64).toNat.toUInt8] := by
  unfold enc Lib.encodeRune; rw [Lib.encodeRuneZ_three h]; rfl
theorem enc_four {p : Int} (h0 : 65536 ≤ p) (h1 : p ≤ 1114111) :
    enc p = [(240 + p / 262144).toNat.toUInt8, (128 + p / 4096 % 64).toNat.toUInt8, (128 + p / 64 % 64).toNat.toUInt8, (128 + p % 64).toNat.toUInt8] := by
  unfold enc Lib.encodeRune; rw [Lib.encodeRuneZ_four h0 h1]; rfl

theorem u8 (x : Nat) (h : x < 256) : (x.toUInt8).toNat = x := by
  simp [Nat.toUInt8, UInt8.toNat_ofNat']; omega
theorem u8_eq {x : Nat} {b : UInt8} (h : x = b.toNat) : x.toUInt8 = b := by
  apply UInt8.toNat_inj.1; rw [u8 x (by have := b.toNat_lt; omega), h]

theorem sc_cases {p : Int} (h : sc p = true) : (0 ≤ p ∧ p < 128) ∨ (128 ≤ p ∧ p < 2048) ∨ ((2048 ≤ p ∧ p < 55296) ∨ (57343 < p ∧ p ≤ 65535)) ∨ (65536 ≤ p ∧ p ≤ 1114111) := by
  rw [sc_iff] at h; omega

theorem enc_ne {p : Int} (h : sc p = true) : enc p ≠ [] := by
  rcases sc_cases h with h | h | h | h
  · rw [enc_one h.1 h.2]; simp
  · rw [enc_two h.1 h.2]; simp
  · rw [enc_three h]; simp
  · rw [enc_four h.1 h.2]; simp
theorem enc_len {p : Int} (h : sc p = true) : 1 ≤ (enc p).length ∧ (enc p).length ≤ 4 := by
  rcases sc_cases h with h | h | h | h
  · rw [enc_one h.1 h.2]; simp
  · rw [enc_two h.1 h.2]; simp
  · rw [enc_three h]; simp
  · rw [enc_four h.1 h.2]; simp

theorem hd_of {l : List UInt8} (h : l ≠ []) {x k : Nat} (D : decodeN l.length (l.getD 0 0).toNat (l.getD 1 0).toNat (l.getD 2 0).toNat (l.getD 3 0).toNat = (x, k)) (hk : ¬ (x = 65533 ∧ k ≤ 1)) : hd l = ((x : Int), k) := by
  unfold hd
  rw [if_neg h]
  simp only [D]
  rw [if_neg hk]
/-- what stands ahead is read -/
theorem hd_enc {p : Int} (h : sc p = true) (r : List UInt8) : hd (enc p ++ r) = (p, (enc p).length) := by
  obtain ⟨n, rfl⟩ := Int.eq_ofNat_of_zero_le (show 0 ≤ p by rw [sc_iff] at h; omega)
  rcases sc_cases h with h | h | h | h
  · rw [enc_one h.1 h.2]
    refine hd_of (by simp) (k := 1) ?_ (by omega)
    simp only [List.cons_append, List.nil_append, List.getD_cons_zero]
    rw [u8 _ (by omega)]
    unfold decodeN
    rw [if_pos (by omega)]; simp
  · rw [enc_two h.1 h.2]
    refine hd_of (by simp) (k := 2) ?_ (by omega)
    simp only [List.cons_append, List.nil_append, List.getD_cons_zero, List.getD_cons_succ, List.length_cons]
    rw [u8 _ (by omega), u8 _ (by omega)]
    unfold decodeN
    rw [if_neg (by omega), if_pos (by omega), if_pos (by omega)]
    refine Prod.ext ?_ rfl
    show _ = _
    omega
  · rw [enc_three h]
    refine hd_of (by simp) (k := 3) ?_ (by omega)
    simp only [List.cons_append, List.nil_append, List.getD_cons_zero, List.getD_cons_succ, List.length_cons]
    rw [u8 _ (by omega), u8 _ (by omega), u8 _ (by omega)]
    unfold decodeN
    rw [if_neg (by omega), if_neg (by omega), if_pos (by omega), if_pos (by omega)]
    refine Prod.ext ?_ rfl
    show _ = _
    omega
  · rw [enc_four h.1 h.2]
    refine hd_of (by simp) (k := 4) ?_ (by omega)
    simp only [List.cons_append, List.nil_append, List.getD_cons_zero, List.getD_cons_succ, List.length_cons]
    rw [u8 _ (by omega), u8 _ (by omega), u8 _ (by omega), u8 _ (by omega)]
    unfold decodeN
    rw [if_neg (by omega), if_neg (by omega), if_neg (by omega), if_pos (by omega), if_pos (by omega)]
    refine Prod.ext ?_ rfl
    show _ = _
    omega

/-- what decodeN reads, if it reads -/
theorem decodeN_cases (n b0 b1 b2 b3 : Nat) (_hb0 : b0 < 256) (_hb1 : b1 < 256) (_hb2 : b2 < 256) (_hb3 : b3 < 256) (hx : ¬ ((decodeN n b0 b1 b2 b3).1 = 65533 ∧ (decodeN n b0 b1 b2 b3).2 ≤ 1)) :
    (b0 < 128 ∧ decodeN n b0 b1 b2 b3 = (b0, 1)) ∨
    (1 < n ∧ ∃ p : Nat, 128 ≤ p ∧ p < 2048 ∧ b0 = 192 + p / 64 ∧ b1 = 128 + p % 64 ∧ decodeN n b0 b1 b2 b3 = (p, 2)) ∨
    (2 < n ∧ ∃ p : Nat, 2048 ≤ p ∧ p ≤ 65535 ∧ (p < 55296 ∨ 57343 < p) ∧ b0 = 224 + p / 4096 ∧ b1 = 128 + p / 64 % 64 ∧ b2 = 128 + p % 64 ∧ decodeN n b0 b1 b2 b3 = (p, 3)) ∨
    (3 < n ∧ ∃ p : Nat, 65536 ≤ p ∧ p ≤ 1114111 ∧ b0 = 240 + p / 262144 ∧ b1 = 128 + p / 4096 % 64 ∧ b2 = 128 + p / 64 % 64 ∧ b3 = 128 + p % 64 ∧ decodeN n b0 b1 b2 b3 = (p, 4)) := by
  unfold decodeN at *
  by_cases c1 : b0 < 128
  · rw [if_pos c1]; exact .inl ⟨c1, rfl⟩
  · rw [if_neg c1] at *
    by_cases c2 : b0 / 32 = 6 ∧ (1 < n ∧ b1 / 64 = 2)
    · rw [if_pos c2] at *
      by_cases d : b0 % 32 * 64 + b1 % 64 ≥ 128
      · rw [if_pos d] at *
        exact .inr (.inl ⟨c2.2.1, b0 % 32 * 64 + b1 % 64, d, by omega, by omega, by omega, rfl⟩)
      · rw [if_neg d] at hx; simp at hx
    · rw [if_neg c2] at *
      by_cases c3 : b0 / 16 = 14 ∧ (1 < n ∧ b1 / 64 = 2) ∧ (2 < n ∧ b2 / 64 = 2)
      · rw [if_pos c3] at *
        by_cases d : b0 % 16 * 4096 + b1 % 64 * 64 + b2 % 64 ≥ 2048 ∧ (b0 % 16 * 4096 + b1 % 64 * 64 + b2 % 64 < 55296 ∨ (57344 ≤ b0 % 16 * 4096 + b1 % 64 * 64 + b2 % 64 ∧ b0 % 16 * 4096 + b1 % 64 * 64 + b2 % 64 ≤ 1114111))
        · rw [if_pos d] at *
          exact .inr (.inr (.inl ⟨c3.2.2.1, b0 % 16 * 4096 + b1 % 64 * 64 + b2 % 64, d.1, by omega, by omega, by omega, by omega, by omega, rfl⟩))
        · rw [if_neg d] at hx; simp at hx
      · rw [if_neg c3] at *
        by_cases c4 : b0 / 8 = 30 ∧ (1 < n ∧ b1 / 64 = 2) ∧ (2 < n ∧ b2 / 64 = 2) ∧ (3 < n ∧ b3 / 64 = 2)
        · rw [if_pos c4] at *
          by_cases d : b0 % 8 * 262144 + b1 % 64 * 4096 + b2 % 64 * 64 + b3 % 64 ≥ 65536 ∧ (b0 % 8 * 262144 + b1 % 64 * 4096 + b2 % 64 * 64 + b3 % 64 < 55296 ∨ (57344 ≤ b0 % 8 * 262144 + b1 % 64 * 4096 + b2 % 64 * 64 + b3 % 64 ∧ b0 % 8 * 262144 + b1 % 64 * 4096 + b2 % 64 * 64 + b3 % 64 ≤ 1114111))
          · rw [if_pos d] at *
            exact .inr (.inr (.inr ⟨c4.2.2.2.1, b0 % 8 * 262144 + b1 % 64 * 4096 + b2 % 64 * 64 + b3 % 64, d.1, by omega, by omega, by omega, by omega, by omega, rfl⟩))
          · rw [if_neg d] at hx; simp at hx
        · rw [if_neg c4] at hx; simp at hx

theorem hd_some {l : List UInt8} (h : (hd l).2 ≠ 0) : sc (hd l).1 = true ∧ (hd l).2 = (enc (hd l).1).length ∧ l = enc (hd l).1 ++ l.drop (hd l).2 := by
  unfold hd at *
  by_cases e : l = []
  · simp [e] at h
  rw [if_neg e] at *
  simp only at *
  by_cases hx : (decodeN l.length (l.getD 0 0).toNat (l.getD 1 0).toNat (l.getD 2 0).toNat (l.getD 3 0).toNat).1 = 65533 ∧ (decodeN l.length (l.getD 0 0).toNat (l.getD 1 0).toNat (l.getD 2 0).toNat (l.getD 3 0).toNat).2 ≤ 1
  · rw [if_pos hx] at h; simp at h
  rw [if_neg hx]
  have H := decodeN_cases _ _ _ _ _ (l.getD 0 0).toNat_lt (l.getD 1 0).toNat_lt (l.getD 2 0).toNat_lt (l.getD 3 0).toNat_lt hx
  rcases H with ⟨h1, h2⟩ | ⟨hn, p, h1, h2, h3, h4, h5⟩ | ⟨hn, p, h1, h2, h3, h4, h5, h6, h7⟩ | ⟨hn, p, h1, h2, h3, h4, h5, h6, h7⟩
  · rw [h2]
    match l, e with
    | a :: r, _ =>
      simp only [List.getD_cons_zero] at *
      refine ⟨by rw [sc_iff]; omega, ?_, ?_⟩
      · rw [enc_one (by omega) (by omega)]; rfl
      · rw [enc_one (by omega) (by omega), u8_eq (b := a) (by omega)]; rfl
  · rw [h5]
    match l, hn with
    | a :: b :: r, _ =>
      simp only [List.getD_cons_zero, List.getD_cons_succ] at *
      refine ⟨by rw [sc_iff]; omega, ?_, ?_⟩
      · rw [enc_two (by omega) (by omega)]; rfl
      · rw [enc_two (by omega) (by omega), u8_eq (b := a) (by omega), u8_eq (b := b) (by omega)]; rfl
    | [a], hn => simp at hn
    | [], hn => simp at hn
  · rw [h7]
    match l, hn with
    | a :: b :: c :: r, _ =>
      simp only [List.getD_cons_zero, List.getD_cons_succ] at *
      refine ⟨by rw [sc_iff]; omega, ?_, ?_⟩
      · rw [enc_three (by omega)]; rfl
      · rw [enc_three (by omega), u8_eq (b := a) (by omega), u8_eq (b := b) (by omega), u8_eq (b := c) (by omega)]; rfl
    | [a, b], hn => simp at hn
    | [a], hn => simp at hn
    | [], hn => simp at hn
  · rw [h7]
    match l, hn with
    | a :: b :: c :: d :: r, _ =>
      simp only [List.getD_cons_zero, List.getD_cons_succ] at *
      refine ⟨by rw [sc_iff]; omega, ?_, ?_⟩
      · rw [enc_four (by omega) (by omega)]; rfl
      · rw [enc_four (by omega) (by omega), u8_eq (b := a) (by omega), u8_eq (b := b) (by omega), u8_eq (b := c) (by omega), u8_eq (b := d) (by omega)]; rfl
    | [a, b, c], hn => simp at hn
    | [a, b], hn => simp at hn
    | [a], hn => simp at hn
    | [], hn => simp at hn
theorem hd_none {l : List UInt8} (h : (hd l).2 = 0) : hd l = (0, 0) := by
  unfold hd at *
  by_cases e : l = []
  · rw [if_pos e]
  rw [if_neg e] at *
  simp only at *
  split
  · rfl
  · rename_i hx
    rw [if_neg hx] at h
    simp only at h
    have H := decodeN_cases _ _ _ _ _ (l.getD 0 0).toNat_lt (l.getD 1 0).toNat_lt (l.getD 2 0).toNat_lt (l.getD 3 0).toNat_lt hx
    rcases H with ⟨_, h2⟩ | ⟨_, p, _, _, _, _, h2⟩ | ⟨_, p, _, _, _, _, _, _, h2⟩ | ⟨_, p, _, _, _, _, _, _, h2⟩ <;> rw [h2] at h <;> simp at h

theorem hd_le (l : List UInt8) : (hd l).2 ≤ 4 := by
  by_cases h : (hd l).2 = 0
  · omega
  · obtain ⟨h1, h2, _⟩ := hd_some h
    have := enc_len h1
    omega
/-- a text's signs, and the place where there is none (-1: all are) -/
def ptsGo : Nat → List UInt8 → Nat → List Int → List Int × Int
  | 0, _, _, acc => (acc, -1)
  | f + 1, l, i, acc => if l = [] then (acc, -1) else if (hd l).2 = 0 then ([], i) else ptsGo f (l.drop (hd l).2) (i + (hd l).2) (acc ++ [(hd l).1])
def pts (l : List UInt8) : List Int × Int := ptsGo (l.length + 1) l 0 []

theorem encs_nil : encs [] = [] := rfl
theorem encs_cons (p : Int) (ps : List Int) : encs (p :: ps) = enc p ++ encs ps := by simp [encs]
theorem encs_append (a b : List Int) : encs (a ++ b) = encs a ++ encs b := by simp [encs]
theorem encs_snoc (a : List Int) (p : Int) : encs (a ++ [p]) = encs a ++ enc p := by simp [encs]

theorem ptsGo_ok : ∀ (ps : List Int) (f i : Nat) (acc : List Int), (∀ p ∈ ps, sc p = true) → (encs ps).length < f → ptsGo f (encs ps) i acc = (acc ++ ps, -1)
  | [], f, i, acc, _, hf => by
    match f with
    | f + 1 => simp [ptsGo, encs_nil]
  | p :: ps, f, i, acc, h, hf => by
    match f with
    | f + 1 =>
      have hp := h p (by simp)
      have hl := enc_len hp
      have hne : encs (p :: ps) ≠ [] := by rw [encs_cons]; simp [enc_ne hp]
      rw [ptsGo, if_neg hne, encs_cons, hd_enc hp, if_neg (by simp only; omega), List.drop_left]
      rw [ptsGo_ok ps f _ _ (fun q hq => h q (by simp [hq])) (by rw [encs_cons, List.length_append] at hf; omega)]
      simp
theorem ptsGo_bad (r : List UInt8) (hr : r ≠ []) (hh : (hd r).2 = 0) : ∀ (ps : List Int) (f i : Nat) (acc : List Int), (∀ p ∈ ps, sc p = true) → (encs ps).length < f →
    ptsGo f (encs ps ++ r) i acc = ([], ((i + (encs ps).length : Nat) : Int))
  | [], f, i, acc, _, hf => by
    match f with
    | f + 1 => rw [encs_nil, List.nil_append, ptsGo, if_neg hr, if_pos hh]; simp
  | p :: ps, f, i, acc, h, hf => by
    match f with
    | f + 1 =>
      have hp := h p (by simp)
      have hl := enc_len hp
      have hne : encs (p :: ps) ++ r ≠ [] := by rw [encs_cons]; simp [enc_ne hp]
      rw [ptsGo, if_neg hne, encs_cons, List.append_assoc, hd_enc hp, if_neg (by simp only; omega), List.drop_left]
      rw [ptsGo_bad r hr hh ps f _ _ (fun q hq => h q (by simp [hq])) (by rw [encs_cons, List.length_append] at hf; omega)]
      simp only [List.length_append]
      congr 2
      omega
theorem pts_ok (ps : List Int) (h : ∀ p ∈ ps, sc p = true) : pts (encs ps) = (ps, -1) := by
  unfold pts; rw [ptsGo_ok ps _ _ _ h (by omega)]; simp
theorem pts_bad (ps : List Int) (h : ∀ p ∈ ps, sc p = true) (r : List UInt8) (hr : r ≠ []) (hh : (hd r).2 = 0) : pts (encs ps ++ r) = ([], ((encs ps).length : Int)) := by
  unfold pts; rw [ptsGo_bad r hr hh ps _ _ _ h (by simp; omega)]; simp

/-- each text is signs, or signs and then none -/
theorem pts_split : ∀ (n : Nat) (l : List UInt8), l.length ≤ n → ∃ ps r, (∀ p ∈ ps, sc p = true) ∧ l = encs ps ++ r ∧ (r ≠ [] → (hd r).2 = 0)
  | 0, l, h => ⟨[], [], by simp, by simpa [encs_nil] using h, by simp⟩
  | n + 1, l, h => by
    by_cases e : (hd l).2 = 0
    · exact ⟨[], l, by simp, by simp [encs_nil], fun _ => e⟩
    · obtain ⟨h1, h2, h3⟩ := hd_some e
      have h4 := enc_len h1
      obtain ⟨ps, r, g1, g2, g3⟩ := pts_split n (l.drop (hd l).2) (by rw [List.length_drop]; omega)
      refine ⟨(hd l).1 :: ps, r, ?_, ?_, g3⟩
      · intro p hp
        rcases List.mem_cons.1 hp with rfl | hp
        · exact h1
        · exact g1 p hp
      · rw [encs_cons, List.append_assoc, ← g2]; exact h3
theorem pts_cases (l : List UInt8) : (∃ ps, (∀ p ∈ ps, sc p = true) ∧ l = encs ps ∧ pts l = (ps, -1)) ∨
    (∃ ps r, (∀ p ∈ ps, sc p = true) ∧ r ≠ [] ∧ (hd r).2 = 0 ∧ l = encs ps ++ r ∧ pts l = ([], ((encs ps).length : Int))) := by
  obtain ⟨ps, r, h1, h2, h3⟩ := pts_split l.length l (Nat.le_refl _)
  by_cases hr : r = []
  · left; subst hr; rw [List.append_nil] at h2; exact ⟨ps, h1, h2, by rw [h2]; exact pts_ok ps h1⟩
  · right; exact ⟨ps, r, h1, hr, h3 hr, h2, by rw [h2]; exact pts_bad ps h1 r hr (h3 hr)⟩
theorem encs_len_ge : ∀ (ps : List Int), (∀ p ∈ ps, sc p = true) → ps.length ≤ (encs ps).length
  | [], _ => by simp
  | p :: ps, h => by
    have h1 := enc_len (h p (by simp))
    have h2 := encs_len_ge ps (fun q hq => h q (by simp [hq]))
    rw [encs_cons, List.length_append, List.length_cons]; omega
theorem pts_len (l : List UInt8) : (pts l).1.length ≤ l.length := by
  rcases pts_cases l with ⟨ps, h1, h2, h3⟩ | ⟨ps, r, h1, h2, h3, h4, h5⟩
  · rw [h3]; have := encs_len_ge ps h1; rw [← h2] at this; exact this
  · rw [h5]; simp
end Go.Proofs.Dia
