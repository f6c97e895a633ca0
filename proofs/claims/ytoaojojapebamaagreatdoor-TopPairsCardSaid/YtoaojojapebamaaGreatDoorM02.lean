/- PLAIN LAWS ON THE REFERENCE's 'At': what it reckons byte by byte is the sign at a text's head. -/
import Derived.Test.YtoaojojapebamaaGreatDoorM01
namespace Go.Proofs.Dia
open Go.Lib

/-- the six bits of a byte that goes on -/
def more (l : List UInt8) (i : Nat) : Int :=
  match l[i]? with
  | none => -1
  | some b => if b.toNat < 128 ∨ 191 < b.toNat then -1 else (b.toNat : Int) - 128
theorem more_le (l : List UInt8) (i : Nat) : -1 ≤ more l i ∧ more l i ≤ 63 := by
  unfold more
  cases l[i]? with
  | none => simp
  | some b => simp only; have := b.toNat_lt; split <;> omega
theorem more_drop (l : List UInt8) (i j : Nat) : more l (i + j) = if j < (l.drop i).length ∧ ((l.drop i).getD j 0).toNat / 64 = 2 then (((l.drop i).getD j 0).toNat : Int) % 64 else -1 := by
  unfold more
  by_cases h : j < (l.drop i).length
  · have h2 : i + j < l.length := by rw [List.length_drop] at h; omega
    have e : (l.drop i).getD j 0 = l[i + j] := by
      rw [List.getD_eq_getElem?_getD, List.getElem?_drop, List.getElem?_eq_getElem h2]; rfl
    rw [List.getElem?_eq_getElem h2, e]
    simp only
    have := l[i + j].toNat_lt
    by_cases c : l[i + j].toNat < 128 ∨ 191 < l[i + j].toNat
    · rw [if_pos c, if_neg (by omega)]
    · rw [if_neg c, if_pos ⟨h, by omega⟩]; omega
  · rw [if_neg (by omega), List.getElem?_eq_none (by rw [List.length_drop] at h; omega)]

/-- the number behind k bytes that go on -/
def acc (l : List UInt8) (i : Nat) (p0 : Int) : Nat → Int
  | 0 => p0
  | k + 1 => acc l i p0 k * 64 + more l (i + (k + 1))
/-- what the first byte tells: how many bytes, and its bits -/
def Lead (c : Nat) (n : Nat) (p0 : Int) : Prop := (n = 2 ∧ 192 ≤ c ∧ c < 224 ∧ p0 = (c : Int) - 192) ∨ (n = 3 ∧ 224 ≤ c ∧ c < 240 ∧ p0 = (c : Int) - 224) ∨ (n = 4 ∧ 240 ≤ c ∧ c < 248 ∧ p0 = (c : Int) - 240)

theorem enc_length {p : Int} (h : sc p = true) : (enc p).length = if p < 128 then 1 else if p < 2048 then 2 else if p < 65536 then 3 else 4 := by
  rcases sc_cases h with h | h | h | h
  · rw [enc_one h.1 h.2, if_pos (by omega)]; rfl
  · rw [enc_two h.1 h.2, if_neg (by omega), if_pos (by omega)]; rfl
  · rw [enc_three h, if_neg (by omega), if_neg (by omega), if_pos (by omega)]; rfl
  · rw [enc_four h.1 h.2, if_neg (by omega), if_neg (by omega), if_neg (by omega)]; rfl

theorem hd_of_bad {L : List UInt8} (h : L ≠ []) (D : decodeN L.length (L.getD 0 0).toNat (L.getD 1 0).toNat (L.getD 2 0).toNat (L.getD 3 0).toNat = (65533, 1)) : hd L = (0, 0) := by
  unfold hd
  rw [if_neg h]
  simp only [D]
  simp

theorem lead_head {l : List UInt8} {i : Nat} (hi : i < l.length) : ((l.drop i).getD 0 0) = l[i] := by
  rw [List.getD_eq_getElem?_getD, List.getElem?_drop]; simp [hi]
theorem drop_ne {l : List UInt8} {i : Nat} (hi : i < l.length) : l.drop i ≠ [] := by
  intro e; have := congrArg List.length e; rw [List.length_drop] at this; simp at this; omega

theorem at_ascii {l : List UInt8} {i : Nat} (hi : i < l.length) (hc : l[i].toNat < 128) : hd (l.drop i) = ((l[i].toNat : Int), 1) := by
  refine hd_of (drop_ne hi) ?_ (by omega)
  rw [lead_head hi]
  unfold decodeN
  rw [if_pos hc]
theorem at_stray {l : List UInt8} {i : Nat} (hi : i < l.length) (hc : (128 ≤ l[i].toNat ∧ l[i].toNat < 192) ∨ 248 ≤ l[i].toNat) : hd (l.drop i) = (0, 0) := by
  refine hd_of_bad (drop_ne hi) ?_
  rw [lead_head hi]
  have := l[i].toNat_lt
  unfold decodeN
  rw [if_neg (by omega), if_neg (by omega), if_neg (by omega), if_neg (by omega)]
theorem at_short {l : List UInt8} {i n : Nat} {p0 : Int} (hi : i < l.length) (hc : Lead l[i].toNat n p0) {k : Nat} (hk1 : 1 ≤ k) (hk2 : k < n) (hm : more l (i + k) < 0) : hd (l.drop i) = (0, 0) := by
  refine hd_of_bad (drop_ne hi) ?_
  rw [lead_head hi]
  have hb := l[i].toNat_lt
  rw [more_drop] at hm
  have hm' : ¬ (k < (l.drop i).length ∧ ((l.drop i).getD k 0).toNat / 64 = 2) := by
    intro h; rw [if_pos h] at hm; omega
  unfold decodeN
  rw [if_neg (by unfold Lead at hc; omega)]
  unfold Lead at hc
  have hk : k = 1 ∨ k = 2 ∨ k = 3 := by omega
  rcases hc with ⟨rfl, h1, h2, _⟩ | ⟨rfl, h1, h2, _⟩ | ⟨rfl, h1, h2, _⟩
  · obtain rfl : k = 1 := by omega
    rw [if_neg (by omega), if_neg (by omega), if_neg (by omega)]
  · rw [if_neg (by omega)]
    rcases hk with rfl | rfl | rfl
    · rw [if_neg (by omega), if_neg (by omega)]
    · rw [if_neg (by omega), if_neg (by omega)]
    · omega
  · rw [if_neg (by omega), if_neg (by omega)]
    rcases hk with rfl | rfl | rfl
    · rw [if_neg (by omega)]
    · rw [if_neg (by omega)]
    · rw [if_neg (by omega)]
theorem more_pos {l : List UInt8} {i j : Nat} (h : 0 ≤ more l (i + j)) : j < (l.drop i).length ∧ ((l.drop i).getD j 0).toNat / 64 = 2 ∧ more l (i + j) = (((l.drop i).getD j 0).toNat : Int) % 64 := by
  rw [more_drop] at h ⊢
  by_cases c : j < (l.drop i).length ∧ ((l.drop i).getD j 0).toNat / 64 = 2
  · rw [if_pos c]; exact ⟨c.1, c.2, rfl⟩
  · rw [if_neg c] at h; omega
theorem at_end {l : List UInt8} {i n : Nat} {p0 : Int} (hi : i < l.length) (hc : Lead l[i].toNat n p0) (hm : ∀ k, 1 ≤ k → k < n → 0 ≤ more l (i + k)) :
    (¬ (sc (acc l i p0 (n - 1)) = true ∧ (enc (acc l i p0 (n - 1))).length = n) → hd (l.drop i) = (0, 0)) ∧
    ((sc (acc l i p0 (n - 1)) = true ∧ (enc (acc l i p0 (n - 1))).length = n) → hd (l.drop i) = (acc l i p0 (n - 1), n)) := by
  have hb := l[i].toNat_lt
  unfold Lead at hc
  rcases hc with ⟨rfl, h1, h2, h3⟩ | ⟨rfl, h1, h2, h3⟩ | ⟨rfl, h1, h2, h3⟩
  · obtain ⟨a1, b1, c1⟩ := more_pos (hm 1 (by omega) (by omega))
    have e : acc l i p0 (2 - 1) = p0 * 64 + more l (i + 1) := rfl
    rw [e]
    have D : decodeN (l.drop i).length ((l.drop i).getD 0 0).toNat ((l.drop i).getD 1 0).toNat ((l.drop i).getD 2 0).toNat ((l.drop i).getD 3 0).toNat =
        if l[i].toNat % 32 * 64 + ((l.drop i).getD 1 0).toNat % 64 ≥ 128 then (l[i].toNat % 32 * 64 + ((l.drop i).getD 1 0).toNat % 64, 2) else (65533, 1) := by
      rw [lead_head hi]; unfold decodeN
      rw [if_neg (by omega), if_pos (by omega)]
    have hs : sc (p0 * 64 + more l (i + 1)) = true := by rw [sc_iff]; omega
    rw [enc_length hs]
    generalize hp : p0 * 64 + more l (i + 1) = p at *
    by_cases c : 128 ≤ p
    · rw [if_pos (by omega)] at D
      rw [if_neg (by omega), if_pos (by omega)]
      refine ⟨fun h => absurd ⟨hs, rfl⟩ h, fun _ => ?_⟩
      rw [hd_of (drop_ne hi) D (by omega)]
      refine Prod.ext ?_ rfl
      show _ = p
      omega
    · rw [if_neg (by omega)] at D
      rw [if_pos (by omega)]
      exact ⟨fun _ => hd_of_bad (drop_ne hi) D, fun h => by omega⟩
  · obtain ⟨a1, b1, c1⟩ := more_pos (hm 1 (by omega) (by omega))
    obtain ⟨a2, b2, c2⟩ := more_pos (hm 2 (by omega) (by omega))
    have e : acc l i p0 (3 - 1) = (p0 * 64 + more l (i + 1)) * 64 + more l (i + 2) := rfl
    rw [e]
    have D : decodeN (l.drop i).length ((l.drop i).getD 0 0).toNat ((l.drop i).getD 1 0).toNat ((l.drop i).getD 2 0).toNat ((l.drop i).getD 3 0).toNat =
        if l[i].toNat % 16 * 4096 + ((l.drop i).getD 1 0).toNat % 64 * 64 + ((l.drop i).getD 2 0).toNat % 64 ≥ 2048 ∧ (l[i].toNat % 16 * 4096 + ((l.drop i).getD 1 0).toNat % 64 * 64 + ((l.drop i).getD 2 0).toNat % 64 < 55296 ∨ (57344 ≤ l[i].toNat % 16 * 4096 + ((l.drop i).getD 1 0).toNat % 64 * 64 + ((l.drop i).getD 2 0).toNat % 64 ∧ l[i].toNat % 16 * 4096 + ((l.drop i).getD 1 0).toNat % 64 * 64 + ((l.drop i).getD 2 0).toNat % 64 ≤ 1114111)) then (l[i].toNat % 16 * 4096 + ((l.drop i).getD 1 0).toNat % 64 * 64 + ((l.drop i).getD 2 0).toNat % 64, 3) else (65533, 1) := by
      rw [lead_head hi]; unfold decodeN
      rw [if_neg (by omega), if_neg (by omega), if_pos (by omega)]
    generalize hp : (p0 * 64 + more l (i + 1)) * 64 + more l (i + 2) = p at *
    by_cases c : 2048 ≤ p ∧ (p < 55296 ∨ 57343 < p)
    · rw [if_pos (by omega)] at D
      have hs : sc p = true := by rw [sc_iff]; omega
      refine ⟨fun h => absurd ⟨hs, by rw [enc_length hs, if_neg (by omega), if_neg (by omega), if_pos (by omega)]⟩ h, fun _ => ?_⟩
      rw [hd_of (drop_ne hi) D (by omega)]
      refine Prod.ext ?_ rfl
      show _ = p
      omega
    · rw [if_neg (by omega)] at D
      refine ⟨fun _ => hd_of_bad (drop_ne hi) D, fun h => ?_⟩
      have hs := h.1
      have hl := h.2
      rw [enc_length hs] at hl
      rw [sc_iff] at hs
      by_cases q : p < 128
      · rw [if_pos q] at hl; omega
      · rw [if_neg q, if_pos (by omega)] at hl; omega
  · obtain ⟨a1, b1, c1⟩ := more_pos (hm 1 (by omega) (by omega))
    obtain ⟨a2, b2, c2⟩ := more_pos (hm 2 (by omega) (by omega))
    obtain ⟨a3, b3, c3⟩ := more_pos (hm 3 (by omega) (by omega))
    have e : acc l i p0 (4 - 1) = ((p0 * 64 + more l (i + 1)) * 64 + more l (i + 2)) * 64 + more l (i + 3) := rfl
    rw [e]
    have D : decodeN (l.drop i).length ((l.drop i).getD 0 0).toNat ((l.drop i).getD 1 0).toNat ((l.drop i).getD 2 0).toNat ((l.drop i).getD 3 0).toNat =
        if l[i].toNat % 8 * 262144 + ((l.drop i).getD 1 0).toNat % 64 * 4096 + ((l.drop i).getD 2 0).toNat % 64 * 64 + ((l.drop i).getD 3 0).toNat % 64 ≥ 65536 ∧ (l[i].toNat % 8 * 262144 + ((l.drop i).getD 1 0).toNat % 64 * 4096 + ((l.drop i).getD 2 0).toNat % 64 * 64 + ((l.drop i).getD 3 0).toNat % 64 < 55296 ∨ (57344 ≤ l[i].toNat % 8 * 262144 + ((l.drop i).getD 1 0).toNat % 64 * 4096 + ((l.drop i).getD 2 0).toNat % 64 * 64 + ((l.drop i).getD 3 0).toNat % 64 ∧ l[i].toNat % 8 * 262144 + ((l.drop i).getD 1 0).toNat % 64 * 4096 + ((l.drop i).getD 2 0).toNat % 64 * 64 + ((l.drop i).getD 3 0).toNat % 64 ≤ 1114111)) then (l[i].toNat % 8 * 262144 + ((l.drop i).getD 1 0).toNat % 64 * 4096 + ((l.drop i).getD 2 0).toNat % 64 * 64 + ((l.drop i).getD 3 0).toNat % 64, 4) else (65533, 1) := by
      rw [lead_head hi]; unfold decodeN
      rw [if_neg (by omega), if_neg (by omega), if_neg (by omega), if_pos (by omega)]
    generalize hp : ((p0 * 64 + more l (i + 1)) * 64 + more l (i + 2)) * 64 + more l (i + 3) = p at *
    by_cases c : 65536 ≤ p ∧ p ≤ 1114111
    · rw [if_pos (by omega)] at D
      have hs : sc p = true := by rw [sc_iff]; omega
      refine ⟨fun h => absurd ⟨hs, by rw [enc_length hs, if_neg (by omega), if_neg (by omega), if_neg (by omega)]⟩ h, fun _ => ?_⟩
      rw [hd_of (drop_ne hi) D (by omega)]
      refine Prod.ext ?_ rfl
      show _ = p
      omega
    · rw [if_neg (by omega)] at D
      refine ⟨fun _ => hd_of_bad (drop_ne hi) D, fun h => ?_⟩
      have hs := h.1
      have hl := h.2
      rw [enc_length hs] at hl
      rw [sc_iff] at hs
      by_cases q : p < 128
      · rw [if_pos q] at hl; omega
      · rw [if_neg q] at hl
        by_cases q2 : p < 2048
        · rw [if_pos q2] at hl; omega
        · rw [if_neg q2, if_pos (by omega)] at hl; omega
end Go.Proofs.Dia
