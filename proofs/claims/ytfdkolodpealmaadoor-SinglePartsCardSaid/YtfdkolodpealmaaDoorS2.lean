/- PLAIN: single, decoding and encoding -/
import Derived.Test.YtfdkolodpealmaaDoorS1
import Derived.Test.YtfdkolodpealmaaDoorT1
namespace Go.Proofs.Dia
theorem fwd_pairs : ∀ (l : List Int) (k : Int) (n : Nat), n < l.length → fwdl (pairsF k l) (k + (n : Int)) = (l.getD n 0, true)
  | p :: l, k, 0, _ => by simp [pairsF, fwdl]
  | p :: l, k, n + 1, h => by
    have ih := fwd_pairs l (k + 1) n (by simpa using h)
    have e : k + 1 + (n : Int) = k + ((n + 1 : Nat) : Int) := by omega
    rw [e] at ih
    have hne : ((k, p).1 == k + ((n + 1 : Nat) : Int)) = false := by simp; omega
    unfold fwdl at ih ⊢
    rw [pairsF, List.find?_cons]
    simp only [hne]
    rw [ih]
    simp
def idxB (l : List Int) (p : Int) : Int := match l.findIdx? (fun q => q == p) with | some n => (n : Int) | none => -1
theorem rev_pairs : ∀ (l : List Int) (k : Int) (p : Int), revl (pairsF k l) p = if 0 ≤ idxB l p then (k + idxB l p, true) else (0, false)
  | [], _, _ => by simp [pairsF, revl, idxB]
  | q :: l, k, p => by
    have ih := rev_pairs l (k + 1) p
    unfold revl at ih ⊢
    unfold idxB at ih ⊢
    rw [pairsF, List.find?_cons, List.findIdx?_cons]
    by_cases h : q = p
    · subst h
      simp
    · have hne : (q == p) = false := by simpa using h
      simp only [hne]
      rw [ih]
      cases hx : l.findIdx? (fun q => q == p) with
      | none => simp
      | some n =>
        have e1 : (0 : Int) ≤ (n : Int) := by omega
        have e2 : (0 : Int) ≤ ((n + 1 : Nat) : Int) := by omega
        simp only [Option.map_some]
        rw [if_pos e1]
        show _ = if (0 : Int) ≤ ((n + 1 : Nat) : Int) then (k + ((n + 1 : Nat) : Int), true) else (0, false)
        rw [if_pos e2]
        congr 1
        omega
theorem idxB_lt (l : List Int) (p : Int) : idxB l p < l.length ∨ idxB l p = -1 := by
  unfold idxB
  cases hx : l.findIdx? (fun q => q == p) with
  | none => exact .inr rfl
  | some n =>
    rw [List.findIdx?_eq_some_iff_getElem] at hx
    obtain ⟨h, _⟩ := hx
    left
    show (n : Int) < _
    omega
theorem idxB_get {l : List Int} {p : Int} (h : 0 ≤ idxB l p) : l.getD (idxB l p).toNat 0 = p := by
  unfold idxB at h ⊢
  cases hx : l.findIdx? (fun q => q == p) with
  | none => rw [hx] at h; simp at h
  | some n =>
    rw [List.findIdx?_eq_some_iff_getElem] at hx
    obtain ⟨h1, h2, _⟩ := hx
    show l.getD (n : Int).toNat 0 = p
    rw [Int.toNat_natCast, List.getD_eq_getElem?_getD, List.getElem?_eq_getElem h1]
    simpa using h2
theorem idxB_nodup {l : List Int} (hnd : l.Nodup) {n : Nat} (hn : n < l.length) : idxB l (l.getD n 0) = n := by
  have e : l.getD n 0 = l[n] := by rw [List.getD_eq_getElem?_getD, List.getElem?_eq_getElem hn]; rfl
  rw [e]
  unfold idxB
  have hx : l.findIdx? (fun q => q == l[n]) = some n := by
    rw [List.findIdx?_eq_some_iff_getElem]
    refine ⟨hn, by simp, fun j hj => ?_⟩
    intro hc
    have h2 : l[j] = l[n] := by simpa using hc
    have := (List.getElem_inj hnd).1 h2
    omega
  rw [hx]
def sinB (c p : Int) : Int := idxB (sinS c) p
def sinAt (c : Int) (b : UInt8) : Int := (sinS c).getD b.toNat 0
theorem sin_fwd {c : Int} (h : 0 ≤ c ∧ c ≤ 3) (b : UInt8) : fwdl (sinL c) b.toNat = (sinAt c b, true) := by
  have h1 := fwd_pairs (sinS c) 0 b.toNat (by rw [sinS_len c h]; exact b.toNat_lt)
  rw [Int.zero_add] at h1
  exact h1
theorem sin_rev (c p : Int) : revl (sinL c) p = if 0 ≤ sinB c p then (sinB c p, true) else (0, false) := by
  have h1 := rev_pairs (sinS c) 0 p
  rw [Int.zero_add] at h1
  exact h1
theorem sinB_lt {c : Int} (h : 0 ≤ c ∧ c ≤ 3) (p : Int) : -1 ≤ sinB c p ∧ sinB c p < 256 := by
  have := idxB_lt (sinS c) p
  rw [sinS_len c h] at this
  unfold sinB
  have h2 : -1 ≤ idxB (sinS c) p := by unfold idxB; split <;> omega
  omega
def nodupL : List Int → Bool
  | [] => true
  | p :: l => l.all (fun q => q != p) && nodupL l
theorem nodup_of_L : ∀ {l : List Int}, nodupL l = true → l.Nodup
  | [], _ => List.nodup_nil
  | p :: l, h => by
    unfold nodupL at h
    rw [Bool.and_eq_true, List.all_eq_true] at h
    rw [List.nodup_cons]
    refine ⟨fun hm => ?_, nodup_of_L h.2⟩
    have := h.1 p hm
    simp at this
set_option maxRecDepth 100000 in
theorem sinS_nodup {c : Int} (h : 0 ≤ c ∧ c ≤ 3) : (sinS c).Nodup := by
  have : c = 0 ∨ c = 1 ∨ c = 2 ∨ c = 3 := by omega
  rcases this with rfl | rfl | rfl | rfl <;> exact nodup_of_L (by decide +kernel)
theorem sinAt_sc (c : Int) (h : 0 ≤ c ∧ c ≤ 3) (b : UInt8) : sc (sinAt c b) = true := by
  have hn : b.toNat < (sinS c).length := by rw [sinS_len c h]; exact b.toNat_lt
  refine (sinS_sc c _ ?_).1
  unfold sinAt
  rw [List.getD_eq_getElem?_getD, List.getElem?_eq_getElem hn]
  exact List.getElem_mem hn
theorem sinB_at {c : Int} (h : 0 ≤ c ∧ c ≤ 3) (b : UInt8) : sinB c (sinAt c b) = b.toNat :=
  idxB_nodup (sinS_nodup h) (by rw [sinS_len c h]; exact b.toNat_lt)
theorem sinAt_B {c p : Int} (h : 0 ≤ c ∧ c ≤ 3) (hp : 0 ≤ sinB c p) : sinAt c (sinB c p).toNat.toUInt8 = p := by
  have h1 := sinB_lt h p
  unfold sinAt
  rw [u8 _ (by omega)]
  exact idxB_get hp
/-- the signs of bytes -/
def sinD (c : Int) (b : List UInt8) : List Int := b.map (sinAt c)
theorem sinD_sc (c : Int) (h : 0 ≤ c ∧ c ≤ 3) (b : List UInt8) : ∀ p ∈ sinD c b, sc p = true := by
  intro p hp
  obtain ⟨x, _, rfl⟩ := List.mem_map.1 hp
  exact sinAt_sc c h x
/-- the bytes of signs (by what each sign's byte is); the place in the text of the first that has none -/
def encO (B : Int → Int) (l : List Int) : List UInt8 × Int :=
  if l.all (fun p => decide (0 ≤ B p)) then (l.map (fun p => (B p).toNat.toUInt8), -1) else ([], ((encs (l.takeWhile (fun p => decide (0 ≤ B p)))).length : Int))
theorem encO_ok {B : Int → Int} {l : List Int} (h : ∀ p ∈ l, 0 ≤ B p) : encO B l = (l.map (fun p => (B p).toNat.toUInt8), -1) := by
  unfold encO
  rw [if_pos (List.all_eq_true.2 fun p hp => decide_eq_true (h p hp))]
theorem takeWhile_at {α : Type} (f : α → Bool) : ∀ (l : List α) (k : Nat) (hk : k < l.length), (∀ p ∈ l.take k, f p = true) → f l[k] = false → l.takeWhile f = l.take k
  | p :: l, 0, _, _, h => by
    have h' : f p = false := h
    rw [List.takeWhile_cons]
    simp [h']
  | p :: l, k + 1, hk, h0, h => by
    have hp : f p = true := h0 p (by simp)
    have ih := takeWhile_at f l k (by simpa using hk) (fun q hq => h0 q (by simp [hq])) (by simpa using h)
    rw [List.takeWhile_cons]
    simp [hp, ih]
theorem encO_bad {B : Int → Int} {l : List Int} {k : Nat} (hk : k < l.length) (h0 : ∀ p ∈ l.take k, 0 ≤ B p) (h : ¬ 0 ≤ B l[k]) : encO B l = ([], ((encs (l.take k)).length : Int)) := by
  unfold encO
  rw [if_neg (by
    intro hc
    rw [List.all_eq_true] at hc
    exact h (of_decide_eq_true (hc _ (List.getElem_mem hk)))), takeWhile_at _ l k hk (fun p hp => decide_eq_true (h0 p hp)) (decide_eq_false h)]
theorem sin_back {c : Int} (h : 0 ≤ c ∧ c ≤ 3) (b : List UInt8) : encO (sinB c) (sinD c b) = (b, -1) := by
  rw [encO_ok (fun p hp => by
    obtain ⟨x, _, rfl⟩ := List.mem_map.1 hp
    rw [sinB_at h]; omega)]
  unfold sinD
  rw [List.map_map]
  congr 1
  conv => rhs; rw [← List.map_id b]
  refine List.map_congr_left fun x _ => ?_
  show (sinB c (sinAt c x)).toNat.toUInt8 = x
  rw [sinB_at h]
  simp
theorem sin_forth {c : Int} (h : 0 ≤ c ∧ c ≤ 3) {l : List Int} {b : List UInt8} (he : encO (sinB c) l = (b, -1)) : sinD c b = l := by
  by_cases hall : ∀ p ∈ l, 0 ≤ sinB c p
  · rw [encO_ok hall] at he
    have e := congrArg Prod.fst he
    simp only at e
    rw [← e]
    unfold sinD
    rw [List.map_map]
    conv => rhs; rw [← List.map_id l]
    refine List.map_congr_left fun p hp => ?_
    exact sinAt_B h (hall p hp)
  · exfalso
    unfold encO at he
    rw [if_neg (by
      intro hc
      exact hall fun p hp => of_decide_eq_true (List.all_eq_true.1 hc p hp))] at he
    have := congrArg Prod.snd he
    simp only at this
    omega
theorem encO_len (B : Int → Int) (l : List Int) : (encO B l).1.length ≤ l.length := by
  unfold encO
  split <;> simp
theorem sinD_len (c : Int) (b : List UInt8) : (sinD c b).length = b.length := by simp [sinD]
theorem sinD_app (c : Int) (a b : List UInt8) : sinD c (a ++ b) = sinD c a ++ sinD c b := by simp [sinD]
theorem sinD_take (c : Int) (b : List UInt8) (k : Nat) (h : k < b.length) : sinD c (b.take (k + 1)) = sinD c (b.take k) ++ [sinAt c b[k]] := by
  rw [take_snoc b k h, sinD_app]
  rfl
end Go.Proofs.Dia
