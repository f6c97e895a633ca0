/- PLAIN: charsets of two bytes a sign: units; what is written is read as it was; PLAIN: what is written, as units; the charsets' bytes of a text -/
import Derived.Test.YtoaojojapebamaaGreatDoorM19
import Derived.Test.YtoaojojapebamaaGreatDoorM29
import Derived.Test.YtoaojojapebamaaGreatDoorM35
import Derived.Test.YtoaojojapebamaaGreatDoorM20
import Derived.Test.YtoaojojapebamaaGreatDoorM37
namespace Go.Proofs.Dia
theorem revl_mem {L : List (Int × Int)} {k p : Int} (h : revl L p = (k, true)) : (k, p) ∈ L := by
  unfold revl at h
  split at h
  · rename_i q e
    have h1 := List.mem_of_find?_eq_some e
    have h2 : q.2 = p := by simpa using List.find?_some e
    simp only [Prod.mk.injEq, and_true] at h
    rw [← h, ← h2]
    exact h1
  · simp at h
theorem rise_fwd {L : List (Int × Int)} (hr : Rise L) {k p : Int} (h : (k, p) ∈ L) : fwdl L k = (p, true) := by
  unfold fwdl
  rw [rise_find hr h]
set_option maxRecDepth 100000 in
theorem big_at : ∀ q ∈ bigL, 129 ≤ bcode q.1 / 256 ∧ bcode q.1 / 256 ≤ 254 ∧ (bcell (bcode q.1 % 256)).2 = true ∧ (bcode q.1 / 256 - 129) * 157 + (bcell (bcode q.1 % 256)).1 = q.1 ∧ (rtwo (bcode q.1)).1 = 0 := by decide +kernel
theorem big_back1 {p k : Int} (h : revl bigL p = (k, true)) : 129 ≤ bcode k / 256 ∧ bcode k / 256 ≤ 254 ∧ bsigns (bcode k / 256) (bcode k % 256) = (enc p, true) := by
  have hm := revl_mem h
  obtain ⟨a1, a2, a3, a4, a5⟩ := big_at _ hm
  simp only at a1 a2 a3 a4 a5
  refine ⟨a1, a2, ?_⟩
  have e : bcode k / 256 * 256 + bcode k % 256 = bcode k := by omega
  have hf := rise_fwd big_rise hm
  unfold bsigns
  rw [if_neg (by rw [a3]; simp; omega), e, a5, a4, hf]
  simp
theorem big_back2 : bsigns (34914 / 256) (34914 % 256) = (enc 202 ++ enc 772, true) ∧ bsigns (34916 / 256) (34916 % 256) = (enc 202 ++ enc 780, true) ∧ bsigns (34979 / 256) (34979 % 256) = (enc 234 ++ enc 772, true) ∧ bsigns (34981 / 256) (34981 % 256) = (enc 234 ++ enc 780, true) := by decide +kernel
/-- two bytes, in a charset of two bytes a sign, and their text -/
def Pair2 (c l t : Int) (x : List UInt8) : Prop :=
  (c = 4 ∧ ∃ p, SgR l t p ∧ p ≠ 0 ∧ sc p = true ∧ x = encs [p]) ∨ (c = 5 ∧ ∃ p, jsign l t = (p, true) ∧ sc p = true ∧ x = encs [p]) ∨ (c = 6 ∧ bsigns l t = (x, true))
/-- a unit: its bytes, and its text -/
def UOk (c : Int) (u : List UInt8 × List UInt8) : Prop :=
  (∃ b : UInt8, u.1 = [b] ∧ b.toNat < 128 ∧ u.2 = [b]) ∨ (∃ l t : UInt8, u.1 = [l, t] ∧ 128 ≤ l.toNat ∧ Pair2 c l.toNat t.toNat u.2)
/-- the bytes of the signs with which some begin, and how many these are -/
def csb (c : Int) : List Int → List UInt8 × Int
  | [] => ([], 0)
  | p :: r => if p < 128 then ([p.toNat.toUInt8], 1)
    else if c = 4 then (if (wbytes p).2 = true then ((wbytes p).1, 1) else ([], 0))
    else if c = 5 then (if (jbytes p).2 = true then ((jbytes p).1, 1) else ([], 0))
    else bbytes (p :: r)
theorem encs_one (p : Int) : encs [p] = enc p := by simp [encs]
theorem enc_low {p : Int} (h0 : 0 ≤ p) (h : p < 128) : enc p = [p.toNat.toUInt8] := by
  have h1 := enc_eq (p := p) (Lib.encodeRuneZ_one (by omega) (by omega))
  have h2 := congrArg (fun b : ByteArray => b.data.toList) h1
  simpa [strOfNums] using h2.symm
theorem csb_cons (c p : Int) (r : List Int) : csb c (p :: r) = if p < 128 then ([p.toNat.toUInt8], 1)
    else if c = 4 then (if (wbytes p).2 = true then ((wbytes p).1, 1) else ([], 0))
    else if c = 5 then (if (jbytes p).2 = true then ((jbytes p).1, 1) else ([], 0))
    else bbytes (p :: r) := rfl
theorem wan_rows {p k : Int} (h : revl wanL p = (k, true)) : 0 ≤ k ∧ k < 1128 ∧ SgR (161 + k / 94) (161 + k % 94) p ∧ p ≠ 0 := by
  have hb := revl_wan_bd p (by rw [h])
  rw [h] at hb
  simp only at hb
  have hm := revl_mem h
  have hf := rise_fwd wan_rise hm
  have hsc := wanL_sc _ hm
  simp only at hsc
  obtain ⟨n, rfl⟩ := Int.eq_ofNat_of_zero_le hb.1
  have hw := wan_fwd (n / 94) (n % 94) (by omega)
  have e : ((n / 94 : Nat) : Int) * 94 + ((n % 94 : Nat) : Int) = n := by omega
  rw [e, hf] at hw
  have hv : wAt (n / 94) (n % 94) = p := by
    split at hw
    · simp at hw
    · simp only [Prod.mk.injEq, and_true] at hw; exact hw.symm
  refine ⟨hb.1, hb.2, ?_, by omega⟩
  have hs : wsecond (161 + (n : Int) % 94) = 84 + (n : Int) % 94 ∨ 0 ≤ wsecond (161 + (n : Int) % 94) := by
    right
    unfold wsecond
    repeat' split
    all_goals omega
  unfold SgR
  rw [if_neg (by omega), if_neg (by omega), if_neg (by omega), if_neg (by omega)]
  rw [show (161 + (n : Int) / 94 - 161).toNat = n / 94 by omega, show (161 + (n : Int) % 94 - 161).toNat = n % 94 by omega]
  exact hv.symm
theorem wb_back {p : Int} (h : (wbytes p).2 = true) : ∃ l t : Int, (wbytes p).1 = twoB l t ∧ (129 ≤ l ∧ l ≤ 254) ∧ (0 ≤ t ∧ t ≤ 255) ∧ SgR l t p ∧ p ≠ 0 := by
  unfold wbytes at h ⊢
  by_cases h1 : 44032 ≤ p ∧ p ≤ 55203
  · rw [if_pos h1]
    obtain ⟨g1, g2, g3⟩ := wsyl_sgr (p - 44032).toNat (by omega)
    have e : 44032 + (((p - 44032).toNat : Nat) : Int) = p := by omega
    rw [e] at g1
    refine ⟨_, _, rfl, ?_, g3, g1, by omega⟩
    unfold SgR at g1
    split at g1
    · omega
    · rename_i g; omega
  · rw [if_neg h1] at h ⊢
    by_cases h2 : (revl wanL p).2 = true
    · rw [if_pos h2]
      obtain ⟨k0, k1, g1, g2⟩ := wan_rows (p := p) (k := (revl wanL p).1) (Prod.ext rfl h2)
      exact ⟨_, _, rfl, by omega, by omega, g1, g2⟩
    · rw [if_neg h2] at h
      simp at h
theorem pair_bytes {c l t : Int} {x : List UInt8} (hl : 128 ≤ l ∧ l ≤ 255) (ht : 0 ≤ t ∧ t ≤ 255) (h : Pair2 c l t x) : UOk c (twoB l t, x) := by
  have e1 : l.toNat.toUInt8.toNat = l.toNat := u8 _ (by omega)
  have e2 : t.toNat.toUInt8.toNat = t.toNat := u8 _ (by omega)
  refine .inr ⟨l.toNat.toUInt8, t.toNat.toUInt8, rfl, by rw [e1]; omega, ?_⟩
  rw [e1, e2, show ((l.toNat : Nat) : Int) = l by omega, show ((t.toNat : Nat) : Int) = t by omega]
  exact h
theorem big2_two (c : Int) (h0 : 0 ≤ c) (h1 : c < 65536) : bigB c.toNat 2 = twoB (c / 256) (c % 256) := by
  obtain ⟨n, rfl⟩ := Int.eq_ofNat_of_zero_le h0
  rw [Int.toNat_natCast, jbig2 n (by omega)]
  unfold twoB
  rw [show ((n : Int) / 256).toNat = n / 256 by omega, show ((n : Int) % 256).toNat = n % 256 by omega]
/-- what is written is a unit -/
theorem csb_ok {c : Int} (hc : c = 4 ∨ c = 5 ∨ c = 6) {ps : List Int} (hsc : ∀ p ∈ ps, sc p = true) (h : (csb c ps).2 ≠ 0) :
    ∃ n : Nat, 1 ≤ n ∧ n ≤ ps.length ∧ (csb c ps).2 = (n : Int) ∧ UOk c ((csb c ps).1, encs (ps.take n)) := by
  cases ps with
  | nil => exact absurd rfl h
  | cons p r =>
    have hp := hsc p (by simp)
    have hp0 : 0 ≤ p := by rw [sc_iff] at hp; omega
    have hone : (p :: r).take 1 = [p] := by simp
    rw [csb_cons] at h ⊢
    by_cases h1 : p < 128
    · rw [if_pos h1]
      refine ⟨1, by omega, by simp, rfl, .inl ⟨p.toNat.toUInt8, rfl, ?_, ?_⟩⟩
      · rw [u8 _ (by omega)]; omega
      · simp only [hone, encs_one, enc_low hp0 h1]
    · rw [if_neg h1] at h ⊢
      rcases hc with rfl | rfl | rfl
      · rw [if_pos rfl] at h ⊢
        by_cases h2 : (wbytes p).2 = true
        · rw [if_pos h2]
          obtain ⟨l, t, g1, g2, g3, g4, g5⟩ := wb_back h2
          refine ⟨1, by omega, by simp, rfl, ?_⟩
          simp only [hone]
          rw [g1]
          exact pair_bytes ⟨by omega, by omega⟩ g3 (.inl ⟨rfl, p, g4, g5, hp, rfl⟩)
        · rw [if_neg h2] at h; simp at h
      · rw [if_neg (by decide), if_pos rfl] at h ⊢
        by_cases h2 : (jbytes p).2 = true
        · rw [if_pos h2]
          obtain ⟨l, t, g1, g2, g3⟩ := jbytes_back h2
          refine ⟨1, by omega, by simp, rfl, ?_⟩
          simp only [hone]
          exact .inr ⟨l, t, g1, g2, .inr (.inl ⟨rfl, p, g3, hp, rfl⟩)⟩
        · rw [if_neg h2] at h; simp at h
      · rw [if_neg (by decide), if_neg (by decide)] at h ⊢
        have hbone : ∀ (hb : (bone p).2 ≠ 0), (bone p).2 = ((1 : Nat) : Int) ∧ UOk 6 ((bone p).1, encs [p]) := fun hb => by
          unfold bone at hb ⊢
          by_cases h2 : (revl bigL p).2 = true
          · rw [if_pos h2]
            obtain ⟨g1, g2, g3⟩ := big_back1 (p := p) (k := (revl bigL p).1) (Prod.ext rfl h2)
            refine ⟨rfl, ?_⟩
            simp only
            rw [big2_two _ (by omega) (by omega)]
            exact pair_bytes (by omega) (by omega) (.inr (.inr ⟨rfl, by rw [g3, encs_one]⟩))
          · rw [if_neg h2] at hb; simp at hb
        cases r with
        | nil =>
          have e : bbytes [p] = bone p := rfl
          rw [e] at h ⊢
          obtain ⟨a1, a2⟩ := hbone h
          exact ⟨1, by omega, by simp, a1, by simpa using a2⟩
        | cons q r =>
          rw [bbytes_two] at h ⊢
          by_cases h2 : btwoC p q ≠ 0
          · rw [if_pos h2]
            have hbd := btwoC_bd p q
            refine ⟨2, by omega, by simp, rfl, ?_⟩
            simp only
            rw [big2_two _ hbd.1 hbd.2]
            have e2 : (p :: q :: r).take 2 = [p, q] := by simp
            rw [e2]
            have e3 : encs [p, q] = enc p ++ enc q := by simp [encs]
            rw [e3]
            obtain ⟨b1, b2, b3, b4⟩ := big_back2
            have hcase : btwoC p q = 34914 ∧ p = 202 ∧ q = 772 ∨ btwoC p q = 34916 ∧ p = 202 ∧ q = 780 ∨ btwoC p q = 34979 ∧ p = 234 ∧ q = 772 ∨ btwoC p q = 34981 ∧ p = 234 ∧ q = 780 := by
              unfold btwoC at h2 ⊢
              repeat' split at h2
              all_goals first | omega | (exfalso; exact h2 rfl) | skip
              all_goals (rename_i g; first | omega | skip)
            rcases hcase with ⟨e, rfl, rfl⟩ | ⟨e, rfl, rfl⟩ | ⟨e, rfl, rfl⟩ | ⟨e, rfl, rfl⟩ <;> rw [e]
            · exact pair_bytes (by decide) (by decide) (.inr (.inr ⟨rfl, b1⟩))
            · exact pair_bytes (by decide) (by decide) (.inr (.inr ⟨rfl, b2⟩))
            · exact pair_bytes (by decide) (by decide) (.inr (.inr ⟨rfl, b3⟩))
            · exact pair_bytes (by decide) (by decide) (.inr (.inr ⟨rfl, b4⟩))
          · rw [if_neg h2] at h ⊢
            obtain ⟨a1, a2⟩ := hbone h
            exact ⟨1, by omega, by simp, a1, by simpa using a2⟩
end Go.Proofs.Dia
namespace Go.Proofs.Dia
def wrt (c : Int) : Nat → List Int → Option (List (List UInt8 × List UInt8))
  | _, [] => some []
  | 0, _ :: _ => none
  | f + 1, p :: r => if (csb c (p :: r)).2 = 0 then none else (wrt c f ((p :: r).drop (csb c (p :: r)).2.toNat)).map fun us => ((csb c (p :: r)).1, encs ((p :: r).take (csb c (p :: r)).2.toNat)) :: us
theorem wrt_nil (c : Int) (f : Nat) : wrt c f [] = some [] := by cases f <;> rfl
theorem wrt_zero {c : Int} {l : List Int} (f : Nat) (hl : l ≠ []) (h : (csb c l).2 = 0) : wrt c (f + 1) l = none := by
  cases l with
  | nil => exact absurd rfl hl
  | cons p r => unfold wrt; rw [if_pos h]
theorem wrt_succ {c : Int} {l : List Int} (f n : Nat) (hl : l ≠ []) (h : (csb c l).2 = (n : Int)) (hn : 1 ≤ n) : wrt c (f + 1) l = (wrt c f (l.drop n)).map fun us => ((csb c l).1, encs (l.take n)) :: us := by
  cases l with
  | nil => exact absurd rfl hl
  | cons p r =>
    have e : (csb c (p :: r)).2.toNat = n := by omega
    conv => lhs; unfold wrt
    rw [if_neg (by omega), e]
theorem wrt_ok {c : Int} (hc : c = 4 ∨ c = 5 ∨ c = 6) : ∀ (f : Nat) (l : List Int) (us : List (List UInt8 × List UInt8)), (∀ p ∈ l, sc p = true) → wrt c f l = some us → (∀ u ∈ us, UOk c u) ∧ (us.map Prod.snd).flatten = encs l ∧ us.length ≤ l.length
  | f, [], us, _, h => by
    rw [wrt_nil] at h
    cases h
    exact ⟨by simp, rfl, Nat.le_refl _⟩
  | 0, p :: r, us, _, h => by cases h
  | f + 1, p :: r, us, hsc, h => by
    by_cases h0 : (csb c (p :: r)).2 = 0
    · rw [wrt_zero f (by simp) h0] at h; cases h
    · obtain ⟨n, n1, n2, hn, hu⟩ := csb_ok hc hsc h0
      rw [wrt_succ f n (by simp) hn n1] at h
      obtain ⟨vs, hv, rfl⟩ := Option.map_eq_some_iff.1 h
      obtain ⟨g1, g2, g3⟩ := wrt_ok hc f _ vs (fun p hp => hsc p (List.mem_of_mem_drop hp)) hv
      refine ⟨?_, ?_, ?_⟩
      · intro u hu'
        rcases List.mem_cons.1 hu' with rfl | hu'
        · exact hu
        · exact g1 u hu'
      · rw [List.map_cons, List.flatten_cons, g2, ← encs_append, List.take_append_drop]
      · rw [List.length_drop] at g3
        rw [List.length_cons]
        omega
theorem uOk_len {c : Int} {u : List UInt8 × List UInt8} (h : UOk c u) : 1 ≤ u.1.length ∧ u.1.length ≤ 2 := by
  rcases h with ⟨b, h, _⟩ | ⟨l, t, h, _⟩ <;> rw [h] <;> simp
theorem flat_len2 : ∀ (us : List (List UInt8 × List UInt8)), (∀ u ∈ us, u.1.length ≤ 2) → (us.map Prod.fst).flatten.length ≤ 2 * us.length
  | [], _ => by simp
  | u :: us, h => by
    have h1 := flat_len2 us (fun v hv => h v (by simp [hv]))
    have h2 := h u (by simp)
    rw [List.map_cons, List.flatten_cons, List.length_append, List.length_cons]
    omega
/-- a text's bytes in a charset; none: it has none -/
def cEnc (c : Int) (t : List UInt8) : Option (List UInt8) :=
  if 0 ≤ (pts t).2 then none
  else if c ≤ 3 then (if (encO (sinB c) (pts t).1).2 < 0 then some (encO (sinB c) (pts t).1).1 else none)
  else if c ≤ 6 then (wrt c (pts t).1.length (pts t).1).map fun us => (us.map Prod.fst).flatten
  else if c = 7 then some t
  else some (wens (decide (c = 9)) (pts t).1)
end Go.Proofs.Dia
