/- wansung: signs and bytes (plain); walks of Sign, Bytes and the reference's Sign, RowCode -/
import Derived.Test.YtfiinmidcmgphaaDoorCa
import Derived.Test.YtfiinmidcmgphaaDoorCe
namespace Go.Proofs
open Go.RowKit

namespace Dia
theorem wtrail_second (b : Int) : (wsecond b < 0 ∧ wtrail b = (0, false)) ∨ (0 ≤ wsecond b ∧ wsecond b ≤ 177 ∧ wtrail b = (wsecond b, true) ∧ wletter (wsecond b) = b ∧ (b ≤ 160 → wsecond b ≤ 83)) := by
  unfold wsecond wtrail
  by_cases h1 : 65 ≤ b ∧ b ≤ 90
  · rw [if_pos h1, if_pos h1]
    refine .inr ⟨by omega, by omega, rfl, ?_, by omega⟩
    unfold wletter; rw [if_pos (by omega)]; omega
  · rw [if_neg h1, if_neg h1]
    by_cases h2 : 97 ≤ b ∧ b ≤ 122
    · rw [if_pos h2, if_pos h2]
      refine .inr ⟨by omega, by omega, rfl, ?_, by omega⟩
      unfold wletter; rw [if_neg (by omega), if_pos (by omega)]; omega
    · rw [if_neg h2, if_neg h2]
      by_cases h3 : 129 ≤ b ∧ b ≤ 254
      · rw [if_pos h3, if_pos h3]
        refine .inr ⟨by omega, by omega, rfl, ?_, by omega⟩
        unfold wletter; rw [if_neg (by omega), if_neg (by omega)]; omega
      · rw [if_neg h3, if_neg h3]; exact .inl ⟨by omega, rfl⟩
theorem wsecond_letter (t : Int) (h : 0 ≤ t ∧ t ≤ 177) : wsecond (wletter t) = t ∧ (t ≤ 83 → wletter t ≤ 160) := by
  unfold wletter
  by_cases h1 : t < 26
  · rw [if_pos h1]; unfold wsecond; rw [if_pos (by omega)]; omega
  · rw [if_neg h1]
    by_cases h2 : t < 52
    · rw [if_pos h2]; unfold wsecond; rw [if_neg (by omega), if_pos (by omega)]; omega
    · rw [if_neg h2]; unfold wsecond; rw [if_neg (by omega), if_neg (by omega), if_pos (by omega)]; omega
/-- the document's sign of two bytes; 0: none -/
def SgR (l b p : Int) : Prop :=
  if wsecond b < 0 ∨ l < 129 ∨ 254 < l then p = 0
  else if l < 161 then KthIs ((l - 129) * 178 + wsecond b).toNat false p
  else if b < 161 then KthIs (5696 + (l - 161) * 84 + wsecond b).toNat false p
  else if 176 ≤ l ∧ l ≤ 200 then KthIs ((l - 176) * 94 + b - 161).toNat true p
  else p = wAt (l - 161).toNat (b - 161).toNat
theorem SgR.uniq {l b p q : Int} (h1 : SgR l b p) (h2 : SgR l b q) : p = q := by
  unfold SgR at h1 h2
  split at h1
  · rename_i h; rw [if_pos h] at h2; omega
  rename_i h; rw [if_neg h] at h2
  split at h1
  · rename_i h; rw [if_pos h] at h2; exact h1.uniq h2
  rename_i h; rw [if_neg h] at h2
  split at h1
  · rename_i h; rw [if_pos h] at h2; exact h1.uniq h2
  rename_i h; rw [if_neg h] at h2
  split at h1
  · rename_i h; rw [if_pos h] at h2; exact h1.uniq h2
  · rename_i h; rw [if_neg h] at h2; omega
theorem wAt_bd (m j : Nat) (hj : j < 94) : wAt m j = 0 ∨ (0 < wAt m j ∧ wAt m j < 65536 ∧ ¬ (44032 ≤ wAt m j ∧ wAt m j ≤ 55203) ∧ revl wanL (wAt m j) = ((m : Int) * 94 + j, true)) := by
  by_cases h : wAt m j = 0
  · exact .inl h
  · have hf := wan_fwd m j hj
    rw [if_neg h] at hf
    have hr := wfwd_rev wanL_nodup _ _ hf
    unfold fwdl at hf
    split at hf
    · rename_i q e
      have hq := wanL_sc q (List.mem_of_find?_eq_some e)
      simp only [Prod.mk.injEq, and_true] at hf
      rw [hf] at hq
      exact .inr ⟨hq.1, hq.2.1, hq.2.2, hr⟩
    · simp at hf
theorem SgR.bd {l b p : Int} (h : SgR l b p) (hb : 0 ≤ b ∧ b ≤ 255) : 0 ≤ p ∧ p < 65536 := by
  unfold SgR at h
  split at h
  · omega
  rename_i g
  split at h
  · have := h.bd; omega
  split at h
  · have := h.bd; omega
  split at h
  · have := h.bd; omega
  · rename_i g1 g2 g3
    rcases wtrail_second b with ⟨h1, _⟩ | _
    · exact absurd (.inl h1) g
    · by_cases hj : (b - 161).toNat < 94
      · rcases wAt_bd (l - 161).toNat (b - 161).toNat hj with e | e <;> omega
      · exfalso
        have : b = 255 := by omega
        subst this
        exact absurd (.inl (by decide)) g
/-- Bytes -/
def wbytes (p : Int) : List UInt8 × Bool :=
  if 44032 ≤ p ∧ p ≤ 55203 then (twoB (wsyl (p - 44032).toNat).1 (wsyl (p - 44032).toNat).2, true)
  else if (revl wanL p).2 = true then (twoB (161 + (revl wanL p).1 / 94) (161 + (revl wanL p).1 % 94), true) else ([], false)
theorem SgR.back {l b p : Int} (h : SgR l b p) (hp : p ≠ 0) (hl : 0 ≤ l ∧ l ≤ 255) (hb : 0 ≤ b ∧ b ≤ 255) : wbytes p = (twoB l b, true) := by
  have K : ∀ k v, KthIs k v p → ∃ N : Nat, N < 11172 ∧ inB N = v ∧ CB v N = k ∧ wbytes p = (twoB (wsyl N).1 (wsyl N).2, true) := fun k v h => by
    rcases h with ⟨N, n0, n1, n2, rfl⟩ | ⟨_, h⟩
    · refine ⟨N, n0, n1, n2, ?_⟩
      unfold wbytes
      rw [if_pos (by omega)]
      have e : (44032 + (N : Int) - 44032).toNat = N := by omega
      rw [e]
    · exact absurd h hp
  unfold SgR at h
  split at h
  · exact absurd h hp
  rename_i g
  rcases wtrail_second b with ⟨h1, _⟩ | ⟨s0, s1, _, s3, s4⟩
  · exact absurd (.inl h1) g
  have g1 : ¬ l < 129 := fun h => g (.inr (.inl h))
  have g2 : ¬ 254 < l := fun h => g (.inr (.inr h))
  generalize wsecond b = t at *
  split at h
  · rename_i l1
    obtain ⟨N, n0, n1, n2, hw⟩ := K _ _ h
    rw [hw]
    unfold wsyl
    rw [n1, n2]
    have e1 : (((l - 129) * 178 + t).toNat : Int) = (l - 129) * 178 + t := by omega
    simp only [Bool.false_eq_true, if_false]
    rw [if_pos (by omega), e1]
    have e2 : 129 + ((l - 129) * 178 + t) / 178 = l := by omega
    have e3 : ((l - 129) * 178 + t) % 178 = t := by omega
    simp only
    rw [e2, e3, s3]
  rename_i l1
  split at h
  · rename_i b1
    have t83 := s4 (by omega)
    obtain ⟨N, n0, n1, n2, hw⟩ := K _ _ h
    rw [hw]
    unfold wsyl
    rw [n1, n2]
    have e1 : ((5696 + (l - 161) * 84 + t).toNat : Int) = 5696 + (l - 161) * 84 + t := by omega
    simp only [Bool.false_eq_true, if_false]
    rw [if_neg (by omega), e1]
    have e2 : 161 + (5696 + (l - 161) * 84 + t - 5696) / 84 = l := by omega
    have e3 : (5696 + (l - 161) * 84 + t - 5696) % 84 = t := by omega
    simp only
    rw [e2, e3, s3]
  rename_i b1
  have hb254 : b ≤ 254 := by
    by_cases e : b = 255
    · subst e
      unfold wletter at s3
      split at s3
      · omega
      · split at s3 <;> omega
    · omega
  split at h
  · rename_i l2
    obtain ⟨N, n0, n1, n2, hw⟩ := K _ _ h
    rw [hw]
    unfold wsyl
    rw [n1, n2]
    have e1 : (((l - 176) * 94 + b - 161).toNat : Int) = (l - 176) * 94 + b - 161 := by omega
    simp only [if_true]
    rw [e1]
    have e2 : 161 + ((l - 176) * 94 + b - 161 + 1410) / 94 = l := by omega
    have e3 : 161 + ((l - 176) * 94 + b - 161 + 1410) % 94 = b := by omega
    rw [e2, e3]
  · rcases wAt_bd (l - 161).toNat (b - 161).toNat (by omega) with e | ⟨_, _, e3, e4⟩
    · exact absurd (h.trans e) hp
    · unfold wbytes
      rw [h, if_neg e3, e4, if_pos rfl]
      have f1 : ((l - 161).toNat : Int) = l - 161 := by omega
      have f2 : ((b - 161).toNat : Int) = b - 161 := by omega
      simp only [f1, f2]
      have f3 : 161 + ((l - 161) * 94 + (b - 161)) / 94 = l := by omega
      have f4 : 161 + ((l - 161) * 94 + (b - 161)) % 94 = b := by omega
      rw [f3, f4]
theorem wsyl_sgr (s : Nat) (hs : s < 11172) : SgR (wsyl s).1 (wsyl s).2 (44032 + (s : Int)) ∧ (0 ≤ (wsyl s).1 ∧ (wsyl s).1 ≤ 255) ∧ (0 ≤ (wsyl s).2 ∧ (wsyl s).2 ≤ 255) := by
  have hbd := CB_bd s hs
  have hk : KthIs (CB (inB s) s) (inB s) (44032 + (s : Int)) := .inl ⟨s, hs, rfl, rfl, rfl⟩
  unfold wsyl
  cases hin : inB s with
  | true =>
    rw [hin] at hbd hk
    simp only [if_true] at hbd ⊢
    generalize CB true s = k at *
    have q0 : 15 ≤ ((k : Int) + 1410) / 94 := by omega
    have q1 : ((k : Int) + 1410) / 94 ≤ 39 := by omega
    have r0 : 0 ≤ ((k : Int) + 1410) % 94 := by omega
    have r1 : ((k : Int) + 1410) % 94 ≤ 93 := by omega
    have e : ((161 + ((k : Int) + 1410) / 94 - 176) * 94 + (161 + ((k : Int) + 1410) % 94) - 161).toNat = k := by omega
    refine ⟨?_, by omega, by omega⟩
    unfold SgR
    have hs2 : ¬ wsecond (161 + ((k : Int) + 1410) % 94) < 0 := by
      unfold wsecond
      rw [if_neg (by omega), if_neg (by omega), if_pos (by omega)]
      omega
    rw [if_neg (by rintro (h | h | h); exact hs2 h; omega; omega), if_neg (by omega), if_neg (by omega), if_pos (by omega), e]
    exact hk
  | false =>
    rw [hin] at hbd hk
    simp only [Bool.false_eq_true, if_false] at hbd ⊢
    generalize CB false s = k at *
    by_cases h5 : k < 5696
    · rw [if_pos h5]
      have m0 : 0 ≤ (k : Int) % 178 := by omega
      have m1 : (k : Int) % 178 ≤ 177 := by omega
      obtain ⟨w1, _⟩ := wsecond_letter ((k : Int) % 178) ⟨m0, m1⟩
      have wb := wletter_bd ((k : Int) % 178) ⟨m0, m1⟩
      refine ⟨?_, ⟨by simp only; omega, by simp only; omega⟩, wb⟩
      unfold SgR
      simp only
      rw [w1, if_neg (by omega), if_pos (by omega)]
      have e : ((129 + (k : Int) / 178 - 129) * 178 + (k : Int) % 178).toNat = k := by omega
      rw [e]
      exact hk
    · rw [if_neg h5]
      have m0 : 0 ≤ ((k : Int) - 5696) % 84 := by omega
      have m1 : ((k : Int) - 5696) % 84 ≤ 83 := by omega
      obtain ⟨w1, w2⟩ := wsecond_letter (((k : Int) - 5696) % 84) ⟨m0, by omega⟩
      have w3 := w2 m1
      have wb := wletter_bd (((k : Int) - 5696) % 84) ⟨m0, by omega⟩
      refine ⟨?_, ⟨by simp only; omega, by simp only; omega⟩, wb⟩
      unfold SgR
      simp only
      rw [w1, if_neg (by omega), if_neg (by omega), if_pos (by omega)]
      have e : (5696 + (161 + ((k : Int) - 5696) / 84 - 161) * 84 + ((k : Int) - 5696) % 84).toNat = k := by omega
      rw [e]
      exact hk
/-- RowCode -/
def wcode (p : Int) : Int := match zScanA p 0 wanW with | some k => (161 + (k : Int) / 94) * 256 + (161 + (k : Int) % 94) | none => -1
theorem wbytes_code (p : Int) (h : ¬ (44032 ≤ p ∧ p ≤ 55203)) (hp : p ≠ 0) : (wcode p = -1 ∧ wbytes p = ([], false)) ∨ (0 ≤ wcode p ∧ wcode p < 65536 ∧ wbytes p = (twoB (wcode p / 256) (wcode p % 256), true)) := by
  unfold wcode wbytes
  rw [if_neg h, wan_rev p hp]
  cases hz : zScanA p 0 wanW with
  | none => exact .inl ⟨rfl, rfl⟩
  | some k =>
    have hk := zScanA_bd p wanW 0 k wanW_len.2 hz
    rw [wanW_len.1] at hk
    simp only [if_true]
    have e1 : ((161 + (k : Int) / 94) * 256 + (161 + (k : Int) % 94)) / 256 = 161 + (k : Int) / 94 := by omega
    have e2 : ((161 + (k : Int) / 94) * 256 + (161 + (k : Int) % 94)) % 256 = 161 + (k : Int) % 94 := by omega
    rw [e1, e2]
    exact .inr ⟨by omega, by omega, rfl⟩
theorem wbytes_neg (p : Int) (hp : p ≤ 0) : wbytes p = ([], false) := by
  unfold wbytes
  rw [if_neg (by omega)]
  have : (revl wanL p).2 = false := by
    unfold revl
    split
    · rename_i q e
      have h1 := wanL_sc q (List.mem_of_find?_eq_some e)
      have h2 : q.2 = p := by simpa using List.find?_some e
      omega
    · rfl
  rw [this]
  rfl
end Dia
end Go.Proofs
