/- wansung: signs and bytes (plain); walks of Sign, Bytes and the reference's Sign, RowCode; walks of wansung: Sign, Bytes; of its reference: Sign, RowCode -/
import Derived.Test.YtoaojojapebamaaGreatDoorM32
import Derived.Test.YtoaojojapebamaaGreatDoorM34
import Derived.Deep.RegionHeld3
namespace Go.Proofs
open Go.RowKit

namespace Dia
theorem wtrail_second (b : Int) : (wsecond b < 0 ∧ wtrail b = (0, false)) ∨ (0 ≤ wsecond b ∧ wsecond b ≤ 177 ∧ wtrail b = (wsecond b, true) ∧ wletter (wsecond b) = b ∧ (b ≤ 160 → wsecond b ≤ 83)) := by
  unfold wsecond wtrail
  by_cases h1 : 65 ≤ b ∧ b ≤ 90
  · rw [if_pos h1, if_pos h1]
    refine .inr ⟨by omega, by omega, rfl, ?_, by omega⟩
    unfold wletter; rw [if_pos (by omega)]; omega
  · rw [if_neg h1, if_neg h1]
    by_cases h2 : 97 ≤ b ∧ b ≤ 122
    · rw [if_pos h2, if_pos h2]
      refine .inr ⟨by omega, by omega, rfl, ?_, by omega⟩
      unfold wletter; rw [if_neg (by omega), if_pos (by omega)]; omega
    · rw [if_neg h2, if_neg h2]
      by_cases h3 : 129 ≤ b ∧ b ≤ 254
      · rw [if_pos h3, if_pos h3]
        refine .inr ⟨by omega, by omega, rfl, ?_, by omega⟩
        unfold wletter; rw [if_neg (by omega), if_neg (by omega)]; omega
      · rw [if_neg h3, if_neg h3]; exact .inl ⟨by omega, rfl⟩
theorem wsecond_letter (t : Int) (h : 0 ≤ t ∧ t ≤ 177) : wsecond (wletter t) = t ∧ (t ≤ 83 → wletter t ≤ 160) := by
  unfold wletter
  by_cases h1 : t < 26
  · rw [if_pos h1]; unfold wsecond; rw [if_pos (by omega)]; omega
  · rw [if_neg h1]
    by_cases h2 : t < 52
    · rw [if_pos h2]; unfold wsecond; rw [if_neg (by omega), if_pos (by omega)]; omega
    · rw [if_neg h2]; unfold wsecond; rw [if_neg (by omega), if_neg (by omega), if_pos (by omega)]; omega
/-- the document's sign of two bytes; 0: none -/
def SgR (l b p : Int) : Prop :=
  if wsecond b < 0 ∨ l < 129 ∨ 254 < l then p = 0
  else if l < 161 then KthIs ((l - 129) * 178 + wsecond b).toNat false p
  else if b < 161 then KthIs (5696 + (l - 161) * 84 + wsecond b).toNat false p
  else if 176 ≤ l ∧ l ≤ 200 then KthIs ((l - 176) * 94 + b - 161).toNat true p
  else p = wAt (l - 161).toNat (b - 161).toNat
theorem SgR.uniq {l b p q : Int} (h1 : SgR l b p) (h2 : SgR l b q) : p = q := by
  unfold SgR at h1 h2
  split at h1
  · rename_i h; rw [if_pos h] at h2; omega
  rename_i h; rw [if_neg h] at h2
  split at h1
  · rename_i h; rw [if_pos h] at h2; exact h1.uniq h2
  rename_i h; rw [if_neg h] at h2
  split at h1
  · rename_i h; rw [if_pos h] at h2; exact h1.uniq h2
  rename_i h; rw [if_neg h] at h2
  split at h1
  · rename_i h; rw [if_pos h] at h2; exact h1.uniq h2
  · rename_i h; rw [if_neg h] at h2; omega
theorem wAt_bd (m j : Nat) (hj : j < 94) : wAt m j = 0 ∨ (0 < wAt m j ∧ wAt m j < 65536 ∧ ¬ (44032 ≤ wAt m j ∧ wAt m j ≤ 55203) ∧ revl wanL (wAt m j) = ((m : Int) * 94 + j, true)) := by
  by_cases h : wAt m j = 0
  · exact .inl h
  · have hf := wan_fwd m j hj
    rw [if_neg h] at hf
    have hr := wfwd_rev wanL_nodup _ _ hf
    unfold fwdl at hf
    split at hf
    · rename_i q e
      have hq := wanL_sc q (List.mem_of_find?_eq_some e)
      simp only [Prod.mk.injEq, and_true] at hf
      rw [hf] at hq
      exact .inr ⟨hq.1, hq.2.1, hq.2.2, hr⟩
    · simp at hf
theorem SgR.bd {l b p : Int} (h : SgR l b p) (hb : 0 ≤ b ∧ b ≤ 255) : 0 ≤ p ∧ p < 65536 := by
  unfold SgR at h
  split at h
  · omega
  rename_i g
  split at h
  · have := h.bd; omega
  split at h
  · have := h.bd; omega
  split at h
  · have := h.bd; omega
  · rename_i g1 g2 g3
    rcases wtrail_second b with ⟨h1, _⟩ | _
    · exact absurd (.inl h1) g
    · by_cases hj : (b - 161).toNat < 94
      · rcases wAt_bd (l - 161).toNat (b - 161).toNat hj with e | e <;> omega
      · exfalso
        have : b = 255 := by omega
        subst this
        exact absurd (.inl (by decide)) g
/-- Bytes -/
def wbytes (p : Int) : List UInt8 × Bool :=
  if 44032 ≤ p ∧ p ≤ 55203 then (twoB (wsyl (p - 44032).toNat).1 (wsyl (p - 44032).toNat).2, true)
  else if (revl wanL p).2 = true then (twoB (161 + (revl wanL p).1 / 94) (161 + (revl wanL p).1 % 94), true) else ([], false)
theorem SgR.back {l b p : Int} (h : SgR l b p) (hp : p ≠ 0) (hl : 0 ≤ l ∧ l ≤ 255) (hb : 0 ≤ b ∧ b ≤ 255) : wbytes p = (twoB l b, true) := by
  have K : ∀ k v, KthIs k v p → ∃ N : Nat, N < 11172 ∧ inB N = v ∧ CB v N = k ∧ wbytes p = (twoB (wsyl N).1 (wsyl N).2, true) := fun k v h => by
    rcases h with ⟨N, n0, n1, n2, rfl⟩ | ⟨_, h⟩
    · refine ⟨N, n0, n1, n2, ?_⟩
      unfold wbytes
      rw [if_pos (by omega)]
      have e : (44032 + (N : Int) - 44032).toNat = N := by omega
      rw [e]
    · exact absurd h hp
  unfold SgR at h
  split at h
  · exact absurd h hp
  rename_i g
  rcases wtrail_second b with ⟨h1, _⟩ | ⟨s0, s1, _, s3, s4⟩
  · exact absurd (.inl h1) g
  have g1 : ¬ l < 129 := fun h => g (.inr (.inl h))
  have g2 : ¬ 254 < l := fun h => g (.inr (.inr h))
  generalize wsecond b = t at *
  split at h
  · rename_i l1
    obtain ⟨N, n0, n1, n2, hw⟩ := K _ _ h
    rw [hw]
    unfold wsyl
    rw [n1, n2]
    have e1 : (((l - 129) * 178 + t).toNat : Int) = (l - 129) * 178 + t := by omega
    simp only [Bool.false_eq_true, if_false]
    rw [if_pos (by omega), e1]
    have e2 : 129 + ((l - 129) * 178 + t) / 178 = l := by omega
    have e3 : ((l - 129) * 178 + t) % 178 = t := by omega
    simp only
    rw [e2, e3, s3]
  rename_i l1
  split at h
  · rename_i b1
    have t83 := s4 (by omega)
    obtain ⟨N, n0, n1, n2, hw⟩ := K _ _ h
    rw [hw]
    unfold wsyl
    rw [n1, n2]
    have e1 : ((5696 + (l - 161) * 84 + t).toNat : Int) = 5696 + (l - 161) * 84 + t := by omega
    simp only [Bool.false_eq_true, if_false]
    rw [if_neg (by omega), e1]
    have e2 : 161 + (5696 + (l - 161) * 84 + t - 5696) / 84 = l := by omega
    have e3 : (5696 + (l - 161) * 84 + t - 5696) % 84 = t := by omega
    simp only
    rw [e2, e3, s3]
  rename_i b1
  have hb254 : b ≤ 254 := by
    by_cases e : b = 255
    · subst e
      unfold wletter at s3
      split at s3
      · omega
      · split at s3 <;> omega
    · omega
  split at h
  · rename_i l2
    obtain ⟨N, n0, n1, n2, hw⟩ := K _ _ h
    rw [hw]
    unfold wsyl
    rw [n1, n2]
    have e1 : (((l - 176) * 94 + b - 161).toNat : Int) = (l - 176) * 94 + b - 161 := by omega
    simp only [if_true]
    rw [e1]
    have e2 : 161 + ((l - 176) * 94 + b - 161 + 1410) / 94 = l := by omega
    have e3 : 161 + ((l - 176) * 94 + b - 161 + 1410) % 94 = b := by omega
    rw [e2, e3]
  · rcases wAt_bd (l - 161).toNat (b - 161).toNat (by omega) with e | ⟨_, _, e3, e4⟩
    · exact absurd (h.trans e) hp
    · unfold wbytes
      rw [h, if_neg e3, e4, if_pos rfl]
      have f1 : ((l - 161).toNat : Int) = l - 161 := by omega
      have f2 : ((b - 161).toNat : Int) = b - 161 := by omega
      simp only [f1, f2]
      have f3 : 161 + ((l - 161) * 94 + (b - 161)) / 94 = l := by omega
      have f4 : 161 + ((l - 161) * 94 + (b - 161)) % 94 = b := by omega
      rw [f3, f4]
theorem wsyl_sgr (s : Nat) (hs : s < 11172) : SgR (wsyl s).1 (wsyl s).2 (44032 + (s : Int)) ∧ (0 ≤ (wsyl s).1 ∧ (wsyl s).1 ≤ 255) ∧ (0 ≤ (wsyl s).2 ∧ (wsyl s).2 ≤ 255) := by
  have hbd := CB_bd s hs
  have hk : KthIs (CB (inB s) s) (inB s) (44032 + (s : Int)) := .inl ⟨s, hs, rfl, rfl, rfl⟩
  unfold wsyl
  cases hin : inB s with
  | true =>
    rw [hin] at hbd hk
    simp only [if_true] at hbd ⊢
    generalize CB true s = k at *
    have q0 : 15 ≤ ((k : Int) + 1410) / 94 := by omega
    have q1 : ((k : Int) + 1410) / 94 ≤ 39 := by omega
    have r0 : 0 ≤ ((k : Int) + 1410) % 94 := by omega
    have r1 : ((k : Int) + 1410) % 94 ≤ 93 := by omega
    have e : ((161 + ((k : Int) + 1410) / 94 - 176) * 94 + (161 + ((k : Int) + 1410) % 94) - 161).toNat = k := by omega
    refine ⟨?_, by omega, by omega⟩
    unfold SgR
    have hs2 : ¬ wsecond (161 + ((k : Int) + 1410) % 94) < 0 := by
      unfold wsecond
      rw [if_neg (by omega), if_neg (by omega), if_pos (by omega)]
      omega
    rw [if_neg (by rintro (h | h | h); exact hs2 h; omega; omega), if_neg (by omega), if_neg (by omega), if_pos (by omega), e]
    exact hk
  | false =>
    rw [hin] at hbd hk
    simp only [Bool.false_eq_true, if_false] at hbd ⊢
    generalize CB false s = k at *
    by_cases h5 : k < 5696
    · rw [if_pos h5]
      have m0 : 0 ≤ (k : Int) % 178 := by omega
      have m1 : (k : Int) % 178 ≤ 177 := by omega
      obtain ⟨w1, _⟩ := wsecond_letter ((k : Int) % 178) ⟨m0, m1⟩
      have wb := wletter_bd ((k : Int) % 178) ⟨m0, m1⟩
      refine ⟨?_, ⟨by simp only; omega, by simp only; omega⟩, wb⟩
      unfold SgR
      simp only
      rw [w1, if_neg (by omega), if_pos (by omega)]
      have e : ((129 + (k : Int) / 178 - 129) * 178 + (k : Int) % 178).toNat = k := by omega
      rw [e]
      exact hk
    · rw [if_neg h5]
      have m0 : 0 ≤ ((k : Int) - 5696) % 84 := by omega
      have m1 : ((k : Int) - 5696) % 84 ≤ 83 := by omega
      obtain ⟨w1, w2⟩ := wsecond_letter (((k : Int) - 5696) % 84) ⟨m0, by omega⟩
      have w3 := w2 m1
      have wb := wletter_bd (((k : Int) - 5696) % 84) ⟨m0, by omega⟩
      refine ⟨?_, ⟨by simp only; omega, by simp only; omega⟩, wb⟩
      unfold SgR
      simp only
      rw [w1, if_neg (by omega), if_neg (by omega), if_pos (by omega)]
      have e : (5696 + (161 + ((k : Int) - 5696) / 84 - 161) * 84 + ((k : Int) - 5696) % 84).toNat = k := by omega
      rw [e]
      exact hk
/-- RowCode -/
def wcode (p : Int) : Int := match zScanA p 0 wanW with | some k => (161 + (k : Int) / 94) * 256 + (161 + (k : Int) % 94) | none => -1
theorem wbytes_code (p : Int) (h : ¬ (44032 ≤ p ∧ p ≤ 55203)) (hp : p ≠ 0) : (wcode p = -1 ∧ wbytes p = ([], false)) ∨ (0 ≤ wcode p ∧ wcode p < 65536 ∧ wbytes p = (twoB (wcode p / 256) (wcode p % 256), true)) := by
  unfold wcode wbytes
  rw [if_neg h, wan_rev p hp]
  cases hz : zScanA p 0 wanW with
  | none => exact .inl ⟨rfl, rfl⟩
  | some k =>
    have hk := zScanA_bd p wanW 0 k wanW_len.2 hz
    rw [wanW_len.1] at hk
    simp only [if_true]
    have e1 : ((161 + (k : Int) / 94) * 256 + (161 + (k : Int) % 94)) / 256 = 161 + (k : Int) / 94 := by omega
    have e2 : ((161 + (k : Int) / 94) * 256 + (161 + (k : Int) % 94)) % 256 = 161 + (k : Int) % 94 := by omega
    rw [e1, e2]
    exact .inr ⟨by omega, by omega, rfl⟩
theorem wbytes_neg (p : Int) (hp : p ≤ 0) : wbytes p = ([], false) := by
  unfold wbytes
  rw [if_neg (by omega)]
  have : (revl wanL p).2 = false := by
    unfold revl
    split
    · rename_i q e
      have h1 := wanL_sc q (List.mem_of_find?_eq_some e)
      have h2 : q.2 = p := by simpa using List.find?_some e
      omega
    · rfl
  rw [this]
  rfl
end Dia
end Go.Proofs
namespace Go.Proofs
open Go.RowKit

set_option maxRecDepth 100000 in
set_option maxHeartbeats 1000000 in
theorem Tryz.c_wSign_d (l b : Int) (w : World) (hl : 161 ≤ l ∧ l ≤ 254 ∧ ¬ (176 ≤ l ∧ l ≤ 200)) (hb : 161 ≤ b ∧ b ≤ 254) (hT : Tryz.Tabs w) :
    Calls Tryz.prog 35 #[.int .u8 l, .int .u8 b] w fun e w' => e = .returned (.tuple #[.int .i32 (Dia.fwdl Dia.wanL ((l - 161) * 94 + (b - 161))).1, .bool (Dia.fwdl Dia.wanL ((l - 161) * 94 + (b - 161))).2]) ∧ Below w.heap.size w w' := by
  have HC := Aid.Hid2.mk (Tryz.c_wtrail b w ⟨by omega, by omega⟩)
  have h : (Dia.wtrail b).2 = true := by unfold Dia.wtrail; rw [if_neg (by omega), if_neg (by omega), if_pos (by omega)]
  obtain ⟨l0, l1, l2⟩ := hl
  obtain ⟨b0, b1⟩ := hb
  have HF : Aid.Hid2 (∀ w1 a cap ls, Dia.T w1 a cap ls Dia.wanL → _) := ⟨fun w1 a cap ls ht => Tryz.t_Forward (a := a) (cap := cap) (ls := ls) ((l - 161) * 94 + (b - 161)) w1 ht (by omega)⟩
  have HTB := Aid.Hid2.mk (fun w1 hT => Tryz.c_wtable w1 hT)
  generalize Dia.wtrail b = c at *
  obtain ⟨c, ok⟩ := c
  simp only at h HC
  subst h
  generalize Dia.fwdl Dia.wanL ((l - 161) * 94 + (b - 161)) = fw at *
  obtain ⟨p, ok⟩ := fw
  have e1 : IntKind.u8.wrap (l - 161) = l - 161 := IntWalk.u8_in _ (by omega)
  have e5 : IntKind.u8.wrap (b - 161) = b - 161 := IntWalk.u8_in _ (by omega)
  have e2 : IntKind.i64.wrap ((l - 161) * 94) = (l - 161) * 94 := IntWalk.i64_in _ (by omega)
  have e3 : IntKind.i64.wrap ((l - 161) * 94 + (b - 161)) = (l - 161) * 94 + (b - 161) := IntWalk.i64_in _ (by omega)
  have d0 : decide (l < 129) = false := decide_eq_false (by omega)
  have d1 : (l == 255) = false := by simp; omega
  have d2 : decide (l ≤ 160) = false := decide_eq_false (by omega)
  have d3 : decide (b ≤ 160) = false := decide_eq_false (by omega)
  by_cases h4 : 1410 ≤ (l - 161) * 94 + (b - 161)
  · have d4 : decide (1410 ≤ (l - 161) * 94 + (b - 161)) = true := decide_eq_true h4
    have d5 : decide ((l - 161) * 94 + (b - 161) < 3760) = false := decide_eq_false (by omega)
    go_enter Tryz.func35, Tryz.ntmps35
    go_wp2_with fail
    refine HC.out.mono ?_
    rintro e w1 ⟨rfl, rfl⟩
    go_wp2_with fail
    refine (HTB.out _ hT).mono ?_
    rintro e w1 ⟨ls, hl1, x, cp, rfl, ht, hb1⟩
    go_wp2_with fail
    refine (HF.out _ _ _ _ ht).mono ?_
    rintro e w2 ⟨rfl, hb2⟩
    go_wp2
    go_ret2
    exact ⟨rfl, Aid.bt hb1 hb2⟩
  · have d4 : decide (1410 ≤ (l - 161) * 94 + (b - 161)) = false := decide_eq_false h4
    go_enter Tryz.func35, Tryz.ntmps35
    go_wp2_with fail
    refine HC.out.mono ?_
    rintro e w1 ⟨rfl, rfl⟩
    go_wp2_with fail
    refine (HTB.out _ hT).mono ?_
    rintro e w1 ⟨ls, hl1, x, cp, rfl, ht, hb1⟩
    go_wp2_with fail
    refine (HF.out _ _ _ _ ht).mono ?_
    rintro e w2 ⟨rfl, hb2⟩
    go_wp2
    go_ret2
    exact ⟨rfl, Aid.bt hb1 hb2⟩
theorem Dia.PlaceIs.kth {k p : Int} {b ok : Bool} (h : Dia.PlaceIs k b p ok) (hk : 0 ≤ k) : Dia.KthIs k.toNat b p ∧ ok = decide (p ≠ 0) := by
  unfold Dia.PlaceIs at h
  by_cases hc : k < if b then 2350 else 8822
  · rw [if_pos ⟨hk, hc⟩] at h
    obtain ⟨rfl, h⟩ := h
    refine ⟨h, ?_⟩
    rcases h with ⟨N, _, _, _, rfl⟩ | ⟨h, _⟩
    · simp; omega
    · rw [Dia.CB_all] at h
      cases b <;> simp at hc h <;> omega
  · rw [if_neg (by rintro ⟨_, h⟩; exact hc h)] at h
    obtain ⟨rfl, rfl⟩ := h
    refine ⟨.inr ⟨?_, rfl⟩, by simp⟩
    rw [Dia.CB_all]
    cases b <;> simp at hc ⊢ <;> omega
def Dia.IsSign (l b : Int) (w w' : World) (e : Ending) : Prop := ∃ p : Int, Dia.SgR l b p ∧ e = .returned (.tuple #[.int .i32 p, .bool (decide (p ≠ 0))]) ∧ Below w.heap.size w w'
/-- Sign -/
theorem Tryz.c_wSign (l b : Int) (w : World) (hl : 0 ≤ l ∧ l ≤ 255) (hb : 0 ≤ b ∧ b ≤ 255) (hT : Tryz.Tabs w) (hT2 : Tryz.Tab32 w) :
    Calls Tryz.prog 35 #[.int .u8 l, .int .u8 b] w fun e w' => Dia.IsSign l b w w' e := by
  have hts := Dia.wtrail_second b
  by_cases h0 : Dia.wsecond b < 0 ∨ l < 129 ∨ 254 < l
  · refine (Tryz.c_wSign_no l b w hl hb ?_).mono fun e w' ⟨he, hb⟩ => ⟨0, by unfold Dia.SgR; rw [if_pos h0], by rw [he]; rfl, hb⟩
    rcases h0 with h | h | h
    · rcases hts with ⟨_, h2⟩ | ⟨h2, _⟩
      · exact .inl (by rw [h2])
      · omega
    · exact .inr (.inl h)
    · exact .inr (.inr (by omega))
  · rcases hts with ⟨h1, _⟩ | ⟨s0, s1, s2, s3, s4⟩
    · exact absurd (.inl h1) h0
    have g1 : ¬ l < 129 := fun h => h0 (.inr (.inl h))
    have g2 : ¬ 254 < l := fun h => h0 (.inr (.inr h))
    have ht : (Dia.wtrail b).2 = true := by rw [s2]
    by_cases h1 : l < 161
    · refine (Tryz.c_wSign_a l b w ⟨by omega, by omega⟩ hb ht hT2).mono fun e w' ⟨p, ok, hp, he, hb⟩ => ?_
      rw [s2] at hp
      obtain ⟨k1, k2⟩ := hp.kth (by simp only; omega)
      exact ⟨p, by unfold Dia.SgR; rw [if_neg h0, if_pos h1]; exact k1, by rw [he, k2], hb⟩
    by_cases h2 : b < 161
    · refine (Tryz.c_wSign_b l b w ⟨by omega, by omega⟩ ⟨hb.1, by omega⟩ ht hT2).mono fun e w' ⟨p, ok, hp, he, hb⟩ => ?_
      rw [s2] at hp
      obtain ⟨k1, k2⟩ := hp.kth (by simp only; omega)
      exact ⟨p, by unfold Dia.SgR; rw [if_neg h0, if_neg h1, if_pos h2]; exact k1, by rw [he, k2], hb⟩
    have hb254 : b ≤ 254 := by
      by_cases e : b = 255
      · subst e
        exact absurd (.inl (by decide)) h0
      · omega
    by_cases h3 : 176 ≤ l ∧ l ≤ 200
    · refine (Tryz.c_wSign_c l b w h3 ⟨by omega, hb254⟩ hT2).mono fun e w' ⟨p, ok, hp, he, hb⟩ => ?_
      obtain ⟨k1, k2⟩ := hp.kth (by omega)
      refine ⟨p, ?_, by rw [he, k2], hb⟩
      unfold Dia.SgR
      rw [if_neg h0, if_neg h1, if_neg h2, if_pos h3]
      have e1 : (l - 161) * 94 + (b - 161) - 1410 = (l - 176) * 94 + b - 161 := by omega
      rw [e1] at k1
      exact k1
    · refine (Tryz.c_wSign_d l b w ⟨by omega, by omega, h3⟩ ⟨by omega, hb254⟩ hT).mono fun e w' ⟨he, hb⟩ => ?_
      have hf := Dia.wan_fwd (l - 161).toNat (b - 161).toNat (by omega)
      have f1 : ((l - 161).toNat : Int) = l - 161 := by omega
      have f2 : ((b - 161).toNat : Int) = b - 161 := by omega
      rw [f1, f2] at hf
      rw [hf] at he
      refine ⟨Dia.wAt (l - 161).toNat (b - 161).toNat, by unfold Dia.SgR; rw [if_neg h0, if_neg h1, if_neg h2, if_neg h3], ?_, hb⟩
      rw [he]
      by_cases hz : Dia.wAt (l - 161).toNat (b - 161).toNat = 0
      · rw [if_pos hz, hz]; rfl
      · rw [if_neg hz, decide_eq_true hz]
/-- Bytes -/
theorem Dia.revl_wan_bd (p : Int) (h : (Dia.revl Dia.wanL p).2 = true) : 0 ≤ (Dia.revl Dia.wanL p).1 ∧ (Dia.revl Dia.wanL p).1 < 1128 := by
  have hk : ∀ q ∈ Dia.wanL, 0 ≤ q.1 ∧ q.1 < 1128 := by decide +kernel
  unfold Dia.revl at *
  split
  · rename_i q e
    exact hk q (List.mem_of_find?_eq_some e)
  · rename_i e
    rw [e] at h
    cases h
set_option maxRecDepth 100000 in
set_option maxHeartbeats 1000000 in
theorem Tryz.c_wBytes_rows (p : Int) (w : World) (h : p < 44032 ∨ 55204 ≤ p) (hT : Tryz.Tabs w) :
    Calls Tryz.prog 36 #[.int .i32 p] w fun e w' => e = .returned (.tuple #[.string ⟨(Dia.wbytes p).1.toArray⟩, .bool (Dia.wbytes p).2]) ∧ Below w.heap.size w w' := by
  have HR := Aid.Hid2.mk (Tryz.c_Rank_no p w h)
  have hbd := Dia.revl_wan_bd p
  have HTB : Aid.Hid2 (∀ w1, Below w.heap.size w w1 → _) := ⟨fun w1 hb => Tryz.c_wtable w1 (hT.below hb)⟩
  have HV : Aid.Hid2 (∀ w1 a cap ls, Dia.T w1 a cap ls Dia.wanL → _) := ⟨fun w1 a cap ls ht => Tryz.t_Reverse' (a := a) (cap := cap) (ls := ls) p w1 ht⟩
  generalize hD : Dia.wbytes p = D
  unfold Dia.wbytes at hD
  rw [if_neg (by omega)] at hD
  generalize Dia.revl Dia.wanL p = rv at *
  obtain ⟨k, ok⟩ := rv
  simp only at hbd hD HV
  cases ok with
  | false =>
    rw [if_neg (by decide)] at hD
    subst hD
    clear hbd h
    go_enter Tryz.func36, Tryz.ntmps36
    go_wp2_with fail
    refine HR.out.mono ?_
    rintro e w1 ⟨rfl, hb1⟩
    go_wp2_with fail
    refine (HTB.out _ hb1).mono ?_
    rintro e w2 ⟨ls, hl1, x, cp, rfl, ht, hb2⟩
    go_wp2_with fail
    refine (HV.out _ _ _ _ ht).mono ?_
    rintro e w3 ⟨rfl, hb3⟩
    go_wp2
    go_ret2
    exact ⟨rfl, Aid.bt (Aid.bt hb1 hb2) hb3⟩
  | true =>
    obtain ⟨k0, k1⟩ := hbd rfl
    rw [if_pos rfl] at hD
    have HW := Aid.Hid2.mk (fun w1 => Tryz.c_wtwo (161 + k / 94) (161 + k % 94) w1 ⟨by omega, by omega⟩ ⟨by omega, by omega⟩)
    have HDD := Aid.Hid2.mk hD
    clear hbd h hD
    go_enter Tryz.func36, Tryz.ntmps36
    go_wp2_with fail
    refine HR.out.mono ?_
    rintro e w1 ⟨rfl, hb1⟩
    go_wp2_with fail
    refine (HTB.out _ hb1).mono ?_
    rintro e w2 ⟨ls, hl1, x, cp, rfl, ht, hb2⟩
    go_wp2_with fail
    refine (HV.out _ _ _ _ ht).mono ?_
    rintro e w3 ⟨rfl, hb3⟩
    go_wp2_with fail
    refine (HW.out _).mono ?_
    rintro e w4 ⟨rfl, hb4⟩
    go_wp2
    go_ret2
    rw [← HDD.out]
    exact ⟨rfl, Aid.bt (Aid.bt (Aid.bt hb1 hb2) hb3) hb4⟩
theorem Tryz.c_wBytes (p : Int) (w : World) (hT : Tryz.Tabs w) :
    Calls Tryz.prog 36 #[.int .i32 p] w fun e w' => e = .returned (.tuple #[.string ⟨(Dia.wbytes p).1.toArray⟩, .bool (Dia.wbytes p).2]) ∧ Below w.heap.size w w' := by
  by_cases h : 44032 ≤ p ∧ p ≤ 55203
  · obtain ⟨s, hs⟩ := Int.eq_ofNat_of_zero_le (show 0 ≤ p - 44032 by omega)
    obtain rfl : p = 44032 + (s : Int) := by omega
    have hb := Tryz.c_wBytes_syl s w (by omega)
    have e : Dia.wbytes (44032 + (s : Int)) = (Dia.twoB (Dia.wsyl s).1 (Dia.wsyl s).2, true) := by
      unfold Dia.wbytes
      rw [if_pos h, hs]
      rfl
    rw [e]
    exact hb
  · exact Tryz.c_wBytes_rows p w (by omega) hT
def Dia.IsRefSign (l b : Int) (w w' : World) (e : Ending) : Prop := ∃ p : Int, Dia.SgR l b p ∧ e = .returned (.int .i32 p) ∧ Below w.heap.size w w'
end Go.Proofs
