/- PLAIN: what a charset lists is what it does; walks: johab.Pairs, pairs; walks: TopPairs -/
import Derived.Test.YtoaojojapebamaaGreatDoorM38
import Derived.Test.YtoaojojapebamaaGreatDoorM29
import Derived.Test.YtoaojojapebamaaGreatDoorM40
import Derived.Test.YtoaojojapebamaaGreatDoorM48
import Derived.Maps.OwnOps
import Derived.Maps.Views
namespace Go.Proofs.Dia
/-- a listed code's bytes -/
def cbs (c code : Int) : List UInt8 := if c ≤ 3 then [code.toNat.toUInt8] else twoB (code / 256) (code % 256)
structure Lists (c : Int) (l : List (Int × Int)) : Prop where
  each : ∀ q ∈ l, 0 ≤ q.1 ∧ q.1 < 65536 ∧ sc q.2 = true ∧ cEnc c (encs [q.2]) = some (cbs c q.1)
  nodup : (l.map Prod.snd).Nodup
  many : 200 < l.length
  few : l.length ≤ 40000
  low : c ≤ 3 → ∀ q ∈ l, q.1 < 256
theorem pts_one {p : Int} (h : sc p = true) : pts (encs [p]) = ([p], -1) := pts_ok [p] (by intro q hq; rw [List.mem_singleton] at hq; subst hq; exact h)
theorem cEnc_one {c p : Int} (h : sc p = true) : cEnc c (encs [p]) = if c ≤ 3 then (if (encO (sinB c) [p]).2 < 0 then some (encO (sinB c) [p]).1 else none)
    else if c ≤ 6 then (wrt c 1 [p]).map fun us => (us.map Prod.fst).flatten
    else if c = 7 then some (encs [p]) else some (wens (decide (c = 9)) [p]) := by
  unfold cEnc
  rw [pts_one h]
  rfl
theorem cEnc_two {c p : Int} {b : List UInt8} (hc : c = 4 ∨ c = 5 ∨ c = 6) (h : sc p = true) (hb : csb c [p] = (b, 1)) : cEnc c (encs [p]) = some b := by
  rw [cEnc_one h, if_neg (by omega), if_pos (by omega), wrt_succ 0 1 (by simp) (by rw [hb]; rfl) (Nat.le_refl _), hb]
  simp [wrt_nil]
theorem cEnc_sin {c p k : Int} (hc : 0 ≤ c ∧ c ≤ 3) (h : sc p = true) (hk : sinB c p = k) (h0 : 0 ≤ k) : cEnc c (encs [p]) = some [k.toNat.toUInt8] := by
  rw [cEnc_one h, if_pos hc.2, encO_ok (by intro q hq; rw [List.mem_singleton] at hq; subst hq; rw [hk]; exact h0)]
  simp [hk]
theorem nodup_code {l : List (Int × Int)} (g : Int → Int) (h : ∀ q ∈ l, g q.2 = q.1) (hn : (l.map Prod.fst).Nodup) : (l.map Prod.snd).Nodup := by
  rw [List.nodup_iff_pairwise_ne, List.pairwise_map] at hn ⊢
  exact hn.imp_of_mem fun ha hb hne he => hne (by rw [← h _ ha, ← h _ hb, he])
theorem lists_sin {c : Int} (hc : 0 ≤ c ∧ c ≤ 3) : Lists c (sinL c) := by
  have hlen : (sinL c).length = 256 := by unfold sinL; rw [pairsF_len, sinS_len c hc]
  have hmem : ∀ q ∈ sinL c, ∃ n : Nat, n < 256 ∧ q = ((n : Int), (sinS c).getD n 0) := fun q hq => by
    obtain ⟨n, hn, rfl⟩ := List.getElem_of_mem hq
    have h1 := pairsF_get (sinS c) 0 n
    have h3 : n < (sinS c).length := by rw [sinS_len c hc]; omega
    rw [List.getElem?_eq_getElem h3] at h1
    have h2 : (sinL c)[n]? = some (sinL c)[n] := List.getElem?_eq_getElem hn
    unfold sinL at h2 ⊢
    rw [h1] at h2
    refine ⟨n, by omega, ?_⟩
    rw [← Option.some.inj h2, List.getD_eq_getElem?_getD, List.getElem?_eq_getElem h3, Int.zero_add]
    rfl
  have hB : ∀ n : Nat, n < 256 → sinB c ((sinS c).getD n 0) = n := fun n hn => idxB_nodup (sinS_nodup hc) (by rw [sinS_len c hc]; exact hn)
  refine ⟨fun q hq => ?_, ?_, by omega, by omega, fun _ q hq => by obtain ⟨n, hn, rfl⟩ := hmem q hq; simp only; omega⟩
  · obtain ⟨n, hn, rfl⟩ := hmem q hq
    have hsc : sc ((sinS c).getD n 0) = true := by
      have h3 : n < (sinS c).length := by rw [sinS_len c hc]; omega
      rw [List.getD_eq_getElem?_getD, List.getElem?_eq_getElem h3]
      exact (sinS_sc c _ (List.getElem_mem h3)).1
    refine ⟨by simp only; omega, by simp only; omega, hsc, ?_⟩
    simp only
    rw [cEnc_sin hc hsc (hB n hn) (by omega)]
    unfold cbs
    rw [if_pos hc.2]
  · refine nodup_code (sinB c) (fun q hq => ?_) ?_
    · obtain ⟨n, hn, rfl⟩ := hmem q hq
      exact hB n hn
    · have e : (sinL c).map Prod.fst = (List.range 256).map fun n : Nat => (n : Int) := by
        apply List.ext_getElem?
        intro n
        rw [List.getElem?_map, List.getElem?_map]
        by_cases hn : n < 256
        · rw [List.getElem?_range hn, List.getElem?_eq_getElem (by omega)]
          obtain ⟨m, hm, hq⟩ := hmem (sinL c)[n] (List.getElem_mem _)
          have h1 := pairsF_get (sinS c) 0 n
          have h3 : n < (sinS c).length := by rw [sinS_len c hc]; omega
          rw [List.getElem?_eq_getElem h3] at h1
          have h2 : (sinL c)[n]? = some (sinL c)[n] := List.getElem?_eq_getElem (by omega)
          unfold sinL at h2 ⊢
          rw [h1] at h2
          rw [← Option.some.inj h2]
          simp
        · rw [List.getElem?_eq_none (by omega), List.getElem?_eq_none (by simp; omega)]
          rfl
      rw [e]
      rw [List.nodup_iff_pairwise_ne, List.pairwise_map]
      exact List.nodup_range.imp (by intro a b h; omega)
set_option maxRecDepth 100000 in
theorem wan_big : ∀ q ∈ wanL, 128 ≤ q.2 ∧ 0 ≤ q.1 ∧ q.1 < 1128 ∧ sc q.2 = true := by decide +kernel
theorem lists_wan : Lists 4 (wanL.map wcd) := by
  have hrise := wan_rise
  have key : ∀ q ∈ wanL, wbytes q.2 = (twoB (161 + q.1 / 94) (161 + q.1 % 94), true) := fun q hq => by
    have hf := rise_fwd (k := q.1) (p := q.2) hrise hq
    have hr := wfwd_rev wanL_nodup _ _ hf
    have hs := wanL_sc q hq
    unfold wbytes
    rw [if_neg hs.2.2, hr]
    rfl
  have hl : wanL.length = 724 := wan_len
  refine ⟨fun q hq => ?_, ?_, by rw [List.length_map, hl]; decide, by rw [List.length_map, hl]; decide, fun h => absurd h (by decide)⟩
  · obtain ⟨r, hr, rfl⟩ := List.mem_map.1 hq
    obtain ⟨b1, b2, b3, b4⟩ := wan_big r hr
    refine ⟨by unfold wcd; simp only; omega, by unfold wcd; simp only; omega, b4, ?_⟩
    have hcs : csb 4 [r.2] = (twoB (161 + r.1 / 94) (161 + r.1 % 94), 1) := by
      rw [csb_cons, if_neg (by omega), if_pos rfl, key r hr]
      rfl
    show cEnc 4 (encs [r.2]) = _
    rw [cEnc_two (.inl rfl) b4 hcs]
    unfold cbs wcd
    rw [if_neg (by decide)]
    simp only
    rw [show ((161 + r.1 / 94) * 256 + 161 + r.1 % 94) / 256 = 161 + r.1 / 94 by omega, show ((161 + r.1 / 94) * 256 + 161 + r.1 % 94) % 256 = 161 + r.1 % 94 by omega]
  · rw [List.map_map]
    exact wanL_nodup
set_option maxRecDepth 100000 in
theorem big_big : ∀ q ∈ bigL, 128 ≤ q.2 ∧ 0 ≤ bcode q.1 ∧ bcode q.1 < 65536 ∧ sc q.2 = true := by decide +kernel
set_option maxRecDepth 100000 in
theorem big_many : 200 < bigL.length ∧ bigL.length ≤ 40000 := by decide +kernel
theorem lists_big : Lists 6 (bigL.map bcd) := by
  refine ⟨fun q hq => ?_, ?_, by rw [List.length_map]; exact big_many.1, by rw [List.length_map]; exact big_many.2, fun h => absurd h (by decide)⟩
  · obtain ⟨r, hr, rfl⟩ := List.mem_map.1 hq
    obtain ⟨b1, b2, b3, b4⟩ := big_big r hr
    have hf := rise_fwd (k := r.1) (p := r.2) big_rise hr
    have hrv := fwd_rev bigL_nodup _ _ hf
    refine ⟨b2, b3, b4, ?_⟩
    have hcs : csb 6 [r.2] = (twoB (bcode r.1 / 256) (bcode r.1 % 256), 1) := by
      rw [csb_cons, if_neg (by omega), if_neg (by decide), if_neg (by decide)]
      show bone r.2 = _
      unfold bone
      rw [hrv, if_pos rfl, big2_two _ b2 b3]
    show cEnc 6 (encs [r.2]) = _
    rw [cEnc_two (.inr (.inr rfl)) b4 hcs]
    rfl
  · rw [List.map_map]
    exact bigL_nodup
/-! johab -/
theorem jalone_back {x : Int} (h0 : 0 ≤ x) (h1 : x < 256) {p : Int} (h : jalone x = (p, true)) : 12593 ≤ p ∧ p < 12623 ∧ jcon (p - 12593).toNat = x := by
  have hall : ∀ n : Nat, n < 256 → (jalone n).2 = true → 12593 ≤ (jalone n).1 ∧ (jalone n).1 < 12623 ∧ jcon ((jalone n).1 - 12593).toNat = n := by decide +kernel
  obtain ⟨n, rfl⟩ := Int.eq_ofNat_of_zero_le h0
  have := hall n (by omega) (by rw [h])
  rw [h] at this
  exact this
theorem jmed_neg {c : Int} (h : jmed c = -1) : c = 2 := by unfold jmed at h; repeat' split at h <;> try omega
theorem jfin_zero {c : Int} (h : jfin c = 0) : c = 1 := by unfold jfin at h; repeat' split at h <;> try omega
/-- the sign of two bytes leads back to them -/
theorem jsign_back {l t p : Int} (hl : 0 ≤ l ∧ l ≤ 255) (ht : 0 ≤ t ∧ t ≤ 255) (h : jsign l t = (p, true)) : jbytes p = (twoB l t, true) ∧ 128 ≤ p ∧ sc p = true := by
  unfold jsign at h
  by_cases h128 : l < 128
  · rw [if_pos h128] at h; simp at h
  rw [if_neg h128] at h
  have bm := jmed_bd ((l * 256 + t) / 32 % 32)
  have bf := jfin_bd ((l * 256 + t) % 32)
  have mc := @jmc_med ((l * 256 + t) / 32 % 32)
  have fc := @jfc_fin ((l * 256 + t) % 32)
  have mn := @jmed_neg ((l * 256 + t) / 32 % 32)
  have fz := @jfin_zero ((l * 256 + t) % 32)
  have hcode : l * 256 + t = 32768 + (l * 256 + t) / 1024 % 32 * 1024 + (l * 256 + t) / 32 % 32 * 32 + (l * 256 + t) % 32 := by omega
  have ha : 0 ≤ (l * 256 + t) / 1024 % 32 ∧ (l * 256 + t) / 1024 % 32 ≤ 31 := by omega
  have htw : ∀ i m f : Int, jcode i m f = l * 256 + t → jtwo i m f = twoB l t := fun i m f e => by
    unfold jtwo
    rw [e, big2_two _ (by omega) (by omega), show (l * 256 + t) / 256 = l by omega, show (l * 256 + t) % 256 = t by omega]
  generalize (l * 256 + t) / 1024 % 32 = a at *
  generalize (l * 256 + t) / 32 % 32 = b at *
  generalize (l * 256 + t) % 32 = c at *
  generalize jmed b = m at *
  generalize jfin c = f at *
  unfold jsg at h
  split at h
  · simp at h
  rename_i g1
  split at h
  · rename_i g2
    simp only [Prod.mk.injEq, and_true] at h
    have e1 : (p - 44032) / 28 / 21 + 2 = a := by omega
    have e2 : (p - 44032) / 28 % 21 = m := by omega
    have e3 : (p - 44032) % 28 = f := by omega
    refine ⟨?_, by omega, by rw [sc_iff]; omega⟩
    unfold jbytes
    rw [if_pos (by omega), e1, e2, e3, htw _ _ _ (by unfold jcode; rw [mc (by omega), fc (by omega)]; omega)]
  · split at h
    · rename_i g2 g3
      obtain ⟨k0, k1, k2⟩ := jalone_back (by omega) (by omega) h
      have hb := mn (by omega)
      have hc := fz (by omega)
      refine ⟨?_, by omega, by rw [sc_iff]; omega⟩
      unfold jbytes
      rw [if_neg (by omega), if_neg (by omega), if_pos (by omega), k2, if_pos (by omega), htw _ _ _ (by unfold jcode; omega)]
    · split at h
      · rename_i g2 g3 g4
        simp only [Prod.mk.injEq, and_true] at h
        have hc := fz (by omega)
        refine ⟨?_, by omega, by rw [sc_iff]; omega⟩
        unfold jbytes
        rw [if_neg (by omega), if_pos (by omega), show p - 12623 = m by omega, htw _ _ _ (by unfold jcode; rw [mc (by omega)]; omega)]
      · split at h
        · simp at h
        · rename_i g2 g3 g4 g5
          obtain ⟨k0, k1, k2⟩ := jalone_back (by omega) (by omega) h
          have hb := mn (by omega)
          refine ⟨?_, by omega, by rw [sc_iff]; omega⟩
          unfold jbytes
          rw [if_neg (by omega), if_neg (by omega), if_pos (by omega), k2, if_neg (by omega), show 65 + f - 65 = f by omega, htw _ _ _ (by unfold jcode; rw [fc (by omega)]; omega)]
def jat (code : Int) : Int × Bool := jsign (code / 256) (code % 256)
/-- the codes that have a sign, and it, n codes from one on -/
def jfrom : Nat → Int → List (Int × Int)
  | 0, _ => []
  | n + 1, k => if (jat k).2 = true then (k, (jat k).1) :: jfrom n (k + 1) else jfrom n (k + 1)
theorem jfrom_len : ∀ (n : Nat) (k : Int), (jfrom n k).length ≤ n
  | 0, _ => by simp [jfrom]
  | n + 1, k => by
    have := jfrom_len n (k + 1)
    unfold jfrom
    split
    · rw [List.length_cons]; omega
    · omega
theorem jfrom_succ (n : Nat) (k : Int) : jfrom (n + 1) k = if (jat k).2 = true then (k, (jat k).1) :: jfrom n (k + 1) else jfrom n (k + 1) := rfl
theorem jfrom_add : ∀ (n m : Nat) (k : Int), jfrom (n + m) k = jfrom n k ++ jfrom m (k + (n : Int))
  | 0, m, k => by simp [jfrom]
  | n + 1, m, k => by
    have ih := jfrom_add n m (k + 1)
    rw [show n + 1 + m = (n + m) + 1 by omega]
    have e : k + 1 + (n : Int) = k + ((n + 1 : Nat) : Int) := by omega
    rw [e] at ih
    rw [jfrom_succ, jfrom_succ, ih]
    split <;> simp
theorem jfrom_mem : ∀ (n : Nat) (k : Int) (q : Int × Int), q ∈ jfrom n k → k ≤ q.1 ∧ q.1 < k + n ∧ jat q.1 = (q.2, true)
  | 0, _, _, h => by simp [jfrom] at h
  | n + 1, k, q, h => by
    unfold jfrom at h
    split at h
    · rename_i hk
      rcases List.mem_cons.1 h with rfl | h
      · exact ⟨Int.le_refl _, by simp only; omega, Prod.ext rfl hk⟩
      · obtain ⟨h1, h2, h3⟩ := jfrom_mem n (k + 1) q h
        exact ⟨by omega, by omega, h3⟩
    · obtain ⟨h1, h2, h3⟩ := jfrom_mem n (k + 1) q h
      exact ⟨by omega, by omega, h3⟩
theorem jfrom_rise : ∀ (n : Nat) (k : Int), (jfrom n k).Pairwise fun a b => a.1 ≠ b.1
  | 0, _ => List.Pairwise.nil
  | n + 1, k => by
    have ih := jfrom_rise n (k + 1)
    unfold jfrom
    split
    · refine List.Pairwise.cons (fun q hq => ?_) ih
      have := jfrom_mem n (k + 1) q hq
      simp only
      omega
    · exact ih
def johL : List (Int × Int) := jfrom 32768 32768
theorem joh_some : (jfrom 1024 34816).length > 200 := by decide +kernel
theorem lists_joh : Lists 5 johL := by
  have key : ∀ q ∈ johL, 32768 ≤ q.1 ∧ q.1 < 65536 ∧ jbytes q.2 = (twoB (q.1 / 256) (q.1 % 256), true) ∧ 128 ≤ q.2 ∧ sc q.2 = true := fun q hq => by
    obtain ⟨h1, h2, h3⟩ := jfrom_mem _ _ _ hq
    obtain ⟨g1, g2, g3⟩ := jsign_back (l := q.1 / 256) (t := q.1 % 256) (by omega) (by omega) h3
    exact ⟨h1, by omega, g1, g2, g3⟩
  refine ⟨fun q hq => ?_, ?_, ?_, ?_, fun h => absurd h (by decide)⟩
  · obtain ⟨h1, h2, h3, h4, h5⟩ := key q hq
    refine ⟨by omega, h2, h5, ?_⟩
    have hcs : csb 5 [q.2] = (twoB (q.1 / 256) (q.1 % 256), 1) := by
      rw [csb_cons, if_neg (by omega), if_neg (by decide), if_pos rfl, h3]
      rfl
    rw [cEnc_two (.inr (.inl rfl)) h5 hcs]
    rfl
  · refine nodup_code (fun p => (((jbytes p).1.getD 0 0).toNat : Int) * 256 + (((jbytes p).1.getD 1 0).toNat : Int)) (fun q hq => ?_) ?_
    · obtain ⟨h1, h2, h3, _, _⟩ := key q hq
      rw [h3]
      have e1 : (q.1 / 256).toNat.toUInt8.toNat = (q.1 / 256).toNat := u8 _ (by omega)
      have e2 : (q.1 % 256).toNat.toUInt8.toNat = (q.1 % 256).toNat := u8 _ (by omega)
      show (((q.1 / 256).toNat.toUInt8.toNat : Nat) : Int) * 256 + (((q.1 % 256).toNat.toUInt8.toNat : Nat) : Int) = q.1
      rw [e1, e2]
      omega
    · rw [List.nodup_iff_pairwise_ne, List.pairwise_map]
      exact jfrom_rise _ _
  · have e : johL = jfrom 2048 32768 ++ (jfrom 1024 34816 ++ jfrom 29696 35840) := by
      unfold johL
      rw [show (32768 : Nat) = 2048 + (1024 + 29696) from rfl, jfrom_add 2048, jfrom_add 1024]
      rfl
    have := joh_some
    rw [e, List.length_append, List.length_append]
    omega
  · have := jfrom_len 32768 32768
    unfold johL
    omega
theorem lists_any {c : Int} (h : 0 ≤ c ∧ c ≤ 6) : ∃ l, Lists c l ∧ ((c ≤ 3 ∧ l = sinL c) ∨ (c = 4 ∧ l = wanL.map wcd) ∨ (c = 5 ∧ l = johL) ∨ (c = 6 ∧ l = bigL.map bcd)) := by
  by_cases h3 : c ≤ 3
  · exact ⟨_, lists_sin ⟨h.1, h3⟩, .inl ⟨h3, rfl⟩⟩
  · have : c = 4 ∨ c = 5 ∨ c = 6 := by omega
    rcases this with rfl | rfl | rfl
    · exact ⟨_, lists_wan, .inr (.inl ⟨rfl, rfl⟩)⟩
    · exact ⟨_, lists_joh, .inr (.inr (.inl ⟨rfl, rfl⟩))⟩
    · exact ⟨_, lists_big, .inr (.inr (.inr ⟨rfl, rfl⟩))⟩
end Go.Proofs.Dia
namespace Go.Proofs
open Go.RowKit

set_option maxRecDepth 100000 in
set_option maxHeartbeats 4000000 in
theorem Tryz.c_jPairs (w : World) : Calls Tryz.prog 26 #[] w fun e w' => Tryz.IsPS Dia.johL w w' e := by
  obtain ⟨i0, hi, hz0, hz1, hz2⟩ := info_parts (show (Tryz.prog.info? 34).map (fun i => (i.zero, i.size, i.bytes)) = some (some (.agg #[.int .i64 0, .int .i32 0]), 2, 16) by kernel_rfl)
  have HL : Aid.Hid2 (Dia.johL = [] ++ Dia.jfrom 32768 32768) := ⟨rfl⟩
  have HFEW : Aid.Hid2 (Dia.johL.length ≤ 40000) := ⟨Dia.lists_joh.few⟩
  generalize Dia.johL = L at *
  go_enter Tryz.func26, Tryz.ntmps26
  go_wp2
  go_loopw [1, 2, 3, 4] (fun v i _ _ wr => ∃ (n : Nat) (done : List (Int × Int)), n ≤ 32768 ∧ i = .int .i64 (65536 - (n : Int)) ∧ Aid.Hid2 (L = done ++ Dia.jfrom n (65536 - (n : Int))) ∧ wr.ownsRow w.heap.size 34 2 v done.length (done.flatMap Dia.pcells) ∧ Below w.heap.size w wr)
    (fun _ i _ _ _ => (65536 - intOf i).toNat)
  case atStart => exact ⟨32768, [], Nat.le_refl _, rfl, ⟨HL.out⟩, World.ownsRow_nil _ _ _ _, Below.refl _ _⟩
  case round =>
    obtain ⟨n, done, hn, rfl, HD, ho, hb⟩ := hrel
    have hbs := hb.size
    cases n with
    | zero =>
      have e : L = done := by rw [HD.out]; simp [Dia.jfrom]
      have dl : decide ((65536 : Int) - ((0 : Nat) : Int) < 65536) = false := by decide
      obtain ⟨va, vc, rfl⟩ := Aid.own_val ho
      have HP : Aid.Hid2 (Tryz.IsPS L w wr (.returned (.slice va done.length vc))) := ⟨⟨va, vc, by rw [e], by rw [e]; exact ho, hb⟩⟩
      clear e ho HD HL
      go_wp2
      go_ret
      exact HP.out
    | succ n =>
      have hK0 : 32768 ≤ (65536 : Int) - ((n + 1 : Nat) : Int) := by omega
      have hK1 : (65536 : Int) - ((n + 1 : Nat) : Int) < 65536 := by omega
      have hlen : done.length ≤ 40000 := by
        have := HFEW.out
        rw [HD.out, List.length_append] at this
        omega
      have hnext : (65536 : Int) - ((n + 1 : Nat) : Int) + 1 = 65536 - (n : Int) := by omega
      have HJ : Aid.Hid2 (Dia.jfrom (n + 1) (65536 - ((n + 1 : Nat) : Int)) = if (Dia.jat (65536 - ((n + 1 : Nat) : Int))).2 = true then (65536 - ((n + 1 : Nat) : Int), (Dia.jat (65536 - ((n + 1 : Nat) : Int))).1) :: Dia.jfrom n (65536 - (n : Int)) else Dia.jfrom n (65536 - (n : Int))) := ⟨by rw [Dia.jfrom_succ, hnext]⟩
      have HS : Aid.Hid2 (∀ w1, Calls Tryz.prog 33 #[.int .u8 ((65536 - ((n + 1 : Nat) : Int)) / 256), .int .u8 ((65536 - ((n + 1 : Nat) : Int)) % 256)] w1 fun e w' => e = .returned (.tuple #[.int .i32 (Dia.jat (65536 - ((n + 1 : Nat) : Int))).1, .bool (Dia.jat (65536 - ((n + 1 : Nat) : Int))).2]) ∧ w1 = w') := ⟨fun w1 => Tryz.c_jSign _ _ w1 (by omega) (by omega)⟩
      have HNX := Aid.Hid2.mk hnext
      have HME : Aid.Hid2 ((65536 - ((65536 : Int) - (n : Int))).toNat = n ∧ (65536 - ((65536 : Int) - ((n + 1 : Nat) : Int))).toNat = n + 1) := ⟨by omega, by omega⟩
      have u1 : IntKind.u8.wrap (((65536 : Int) - ((n + 1 : Nat) : Int)) / 256) = ((65536 : Int) - ((n + 1 : Nat) : Int)) / 256 := IntWalk.u8_in _ (by omega)
      have u2 : IntKind.u8.wrap ((65536 : Int) - ((n + 1 : Nat) : Int)) = ((65536 : Int) - ((n + 1 : Nat) : Int)) % 256 := by rw [IntKind.wrap_u8]
      have dl : decide ((65536 : Int) - ((n + 1 : Nat) : Int) < 65536) = true := decide_eq_true (by omega)
      generalize Dia.jat (65536 - ((n + 1 : Nat) : Int)) = J at *
      obtain ⟨p, ok⟩ := J
      clear hnext
      generalize (65536 : Int) - ((n + 1 : Nat) : Int) = K at *
      have hK2 : 0 ≤ K := by omega
      cases ok with
      | true =>
        have HD2 : Aid.Hid2 (L = (done ++ [(K, p)]) ++ Dia.jfrom n (65536 - (n : Int))) := ⟨by rw [HD.out, HJ.out]; simp⟩
        clear HJ HD HL
        go_wp2_with fail
        refine (HS.out _).mono ?_
        rintro e w1 ⟨rfl, rfl⟩
        go_wp2_with (at_builtin; refine Aid.wpList_app1 (w0 := w) _ rfl _ _ 30 34 2 16 rfl Tryz.underlying30 i0 _ hi hz0 hz1 hz2 rfl (by decide) w.heap.size _ _ _ #[.int .i64 K, .int .i32 p] _ rfl _ rfl ho hb ?_ rfl rfl ?_ ?_ ?_ ?_)
        · omega
        · simp [Value.oneCell']
        · omega
        · omega
        · intro v' w7 hown7 hb7 hsz7 _
          go_wp2
          go_roundw
          case rel => exact ⟨n, done ++ [(K, p)], by omega, by rw [HNX.out], HD2, by simpa [Dia.pcells] using hown7, hb7⟩
          case measure => simp [intOf]; have := HME.out; have := HNX.out; omega
      | false =>
        have HD2 : Aid.Hid2 (L = done ++ Dia.jfrom n (65536 - (n : Int))) := ⟨by rw [HD.out, HJ.out]; simp⟩
        clear HJ HD HL
        go_wp2_with fail
        refine (HS.out _).mono ?_
        rintro e w1 ⟨rfl, rfl⟩
        go_wp2
        go_roundw
        case rel => exact ⟨n, done, by omega, by rw [HNX.out], HD2, ho, hb⟩
        case measure => simp [intOf]; have := HME.out; have := HNX.out; omega
theorem Tryz.isPS_trans {l : List (Int × Int)} {w w1 w' : World} {e : Ending} (hb : Below w.heap.size w w1) (h : Tryz.IsPS l w1 w' e) : Tryz.IsPS l w w' e := by
  obtain ⟨va, vc, he, ho, hb2⟩ := h
  exact ⟨va, vc, he, Aid.own_base ho hb.size, Aid.bt hb hb2⟩
set_option maxRecDepth 100000 in
set_option maxHeartbeats 2000000 in
theorem Tryz.c_pairs_one (c : Int) (l : List (Int × Int)) (w : World) (hc : c = 4 ∨ c = 5 ∨ c = 6)
    (h4 : c = 4 → Calls Tryz.prog 25 #[] w fun e w' => Tryz.IsPS l w w' e) (h5 : c = 5 → Calls Tryz.prog 26 #[] w fun e w' => Tryz.IsPS l w w' e) (h6 : c = 6 → Calls Tryz.prog 27 #[] w fun e w' => Tryz.IsPS l w w' e) :
    Calls Tryz.prog 9 #[.int .i64 c] w fun e w' => Tryz.IsPS l w w' e := by
  rcases hc with rfl | rfl | rfl
  · have H := Aid.Hid2.mk (h4 rfl)
    clear h4 h5 h6
    go_enter Tryz.func9, Tryz.ntmps9
    go_wp2_with fail
    refine H.out.mono ?_
    rintro e w1 ⟨va, vc, rfl, ho, hb1⟩
    have HP : Aid.Hid2 (Tryz.IsPS l w w1 (.returned (.slice va l.length vc))) := ⟨⟨va, vc, rfl, ho, hb1⟩⟩
    clear ho
    go_wp2
    go_ret
    exact HP.out
  · have H := Aid.Hid2.mk (h5 rfl)
    clear h4 h5 h6
    go_enter Tryz.func9, Tryz.ntmps9
    go_wp2_with fail
    refine H.out.mono ?_
    rintro e w1 ⟨va, vc, rfl, ho, hb1⟩
    have HP : Aid.Hid2 (Tryz.IsPS l w w1 (.returned (.slice va l.length vc))) := ⟨⟨va, vc, rfl, ho, hb1⟩⟩
    clear ho
    go_wp2
    go_ret
    exact HP.out
  · have H := Aid.Hid2.mk (h6 rfl)
    clear h4 h5 h6
    go_enter Tryz.func9, Tryz.ntmps9
    go_wp2_with fail
    refine H.out.mono ?_
    rintro e w1 ⟨va, vc, rfl, ho, hb1⟩
    have HP : Aid.Hid2 (Tryz.IsPS l w w1 (.returned (.slice va l.length vc))) := ⟨⟨va, vc, rfl, ho, hb1⟩⟩
    clear ho
    go_wp2
    go_ret
    exact HP.out
set_option maxRecDepth 100000 in
set_option maxHeartbeats 2000000 in
theorem Tryz.c_pairs_sin (c : Int) (w : World) (hT : Tryz.Tabs w) (hc : 0 ≤ c ∧ c ≤ 3) :
    Calls Tryz.prog 9 #[.int .i64 c] w fun e w' => Tryz.IsPS (Dia.sinL c) w w' e := by
  have HO : Aid.Hid2 (Calls Tryz.prog 17 #[.int .i64 c] w fun e w' => Dia.IsOf c (Dia.sinL c) w w' e) := ⟨Tryz.c_Of c w hT hc⟩
  have d4 : (c == 4) = false := by simp; omega
  have d5 : (c == 5) = false := by simp; omega
  have d6 : (c == 6) = false := by simp; omega
  clear hT hc
  generalize Dia.sinL c = L at *
  go_enter Tryz.func9, Tryz.ntmps9
  go_wp2_with fail
  refine HO.out.mono ?_
  rintro e w1 ⟨a1, c1, ls, rfl, hn1, ht1, hb1⟩
  have kS := heap_alloc_new w1 (.cells #[.slice a1 ls.length c1, .int .i64 c] 45)
  have hB1 := Aid.bt hb1 (Aid.b1 w1 (.cells #[.slice a1 ls.length c1, .int .i64 c] 45))
  have hT1 := ht1.below (Aid.b1 w1 (.cells #[.slice a1 ls.length c1, .int .i64 c] 45))
  clear ht1 hb1
  obtain ⟨p0, p1, q0, q1⟩ := Aid.two kS
  go_wp2_with fail
  refine (Tryz.t_Pairs _ hT1).mono ?_
  rintro e w2 ⟨va, vc, rfl, ho, hb2⟩
  have HP : Aid.Hid2 (Tryz.IsPS L w w2 (.returned (.slice va L.length vc))) := ⟨Tryz.isPS_trans hB1 ⟨va, vc, rfl, ho, hb2⟩⟩
  clear ho
  go_wp2
  go_ret
  exact HP.out
set_option maxRecDepth 100000 in
theorem Tryz.c_pairs (c : Int) (w : World) (hT : Tryz.Tabs w) (hc : 0 ≤ c ∧ c ≤ 6) : ∃ l, Dia.Lists c l ∧ Calls Tryz.prog 9 #[.int .i64 c] w fun e w' => Tryz.IsPS l w w' e := by
  obtain ⟨l, hl, h⟩ := Dia.lists_any hc
  refine ⟨l, hl, ?_⟩
  rcases h with ⟨h3, rfl⟩ | ⟨rfl, rfl⟩ | ⟨rfl, rfl⟩ | ⟨rfl, rfl⟩
  · exact Tryz.c_pairs_sin c w hT ⟨hc.1, h3⟩
  · exact Tryz.c_pairs_one 4 _ w (.inl rfl) (fun _ => Tryz.c_wRows w hT) (fun h => by simp at h) (fun h => by simp at h)
  · exact Tryz.c_pairs_one 5 _ w (.inr (.inl rfl)) (fun h => by simp at h) (fun _ => Tryz.c_jPairs w) (fun h => by simp at h)
  · exact Tryz.c_pairs_one 6 _ w (.inr (.inr rfl)) (fun h => by simp at h) (fun h => by simp at h) (fun _ => Tryz.c_bPairs w hT)
end Go.Proofs
namespace Go.Proofs
open Go.RowKit Go.Maps

/-- what has been seen, as the map's datum -/
def Dia.seenD (l : List (Int × Int)) (D : DataW Unit) : DataW Unit := l.foldl (fun D q => D.put (.int .i32 q.2) (.lit (.int .i64 1))) D
theorem Dia.seenD_snoc (l : List (Int × Int)) (q : Int × Int) (D : DataW Unit) : Dia.seenD (l ++ [q]) D = (Dia.seenD l D).put (.int .i32 q.2) (.lit (.int .i64 1)) := by unfold Dia.seenD; rw [List.foldl_append]; rfl
theorem Dia.seenD_none (p : Int) (z : DataW Unit) : ∀ (l : List (Int × Int)) (D : DataW Unit), (∀ q ∈ l, q.2 ≠ p) → (Dia.seenD l D).atKey (.int .i32 p) z = D.atKey (.int .i32 p) z
  | [], D, _ => rfl
  | q :: l, D, h => by
    have ih := Dia.seenD_none p z l (D.put (.int .i32 q.2) (.lit (.int .i64 1))) (fun r hr => h r (by simp [hr]))
    show (Dia.seenD l (D.put (.int .i32 q.2) (.lit (.int .i64 1)))).atKey (.int .i32 p) z = _
    rw [ih]
    refine atKey_put_other (fun e => h q (by simp) ?_) _ _
    injection e with e1 e2
    exact e2.symm
theorem Aid.ownsMap_below {P : Program} {k : TypeId} {R : Value → Option (DataW Unit × List MemPlace)} {b n : Nat} {D : DataW Unit} {w w' : World} (h : w.ownsMap P k R b n D) (hb : Below w.heap.size w w') : w'.ownsMap P k R b n D := by
  obtain ⟨es, clock, h1, F, h2, h3⟩ := h
  have hlt := (Array.getElem?_eq_some_iff.1 h1).1
  exact ⟨es, clock, (hb.block b hlt).trans h1, F, h2, h3⟩
theorem Dia.wnodup_ne2 {L : List (Int × Int)} (h : (L.map Prod.snd).Nodup) {j k : Nat} (hj : j < k) (hk : k < L.length) : (L[j]'(by omega)).2 ≠ L[k].2 := by
  intro e
  have := (List.getElem_inj (h₀ := by simp; omega) (h₁ := by simp; omega) h (i := j) (j := k)).1 (by simpa using e)
  omega
theorem Tryz.key32 : Keyed Tryz.prog 21 := int_keyed Tryz.underlying21
theorem Tryz.zero64 (w : World) : (zeroValue 3).run Tryz.prog w = .ok (.int .i64 0) w := by kernel_rfl
theorem Dia.cbs_str (c code : Int) : (c ≤ 3 → strOfNums [code] = ⟨(Dia.cbs c code).toArray⟩) ∧ (3 < c → strOfNums [code / 256, code % 256] = ⟨(Dia.cbs c code).toArray⟩) := by
  refine ⟨fun h => ?_, fun h => ?_⟩
  · unfold Dia.cbs; rw [if_pos h]; rfl
  · unfold Dia.cbs; rw [if_neg (by omega)]; rfl
set_option maxRecDepth 100000 in
set_option maxHeartbeats 4000000 in
theorem Tryz.w_TopPairs (x : Int) (w : World) (hT : Tryz.Tabs w ∧ Tryz.Tab32 w ∧ Tryz.Names w) (hx : 0 ≤ x ∧ x ≤ 255) :
    Calls Tryz.prog 4 #[.int .u8 x] w fun e w' => e = .returned (.bool true) ∧ Below w.heap.size w w' := by
  obtain ⟨hT, hT2, hN⟩ := hT
  obtain ⟨x0, x1⟩ := hx
  have HAW := Aid.Hid2.mk (Tryz.c_Awake09 w hT hT2 hN)
  have k1 : IntKind.i64.wrap (x % 7) = x % 7 := IntWalk.i64_in _ (by omega)
  have k2 : IntKind.u8.wrap (x % 7) = x % 7 := IntWalk.u8_in _ (by omega)
  have hc0 : 0 ≤ x % 7 := by omega
  have hc6 : x % 7 ≤ 6 := by omega
  have HPR : ∀ w1, Below w.heap.size w w1 → ∃ l, Dia.Lists (x % 7) l ∧ Calls Tryz.prog 9 #[.int .i64 (x % 7)] w1 fun e w' => Tryz.IsPS l w1 w' e := fun w1 hb => Tryz.c_pairs _ w1 (hT.below hb) ⟨hc0, hc6⟩
  have HPR := Aid.Hid2.mk HPR
  have HED : Aid.Hid2 (∀ (t : ByteArray) (b : List UInt8) (w1 : World), t.size ≤ 1000 → Dia.cEnc (x % 7) t.data.toList = some b → Below w.heap.size w w1 → Calls Tryz.prog 6 #[.int .i64 (x % 7), .string t] w1 fun e w' => e = .returned (.tuple #[.string ⟨b.toArray⟩, .agg #[.int .i64 0, .int .i64 0]]) ∧ Below w1.heap.size w1 w') := ⟨fun t b w1 hs hx h => (Tryz.c_cEncode _ t w1 (hT.below h) (by omega) hs).mono fun e w' ⟨a, b, y, g1, g2, _, g4⟩ => by
    obtain ⟨rfl, rfl, rfl⟩ := g2 _ hx
    exact ⟨g1, g4⟩⟩
  have HDD : Aid.Hid2 (∀ (t : ByteArray) (b : List UInt8) (w1 : World), t.size ≤ 1000 → Dia.cEnc (x % 7) t.data.toList = some b → Below w.heap.size w w1 → Calls Tryz.prog 8 #[.int .i64 (x % 7), .string ⟨b.toArray⟩] w1 fun e w' => e = .returned (.tuple #[.string t, .agg #[.int .i64 0, .int .i64 0]]) ∧ Below w1.heap.size w1 w') := ⟨fun t b w1 hs hx h => (Tryz.c_cDecode _ t b w1 (hT.below h) (hT2.below h) (by omega) hs hx).mono fun e w' ⟨a, b, y, g1, g2, _, g4⟩ => by
    obtain ⟨rfl, rfl, rfl⟩ := g2 _ rfl
    exact ⟨g1, g4⟩⟩
  clear hT hT2 hN
  generalize hcx : x % 7 = c at *
  have hmm := @run_makeMap Tryz.prog
  go_enter Tryz.func4, Tryz.ntmps4
  go_wp2_with fail
  refine HAW.out.mono ?_
  rintro e w1 ⟨rfl, hb1⟩
  obtain ⟨l, hl, hPL⟩ := HPR.out w1 hb1
  have HL := Aid.Hid2.mk hl
  have HPL := Aid.Hid2.mk hPL
  clear hl hPL HPR
  go_wp2_with fail
  refine HPL.out.mono ?_
  rintro e w2 ⟨va, vc, rfl, hown, hb2⟩
  have hB2 := Aid.bt hb1 hb2
  have hmany := HL.out.many
  have hfew := HL.out.few
  rcases hown.2 with ⟨hv, _⟩ | ⟨g, cap, cur, hv, _, _, hnc, _⟩
  · exfalso
    simp only [Value.slice.injEq] at hv
    omega
  simp only [Value.slice.injEq] at hv
  obtain ⟨rfl, _, rfl⟩ := hv
  have hcells := hown.cells (g := g) rfl
  have HC : Aid.Hid2 (∀ (j : Nat) (h : j < l.length) (w3 : World), Below w2.heap.size w2 w3 → w3.cell? ⟨g, j * 2, none⟩ = some (.int .i64 l[j].1) ∧ w3.cell? ⟨g, j * 2 + 1, none⟩ = some (.int .i32 l[j].2)) := ⟨fun j h w3 hb => by
    have hp : ∀ i, (⟨g, 0, none⟩ : Addr).add i = ⟨g, 0 + i, none⟩ := by intro i; unfold Addr.add; split <;> simp_all
    have c0 := hcells (j * 2 + 0) _ (Aid.flat_get Dia.pcells 2 Dia.pcells_len l j 0 l[j] _ (by simp [h]) rfl)
    have c1 := hcells (j * 2 + 1) _ (Aid.flat_get Dia.pcells 2 Dia.pcells_len l j 1 l[j] _ (by simp [h]) rfl)
    rw [hp, Nat.zero_add] at c0 c1
    exact ⟨Aid.cell_ext hb c0, Aid.cell_ext hb c1⟩⟩
  clear hown hcells hb1 hb2
  go_wp2_with fail
  go_loopw [7, 8, 9, 10, 11, 12, 23] (fun _ _ _ _ _ _ i wr => ∃ k : Nat, k ≤ l.length ∧ i = .int .i64 k ∧ wr.ownsMap Tryz.prog 21 (plainElem Tryz.prog 3) w2.heap.size k (Dia.seenD (l.take k) (.map [])) ∧ Below w2.heap.size w2 wr)
    (fun _ _ _ _ _ _ i _ => l.length - (intOf i).toNat)
  case atStart => exact ⟨0, Nat.zero_le _, rfl, World.ownsMap_made _ _ _ _, (Below.refl _ _).alloc (Nat.le_refl _) _⟩
  case round =>
    obtain ⟨k, hk, rfl, hmap, hb⟩ := hrel
    by_cases hlt : k < l.length
    · obtain ⟨c0, c1⟩ := HC.out k hlt _ hb
      obtain ⟨m0, m1, m2, m3⟩ := HL.out.each l[k] (List.getElem_mem hlt)
      have HTK := Aid.Hid2.mk (Dia.take_snoc l k hlt)
      have HNO : Aid.Hid2 (∀ z, (Dia.seenD (l.take k) (.map [])).atKey (.int .i32 l[k].2) z = z) := ⟨fun z => by
        rw [Dia.seenD_none]
        · rfl
        · intro q hq
          obtain ⟨j, hj, rfl⟩ := List.getElem_of_mem hq
          have hj2 : j < k := by simpa using (Nat.lt_of_lt_of_le hj (List.length_take_le _ _))
          rw [List.getElem_take]
          exact Dia.wnodup_ne2 HL.out.nodup hj2 hlt⟩
      have hkmax : k ≤ 40000 := by omega
      generalize hq0 : l[k] = q at *
      obtain ⟨code, p⟩ := q
      have HLOW : Aid.Hid2 (c ≤ 3 → code < 256) := ⟨fun h => HL.out.low h (code, p) (by rw [← hq0]; exact List.getElem_mem hlt)⟩
      clear hq0
      simp only at c0 c1 m0 m1 m2 m3 HNO
      have hbs := hb.size
      have hsc := m2
      rw [Dia.sc_iff] at hsc
      obtain ⟨tt, htt⟩ : ∃ tt : ByteArray, tt = ⟨(Dia.enc p).toArray⟩ := ⟨_, rfl⟩
      have hel : (Dia.enc p).length ≤ 4 := by
        have h1 := Dia.encs_le [p]
        rw [Dia.encs_one] at h1
        simpa using h1
      have httl : tt.data.toList = Dia.encs [p] := by rw [htt, Dia.encs_one]
      have htts : tt.size ≤ 1000 := by
        show tt.data.toList.length ≤ 1000
        rw [httl, Dia.encs_one]; omega
      obtain ⟨bb, hbb⟩ : ∃ bb : ByteArray, bb = ⟨(Dia.cbs c code).toArray⟩ := ⟨_, rfl⟩
      rw [← httl] at m3
      have HDq : Aid.Hid2 (∀ w1, Below w.heap.size w w1 → Calls Tryz.prog 8 #[.int .i64 c, .string bb] w1 fun e w' => e = .returned (.tuple #[.string tt, .agg #[.int .i64 0, .int .i64 0]]) ∧ Below w1.heap.size w1 w') := ⟨fun w1 h => by rw [hbb]; exact HDD.out tt _ w1 htts m3 h⟩
      have HEq : Aid.Hid2 (∀ w1, Below w.heap.size w w1 → Calls Tryz.prog 6 #[.int .i64 c, .string tt] w1 fun e w' => e = .returned (.tuple #[.string bb, .agg #[.int .i64 0, .int .i64 0]]) ∧ Below w1.heap.size w1 w') := ⟨fun w1 h => by rw [hbb]; exact HED.out tt _ w1 htts m3 h⟩
      have HBq : Aid.Hid2 (∀ w1, Calls Tryz.prog 10 #[.int .i32 p] w1 fun e w' => e = .returned (.string tt) ∧ Below w1.heap.size w1 w') := ⟨fun w1 => by rw [htt]; exact Tryz.c_refBytes p w1 m2⟩
      have HST := Aid.Hid2.mk (Dia.cbs_str c code)
      rw [← hbb] at HST
      clear m2 m3 htt hbb httl htts hel
      have u1 : IntKind.u8.wrap (code / 256) = code / 256 := IntWalk.u8_in _ (by omega)
      have u2 : IntKind.u8.wrap code = code % 256 := by rw [IntKind.wrap_u8]
      have hz1 : (wr.alloc (.cells #[.int .i64 code, .int .i32 p] 34)).heap.size = wr.heap.size + 1 := by simp
      have kQ := heap_alloc_new wr (.cells #[.int .i64 code, .int .i32 p] 34)
      obtain ⟨p0, p1, _, _⟩ := Aid.two kQ
      have hz2 : ((wr.alloc (.cells #[.int .i64 code, .int .i32 p] 34)).alloc (.cells #[.int .u8 (code % 256)] 5)).heap.size = wr.heap.size + 2 := by simp
      have hcv1 : (convert 35 9 (.slice (some ⟨wr.heap.size + 1, 0, none⟩) 1 1)).run Tryz.prog ((wr.alloc (.cells #[.int .i64 code, .int .i32 p] 34)).alloc (.cells #[.int .u8 (code % 256)] 5)) = .ok (.string (strOfNums [code % 256])) ((wr.alloc (.cells #[.int .i64 code, .int .i32 p] 34)).alloc (.cells #[.int .u8 (code % 256)] 5)) := by
        have h := Aid.run_conv_ints _ 35 9 5 ⟨(wr.alloc (.cells #[.int .i64 code, .int .i32 p] 34)).heap.size, 0, none⟩ 1 [code % 256] Tryz.underlying35 Tryz.underlying5 Tryz.underlying9 (Aid.cells_new (wr.alloc (.cells #[.int .i64 code, .int .i32 p] 34)) #[.int .u8 (code % 256)] 5 (0, 0) _ rfl)
        rw [hz1] at h
        exact h
      have hcv2 : (convert 35 9 (.slice (some ⟨wr.heap.size + 2, 0, none⟩) 2 2)).run Tryz.prog (((wr.alloc (.cells #[.int .i64 code, .int .i32 p] 34)).alloc (.cells #[.int .u8 (code % 256)] 5)).alloc (.cells #[.int .u8 (code / 256), .int .u8 (code % 256)] 5)) = .ok (.string (strOfNums [code / 256, code % 256])) (((wr.alloc (.cells #[.int .i64 code, .int .i32 p] 34)).alloc (.cells #[.int .u8 (code % 256)] 5)).alloc (.cells #[.int .u8 (code / 256), .int .u8 (code % 256)] 5)) := by
        have h := Aid.run_conv_ints _ 35 9 5 ⟨((wr.alloc (.cells #[.int .i64 code, .int .i32 p] 34)).alloc (.cells #[.int .u8 (code % 256)] 5)).heap.size, 0, none⟩ 2 [code / 256, code % 256] Tryz.underlying35 Tryz.underlying5 Tryz.underlying9 (Aid.cells_new ((wr.alloc (.cells #[.int .i64 code, .int .i32 p] 34)).alloc (.cells #[.int .u8 (code % 256)] 5)) #[.int .u8 (code / 256), .int .u8 (code % 256)] 5 (0, 0) _ rfl)
        rw [hz2] at h
        exact h
      clear hz1 hz2
      have hkey : keyOf Tryz.prog 21 (.int .i32 p) = some (.int .i32 p) := keyOf_int_mk Tryz.underlying21 (WalkArith.wf_i32 (by omega))
      by_cases h3 : c ≤ 3
      · have d3 : decide (3 < c) = false := decide_eq_false (by omega)
        have hlow : code % 256 = code := by have := HLOW.out h3; omega
        have hs2 := HST.out.1 h3
        rw [hlow] at hcv1 u2
        rw [hs2] at hcv1
        clear hs2 HST h3 hcv2
        have hcv2 := hcv1

        have hbp : Below w2.heap.size w2 ((wr.alloc (.cells #[.int .i64 code, .int .i32 p] 34)).alloc (.cells #[.int .u8 (code)] 5)) := ((hb.alloc hbs (.cells #[.int .i64 code, .int .i32 p] 34)).alloc (by first | (simp; done) | (simp; omega)) (.cells #[.int .u8 (code)] 5))
        have hrp : Below wr.heap.size wr ((wr.alloc (.cells #[.int .i64 code, .int .i32 p] 34)).alloc (.cells #[.int .u8 (code)] 5)) := (((Below.refl wr.heap.size wr).alloc (Nat.le_refl _) (.cells #[.int .i64 code, .int .i32 p] 34)).alloc (by first | (simp; done) | (simp; omega)) (.cells #[.int .u8 (code)] 5))
        have kP : (((wr.alloc (.cells #[.int .i64 code, .int .i32 p] 34)).alloc (.cells #[.int .u8 (code)] 5))).heap[wr.heap.size]? = some (.cells #[.int .i64 code, .int .i32 p] 34) := Aid.blk_alloc kQ
        clear kQ
        go_wp2_with fail
        refine (HDq.out _ (Aid.bt hB2 hbp)).mono ?_
        rintro e w4 ⟨rfl, hb4⟩
        clear p0 p1 c0 c1
        have kP4 := Aid.blk_alloc (o' := .cells #[.int .i64 0, .int .i64 0] 26) (Aid.blk hb4 kP)
        have kD4 := heap_alloc_new w4 (.cells #[.int .i64 0, .int .i64 0] 26)
        have hbq := Aid.bt (Aid.bt hbp hb4) (Aid.b1 w4 (.cells #[.int .i64 0, .int .i64 0] 26))
        have hrq := Aid.bt (Aid.bt hrp hb4) (Aid.b1 w4 (.cells #[.int .i64 0, .int .i64 0] 26))
        clear hb4 kP hbp hrp hcv1 hcv2
        go_wp2_with fail
        refine (HEq.out _ (Aid.bt hB2 hbq)).mono ?_
        rintro e w5 ⟨rfl, hb5⟩
        have kP5 := Aid.blk_alloc (o' := .cells #[.int .i64 0, .int .i64 0] 26) (Aid.blk hb5 kP4)
        have kD5 := Aid.blk_alloc (o' := .cells #[.int .i64 0, .int .i64 0] 26) (Aid.blk hb5 kD4)
        have kE5 := heap_alloc_new w5 (.cells #[.int .i64 0, .int .i64 0] 26)
        have hbr := Aid.bt (Aid.bt hbq hb5) (Aid.b1 w5 (.cells #[.int .i64 0, .int .i64 0] 26))
        have hrr := Aid.bt (Aid.bt hrq hb5) (Aid.b1 w5 (.cells #[.int .i64 0, .int .i64 0] 26))
        clear hb5 kP4 kD4 hbq hrq
        obtain ⟨r0, r1, s0, s1⟩ := Aid.two kD5
        go_wp2_with fail
        refine (Tryz.c_Bad_no _ _).mono ?_
        rintro e w6 ⟨rfl, hb6⟩
        have kP6 := Aid.blk hb6 kP5
        have hbs6 := Aid.bt hbr hb6
        have hrs6 := Aid.bt hrr hb6
        obtain ⟨t0, t1, v0, v1⟩ := Aid.two (Aid.blk hb6 kE5)
        clear hb6 kP5 kD5 kE5 hbr hrr r0 r1 s0 s1
        go_wp2_with fail
        refine (Tryz.c_Bad_no _ _).mono ?_
        rintro e w7 ⟨rfl, hb7⟩
        have kP7 := Aid.blk hb7 kP6
        have hb27 := Aid.bt hbs6 hb7
        have hr27 := Aid.bt hrs6 hb7
        obtain ⟨r0, r1, s0, s1⟩ := Aid.two kP7
        clear hb7 kP6 hbs6 hrs6 t0 t1 v0 v1
        go_wp2_with fail
        refine (HBq.out _).mono ?_
        rintro e w8 ⟨rfl, hb8⟩
        have hb28 := Aid.bt hb27 hb8
        have hr28 := Aid.bt hr27 hb8
        have hs28 := hb28.size
        have hmap8 := Aid.ownsMap_below hmap hr28
        obtain ⟨t0, t1, v0, v1⟩ := Aid.two (Aid.blk hb8 kP7)
        clear hb8 kP7 hb27 hr27 r0 r1 s0 s1 hmap
        obtain ⟨cc, hrun, hat, _⟩ := hmap8.lookup_int Tryz.key32 Tryz.underlying32 Tryz.underlying3 (Tryz.zero64 _) hkey
        rw [HNO.out] at hat
        injection hat with hat1
        injection hat1 with _ hat2
        subst hat2
        go_wp2_with (at_mapUpdate; refine wpList_mapUpdate_own _ rfl _ _ _ 32 rfl 21 3 Tryz.key32 Tryz.underlying32 _ w2.heap.size k _ rfl hmap8 (by unfold maxLen; omega) _ _ _ rfl rfl hkey _ [] (plainElem_int Tryz.underlying3 (by decide)) ?_)
        intro w9 hown9 hg9
        go_wp2
        go_roundw
        case rel => exact ⟨k + 1, by omega, by go_num, by rw [HTK.out, Dia.seenD_snoc]; exact hown9, hb28.grown hg9 hs28 (fun j hj => by cases hj; exact Nat.le_refl _)⟩
        case measure => simp [intOf]; omega
      · have d3 : decide (3 < c) = true := decide_eq_true (by omega)
        have hs2 := HST.out.2 (by omega)
        rw [hs2] at hcv2
        clear hs2 HST h3

        have hbp : Below w2.heap.size w2 (((wr.alloc (.cells #[.int .i64 code, .int .i32 p] 34)).alloc (.cells #[.int .u8 (code % 256)] 5)).alloc (.cells #[.int .u8 (code / 256), .int .u8 (code % 256)] 5)) := (((hb.alloc hbs (.cells #[.int .i64 code, .int .i32 p] 34)).alloc (by first | (simp; done) | (simp; omega)) (.cells #[.int .u8 (code % 256)] 5)).alloc (by first | (simp; done) | (simp; omega)) (.cells #[.int .u8 (code / 256), .int .u8 (code % 256)] 5))
        have hrp : Below wr.heap.size wr (((wr.alloc (.cells #[.int .i64 code, .int .i32 p] 34)).alloc (.cells #[.int .u8 (code % 256)] 5)).alloc (.cells #[.int .u8 (code / 256), .int .u8 (code % 256)] 5)) := ((((Below.refl wr.heap.size wr).alloc (Nat.le_refl _) (.cells #[.int .i64 code, .int .i32 p] 34)).alloc (by first | (simp; done) | (simp; omega)) (.cells #[.int .u8 (code % 256)] 5)).alloc (by first | (simp; done) | (simp; omega)) (.cells #[.int .u8 (code / 256), .int .u8 (code % 256)] 5))
        have kP : ((((wr.alloc (.cells #[.int .i64 code, .int .i32 p] 34)).alloc (.cells #[.int .u8 (code % 256)] 5)).alloc (.cells #[.int .u8 (code / 256), .int .u8 (code % 256)] 5))).heap[wr.heap.size]? = some (.cells #[.int .i64 code, .int .i32 p] 34) := Aid.blk_alloc (Aid.blk_alloc kQ)
        clear kQ
        go_wp2_with fail
        refine (HDq.out _ (Aid.bt hB2 hbp)).mono ?_
        rintro e w4 ⟨rfl, hb4⟩
        clear p0 p1 c0 c1
        have kP4 := Aid.blk_alloc (o' := .cells #[.int .i64 0, .int .i64 0] 26) (Aid.blk hb4 kP)
        have kD4 := heap_alloc_new w4 (.cells #[.int .i64 0, .int .i64 0] 26)
        have hbq := Aid.bt (Aid.bt hbp hb4) (Aid.b1 w4 (.cells #[.int .i64 0, .int .i64 0] 26))
        have hrq := Aid.bt (Aid.bt hrp hb4) (Aid.b1 w4 (.cells #[.int .i64 0, .int .i64 0] 26))
        clear hb4 kP hbp hrp hcv1 hcv2
        go_wp2_with fail
        refine (HEq.out _ (Aid.bt hB2 hbq)).mono ?_
        rintro e w5 ⟨rfl, hb5⟩
        have kP5 := Aid.blk_alloc (o' := .cells #[.int .i64 0, .int .i64 0] 26) (Aid.blk hb5 kP4)
        have kD5 := Aid.blk_alloc (o' := .cells #[.int .i64 0, .int .i64 0] 26) (Aid.blk hb5 kD4)
        have kE5 := heap_alloc_new w5 (.cells #[.int .i64 0, .int .i64 0] 26)
        have hbr := Aid.bt (Aid.bt hbq hb5) (Aid.b1 w5 (.cells #[.int .i64 0, .int .i64 0] 26))
        have hrr := Aid.bt (Aid.bt hrq hb5) (Aid.b1 w5 (.cells #[.int .i64 0, .int .i64 0] 26))
        clear hb5 kP4 kD4 hbq hrq
        obtain ⟨r0, r1, s0, s1⟩ := Aid.two kD5
        go_wp2_with fail
        refine (Tryz.c_Bad_no _ _).mono ?_
        rintro e w6 ⟨rfl, hb6⟩
        have kP6 := Aid.blk hb6 kP5
        have hbs6 := Aid.bt hbr hb6
        have hrs6 := Aid.bt hrr hb6
        obtain ⟨t0, t1, v0, v1⟩ := Aid.two (Aid.blk hb6 kE5)
        clear hb6 kP5 kD5 kE5 hbr hrr r0 r1 s0 s1
        go_wp2_with fail
        refine (Tryz.c_Bad_no _ _).mono ?_
        rintro e w7 ⟨rfl, hb7⟩
        have kP7 := Aid.blk hb7 kP6
        have hb27 := Aid.bt hbs6 hb7
        have hr27 := Aid.bt hrs6 hb7
        obtain ⟨r0, r1, s0, s1⟩ := Aid.two kP7
        clear hb7 kP6 hbs6 hrs6 t0 t1 v0 v1
        go_wp2_with fail
        refine (HBq.out _).mono ?_
        rintro e w8 ⟨rfl, hb8⟩
        have hb28 := Aid.bt hb27 hb8
        have hr28 := Aid.bt hr27 hb8
        have hs28 := hb28.size
        have hmap8 := Aid.ownsMap_below hmap hr28
        obtain ⟨t0, t1, v0, v1⟩ := Aid.two (Aid.blk hb8 kP7)
        clear hb8 kP7 hb27 hr27 r0 r1 s0 s1 hmap
        obtain ⟨cc, hrun, hat, _⟩ := hmap8.lookup_int Tryz.key32 Tryz.underlying32 Tryz.underlying3 (Tryz.zero64 _) hkey
        rw [HNO.out] at hat
        injection hat with hat1
        injection hat1 with _ hat2
        subst hat2
        go_wp2_with (at_mapUpdate; refine wpList_mapUpdate_own _ rfl _ _ _ 32 rfl 21 3 Tryz.key32 Tryz.underlying32 _ w2.heap.size k _ rfl hmap8 (by unfold maxLen; omega) _ _ _ rfl rfl hkey _ [] (plainElem_int Tryz.underlying3 (by decide)) ?_)
        intro w9 hown9 hg9
        go_wp2
        go_roundw
        case rel => exact ⟨k + 1, by omega, by go_num, by rw [HTK.out, Dia.seenD_snoc]; exact hown9, hb28.grown hg9 hs28 (fun j hj => by cases hj; exact Nat.le_refl _)⟩
        case measure => simp [intOf]; omega
    · have dl : decide (200 < (l.length : Int)) = true := decide_eq_true (by omega)
      go_wp2
      go_ret
      exact ⟨rfl, Aid.bt hB2 hb⟩
end Go.Proofs
