/- walks of big5: Pairs; PLAIN: big5: the signs of two bytes are the document's, and lead back; the pairs -/
import Derived.Test.YtoaojojapebamaaGreatDoorM28
import Derived.Laws.OwnMore
namespace Go.Proofs
open Go.RowKit

def Dia.bcd (q : Int × Int) : Int × Int := (Dia.bcode q.1, q.2)
def Dia.curL (k : Nat) (l : List (Int × Int)) : List (Int × Int) := (l.take k).map Dia.bcd ++ l.drop k
theorem Dia.curL_len (k : Nat) (l : List (Int × Int)) : (Dia.curL k l).length = l.length := by simp [Dia.curL]; omega
theorem Dia.curL_zero (l : List (Int × Int)) : Dia.curL 0 l = l := rfl
theorem Dia.curL_all (l : List (Int × Int)) : Dia.curL l.length l = l.map Dia.bcd := by simp [Dia.curL]
theorem Dia.curL_get (k : Nat) (l : List (Int × Int)) (h : k < l.length) : (Dia.curL k l)[k]? = some l[k] := by
  unfold Dia.curL
  rw [List.getElem?_append_right (by simp; omega)]
  simp only [List.length_map, List.length_take]
  rw [Nat.min_eq_left (by omega), Nat.sub_self, List.getElem?_drop]
  simp [h]
theorem Dia.curL_set (k : Nat) (l : List (Int × Int)) (h : k < l.length) : (Dia.curL k l).set k (Dia.bcd l[k]) = Dia.curL (k + 1) l := by
  unfold Dia.curL
  have h1 : ((l.take k).map Dia.bcd).length = k := by simp; omega
  rw [List.set_append_right _ _ (by omega), h1, Nat.sub_self, List.drop_eq_getElem_cons h, List.set_cons_zero, List.take_succ_eq_append_getElem h, List.map_append, List.append_assoc]
  rfl
theorem Dia.pcells_set : ∀ (l : List (Int × Int)) (k : Nat) (c : Int) (h : k < l.length), (l.flatMap Dia.pcells).set (k * 2) (.int .i64 c) = (l.set k (c, l[k].2)).flatMap Dia.pcells
  | q :: l, 0, c, _ => by simp [Dia.pcells]
  | q :: l, k + 1, c, h => by
    have ih := Dia.pcells_set l k c (by simpa using h)
    have e : (k + 1) * 2 = k * 2 + 2 := by omega
    rw [e]
    simp only [List.flatMap_cons, List.set_cons_succ, List.getElem_cons_succ]
    rw [← ih]
    simp [Dia.pcells]
theorem Aid.own_base {w : World} {B B' : Nat} {e : TypeId} {sz : Nat} {v : Value} {n : Nat} {xs : List Value} (h : w.ownsRow B e sz v n xs) (hB : B' ≤ B) : w.ownsRow B' e sz v n xs :=
  ⟨h.1, h.2.imp id fun ⟨g, cap, cur, a, hb, r⟩ => ⟨g, cap, cur, a, Nat.le_trans hB hb, r⟩⟩
theorem Dia.bigL_pos : 0 < Dia.bigL.length := by decide +kernel
set_option maxRecDepth 100000 in
set_option maxHeartbeats 1000000 in
theorem Tryz.c_bPairs (w : World) (hT : Tryz.Tabs w) :
    Calls Tryz.prog 27 #[] w fun e w' => Tryz.IsPS (Dia.bigL.map Dia.bcd) w w' e := by
  have HTB := Aid.Hid2.mk (Tryz.c_btable w hT)
  have HBD := Aid.Hid2.mk Dia.bigL_bd
  have hlen : Dia.bigL.length ≤ 100000 := Dia.big_len
  have hpos : 0 < Dia.bigL.length := Dia.bigL_pos
  generalize Dia.bigL = L at *
  go_enter Tryz.func27, Tryz.ntmps27
  go_wp2_with fail
  refine HTB.out.mono ?_
  rintro e w1 ⟨ls, hl1, x, cp, rfl, ht, hb1⟩
  go_wp2_with fail
  refine (Tryz.t_Pairs _ ht).mono ?_
  rintro e w2 ⟨va, vc, rfl, hown, hb2⟩
  have hB2 := Aid.bt hb1 hb2
  clear hb2 ht
  rcases hown.2 with ⟨hv, _⟩ | ⟨g, cap, cur, hv, _, _, hnc, _⟩
  · have h0 : L.length = 0 := by
      simp only [Value.slice.injEq] at hv
      exact hv.2.1
    omega
  · simp only [Value.slice.injEq] at hv
    obtain ⟨rfl, _, rfl⟩ := hv
    have hmx : w.heap.size ≤ w1.heap.size := hb1.size
    have hg : w.heap.size ≤ g := by
      have := (hown.lt g rfl).1
      omega
    clear hb1
    go_wp2_with fail
    go_loopw [2, 7] (fun _ i wr => ∃ k : Nat, k ≤ L.length ∧ i = .int .i64 k ∧ wr.ownsRow w1.heap.size 34 2 (.slice (some ⟨g, 0, none⟩) L.length vc) L.length ((Dia.curL k L).flatMap Dia.pcells) ∧ Below w.heap.size w wr)
      (fun _ i _ => L.length - (intOf i).toNat)
    case atStart => exact ⟨0, Nat.zero_le _, rfl, hown, hB2⟩
    case round =>
      obtain ⟨k, hk, rfl, ho, hb⟩ := hrel
      by_cases hlt : k < L.length
      · have hc : wr.cell? ⟨g, k * 2, none⟩ = some (.int .i64 L[k].1) := by
          rw [ho.cellAt (k * 2) (by omega)]
          exact Aid.flat_get Dia.pcells 2 Dia.pcells_len (Dia.curL k L) k 0 L[k] _ (Dia.curL_get k L hlt) rfl
        have hf := ho.frozenAt (k * 2)
        have hbd := HBD.out _ (List.getElem_mem hlt)
        have HS := Aid.Hid2.mk (ho.stored (k * 2) (.int .i64 (Dia.bcode L[k].1)))
        rw [Dia.pcells_set _ _ _ (by rw [Dia.curL_len]; exact hlt)] at HS
        have e2 : ((Dia.curL k L)[k]'(by rw [Dia.curL_len]; exact hlt)).2 = L[k].2 := by
          have := Dia.curL_get k L hlt
          rw [List.getElem?_eq_getElem (by rw [Dia.curL_len]; exact hlt)] at this
          exact congrArg Prod.snd (Option.some.inj this)
        rw [e2] at HS
        have e3 := Dia.curL_set k L hlt
        unfold Dia.bcd at e3
        rw [e3] at HS
        clear e2 e3
        have HCD : Aid.Hid2 (∀ w1, Calls Tryz.prog 62 #[.int .i64 L[k].1] w1 fun e w' => e = .returned (.int .i64 (Dia.bcode L[k].1)) ∧ w1 = w') := ⟨fun w1 => Tryz.c_bcode _ w1 ⟨by omega, by omega⟩⟩
        generalize Dia.bcode L[k].1 = c at *
        generalize L[k].1 = p at *
        go_wp2_with fail
        refine (HCD.out _).mono ?_
        rintro e w3 ⟨rfl, rfl⟩
        go_wp2
        go_roundw
        case rel => exact ⟨k + 1, by omega, by go_num, HS.out.1, hb.setCell (by omega) _⟩
        case measure => simp [intOf]; omega
      · obtain rfl : k = L.length := by omega
        rw [Dia.curL_all] at ho
        go_wp2
        go_ret
        have hl : (L.map Dia.bcd).length = L.length := List.length_map _
        refine ⟨some ⟨g, 0, none⟩, vc, ?_, ?_, hb⟩
        · rw [hl]; rfl
        · rw [hl]; exact Aid.own_base ho hmx
end Go.Proofs
namespace Go.Proofs.Dia

theorem fwd_rev {L : List (Int × Int)} (hn : (L.map Prod.snd).Nodup) (k p : Int) (h : fwdl L k = (p, true)) : revl L p = (k, true) := by
  unfold fwdl at h
  cases hf : L.find? (fun q => q.1 == k) with
  | none => rw [hf] at h; simp at h
  | some q =>
    rw [hf] at h
    simp only [Prod.mk.injEq, and_true] at h
    have hq : q ∈ L := List.mem_of_find?_eq_some hf
    have hk : q.1 = k := by simpa using List.find?_some hf
    unfold revl
    cases hg : L.find? (fun q => q.2 == p) with
    | none =>
      have := List.find?_eq_none.1 hg q hq
      simp [h] at this
    | some r =>
      have hr : r ∈ L := List.mem_of_find?_eq_some hg
      have hp : r.2 = p := by simpa using List.find?_some hg
      obtain ⟨i, hi, ei⟩ := List.getElem_of_mem hq
      obtain ⟨j, hj, ej⟩ := List.getElem_of_mem hr
      have hij : i = j := by
        have := (List.getElem_inj (h₀ := by simpa using hi) (h₁ := by simpa using hj) hn).1 (by rw [List.getElem_map, List.getElem_map, ei, ej, h, hp])
        exact this
      subst hij
      have : q = r := by rw [← ei, ← ej]
      rw [← this]
      exact congrArg (fun x => (x, true)) hk
set_option maxRecDepth 100000 in
theorem bigL_nodup : (bigL.map Prod.snd).Nodup := by decide +kernel

theorem rcell_bcell (b : Int) : ((bcell b).2 = false ∧ rcell b < 0) ∨ ((bcell b).2 = true ∧ rcell b = (bcell b).1 ∧ 0 ≤ rcell b ∧ rcell b ≤ 156) := by
  unfold rcell bcell
  by_cases h1 : 64 ≤ b ∧ b ≤ 126
  · rw [if_pos h1, if_pos h1]; exact .inr ⟨rfl, rfl, by omega, by omega⟩
  · rw [if_neg h1, if_neg h1]
    by_cases h2 : 161 ≤ b ∧ b ≤ 254
    · rw [if_pos h2, if_pos h2]; exact .inr ⟨rfl, rfl, by omega, by omega⟩
    · rw [if_neg h2, if_neg h2]; exact .inl ⟨rfl, by omega⟩
theorem rtwo_cases (c : Int) : rtwo c = (0, 0) ∨ ((c = 34914 ∨ c = 34916 ∨ c = 34979 ∨ c = 34981) ∧ btwoC (rtwo c).1 (rtwo c).2 = c ∧ (rtwo c).1 ≠ 0 ∧ sc (rtwo c).1 = true ∧ sc (rtwo c).2 = true) := by
  unfold rtwo
  by_cases h1 : c = 34914
  · subst h1; exact .inr ⟨by decide, by decide, by decide, by decide, by decide⟩
  by_cases h2 : c = 34916
  · subst h2; exact .inr ⟨by decide, by decide, by decide, by decide, by decide⟩
  by_cases h3 : c = 34979
  · subst h3; exact .inr ⟨by decide, by decide, by decide, by decide, by decide⟩
  by_cases h4 : c = 34981
  · subst h4; exact .inr ⟨by decide, by decide, by decide, by decide, by decide⟩
  rw [if_neg h1, if_neg h2, if_neg h3, if_neg h4]
  exact .inl rfl
theorem rowP_none (l : Int) (h : l < 129 ∨ l = 255) : rowP l = [] := by
  unfold rowP
  rw [if_neg (by omega), if_neg (by omega), if_neg (by omega), if_neg (by omega), if_neg (by omega)]
theorem rcC_cell (l b : Int) (h : 0 ≤ rcell b) (_hl : 129 ≤ l) : rcC l (rcell b).toNat = l * 256 + b := by
  unfold rcell at *
  by_cases h1 : 64 ≤ b ∧ b ≤ 126
  · rw [if_pos h1]
    unfold rcC
    rw [if_pos (by omega)]
    omega
  · rw [if_neg h1] at h ⊢
    by_cases h2 : 161 ≤ b ∧ b ≤ 254
    · rw [if_pos h2]
      unfold rcC
      rw [if_neg (by omega)]
      omega
    · rw [if_neg h2] at h
      omega
/-- THE SIGNS OF TWO BYTES, AND BACK -/
theorem bs_cases (l b : Int) (hl : 0 ≤ l ∧ l ≤ 255) (hb : 0 ≤ b ∧ b ≤ 255) :
    (bsigns l b = ([], false) ∧ rsigns l b = []) ∨ (∃ sl : List Int, bsigns l b = (encs sl, true) ∧ rsigns l b = encs sl ∧ encs sl ≠ [] ∧ (∀ p ∈ sl, sc p = true) ∧ sl.length ≤ 2 ∧ bbytes sl = (bigB (l * 256 + b).toNat 2, (sl.length : Int))) := by
  unfold bsigns rsigns
  rcases rcell_bcell b with ⟨h1, h2⟩ | ⟨h1, h2, h3, h4⟩
  · rw [if_pos (.inl h1)]
    have ht : rtwo (l * 256 + b) = (0, 0) := by
      rcases rtwo_cases (l * 256 + b) with h | ⟨h, _⟩
      · exact h
      · exfalso
        unfold rcell at h2
        split at h2
        · omega
        · rename_i g1
          split at h2
          · omega
          · omega
    have ho : rone l b = 0 := by unfold rone; rw [if_pos h2]
    rw [ht, ho]
    exact .inl ⟨rfl, rfl⟩
  · by_cases hl2 : l < 129 ∨ l = 255
    · rw [if_pos (.inr hl2)]
      have ht : rtwo (l * 256 + b) = (0, 0) := by
        rcases rtwo_cases (l * 256 + b) with h | ⟨h, _⟩
        · exact h
        · exfalso; omega
      have ho : rone l b = 0 := by
        unfold rone
        rw [if_neg (by omega), rowP_none l hl2]
        rfl
      rw [ht, ho]
      exact .inl ⟨rfl, rfl⟩
    · rw [if_neg (by rintro (h | h); (rw [h1] at h; cases h); exact hl2 h)]
      rcases rtwo_cases (l * 256 + b) with ht | ⟨_, hc, hn, s1, s2⟩
      · rw [ht]
        simp only [ne_eq, not_true_eq_false, if_false]
        obtain ⟨c, hcc⟩ := Int.eq_ofNat_of_zero_le h3
        have hF := big_fwd l c (by omega) (by omega) (by omega)
        rw [← h2, hcc, hF]
        have hRO : rone l b = if (rowP l).getD c 0 = 63 then 0 else (rowP l).getD c 0 := by
          unfold rone
          rw [if_neg (by omega), hcc]
          rfl
        rw [hRO]
        by_cases hz : (rowP l).getD c 0 = 63 ∨ (rowP l).getD c 0 = 0
        · rw [if_pos hz]
          have : (if (rowP l).getD c 0 = 63 then (0 : Int) else (rowP l).getD c 0) = 0 := by
            rcases hz with hz | hz
            · rw [if_pos hz]
            · by_cases h : (rowP l).getD c 0 = 63
              · rw [if_pos h]
              · rw [if_neg h]; exact hz
          rw [this]
          exact .inl ⟨rfl, rfl⟩
        · have hz1 : ¬ (rowP l).getD c 0 = 63 := fun h => hz (.inl h)
          have hz2 : ¬ (rowP l).getD c 0 = 0 := fun h => hz (.inr h)
          rw [if_neg hz] at hF ⊢
          have hb2 := fwd_rev bigL_nodup _ _ hF
          rw [if_neg hz1, if_pos hz2]
          have hsc : sc ((rowP l).getD c 0) = true := by
            have := fwdl_sc bigL_sc ((l - 129) * 157 + c) (by rw [hF])
            rw [hF] at this
            exact this
          refine .inr ⟨[(rowP l).getD c 0], ?_, ?_, ?_, ?_, by simp, ?_⟩
          · simp [encs]
          · simp [encs]
          · simpa [encs] using enc_ne hsc
          · simpa using hsc
          · show bone _ = _
            unfold bone
            rw [hb2, if_pos rfl]
            rw [bcode_at l c (by omega) (by omega)]
            have := rcC_cell l b h3 (by omega)
            rw [hcc] at this
            rw [show ((c : Int).toNat) = c from rfl] at this
            rw [this]
            rfl
      · generalize rtwo (l * 256 + b) = t at *
        obtain ⟨p, q⟩ := t
        simp only at hc hn s1 s2
        rw [if_pos hn, if_pos hn]
        refine .inr ⟨[p, q], ?_, ?_, ?_, ?_, by simp, ?_⟩
        · simp [encs]
        · simp [encs]
        · intro e
          simp [encs] at e
          exact enc_ne s1 e.1
        · intro x hx
          simp at hx
          rcases hx with rfl | rfl
          · exact s1
          · exact s2
        · rw [bbytes_two, hc, if_pos (by omega)]
          rfl
theorem two_bytes (l b : Int) (hl : 0 ≤ l ∧ l ≤ 255) (hb : 0 ≤ b ∧ b ≤ 255) : strOfNums [l, b] = ⟨(bigB (l * 256 + b).toNat 2).toArray⟩ := by
  unfold strOfNums bigB
  obtain ⟨x, rfl⟩ := Int.eq_ofNat_of_zero_le hl.1
  obtain ⟨y, rfl⟩ := Int.eq_ofNat_of_zero_le hb.1
  have e : ((x : Int) * 256 + (y : Int)).toNat = x * 256 + y := by omega
  rw [e]
  simp only [List.map_cons, List.map_nil, List.range_succ, List.range_zero, List.nil_append, List.map_append, Int.toNat_natCast]
  have e1 : (x * 256 + y) / 256 ^ (2 - 1 - 0) % 256 = x := by omega
  have e2 : (x * 256 + y) / 256 ^ (2 - 1 - 1) % 256 = y := by omega
  rw [e1, e2]
  rfl
theorem two_code (c : Int) (h0 : 0 ≤ c) (h1 : c < 65536) : strOfNums [c / 256, c % 256] = ⟨(bigB c.toNat 2).toArray⟩ := by
  rw [two_bytes _ _ ⟨by omega, by omega⟩ ⟨by omega, by omega⟩]
  have e : c / 256 * 256 + c % 256 = c := by omega
  rw [e]
theorem awake_1 : bsigns 136 98 = ([195, 138, 204, 132], true) := by decide +kernel
theorem awake_2 : bbytes [202, 65] = ([136, 102], 1) := by decide +kernel
end Go.Proofs.Dia
