/- walks of the fourth layer's reference: Join, Over -/
import Derived.Test.YtligcgaakihnkaaDoorR4
namespace Go.Proofs
open Go.RowKit

/-- pairs, or none, are handed back -/
def Dia.IsOpt (o : Option (List (Int × Int))) (w w' : World) (e : Ending) : Prop :=
  ∃ (a : Option Addr) (n cap : Nat), e = .returned (.tuple #[.slice a n cap, .bool o.isSome]) ∧ (∀ l, o = some l → n = l.length ∧ Dia.PairsAt w' a l) ∧ Below w.heap.size w w'
theorem Dia.puts_len : ∀ (m l : List (Int × Int)), (m.foldl Dia.rput l).length = l.length + m.length
  | [], l => by simp
  | q :: m, l => by rw [List.foldl_cons, Dia.puts_len m, Dia.rput_len]; simp; omega
theorem Dia.over_len (l : List (Int × Int)) : ∀ (m o : List (Int × Int)), (m.foldl (Dia.ostep l) o).length ≤ o.length + m.length
  | [], o => by simp
  | q :: m, o => by
    rw [List.foldl_cons]
    have h1 := Dia.over_len l m (Dia.ostep l o q)
    have h2 : (Dia.ostep l o q).length ≤ o.length + 1 := by
      unfold Dia.ostep
      split
      · rw [Dia.rput_len]; omega
      · omega
    simp
    omega

set_option maxRecDepth 100000 in
set_option maxHeartbeats 2000000 in
theorem Tryd.c_rJoin (a b : Option Addr) (l m : List (Int × Int)) (ca cb : Nat) (w : World) (hl : Dia.PairsAt w a l) (hm : Dia.PairsAt w b m) (hn : l.length + m.length ≤ 1000000) :
    Calls Tryd.prog 25 #[.slice a l.length ca, .slice b m.length cb] w fun e w' => Dia.IsOpt (Dia.rjoin l m) w w' e := by
  go_enter Tryd.func25, Tryd.ntmps25
  go_wp2
  go_loop [6] (fun i => ∃ k : Nat, k ≤ m.length ∧ i = .int .i64 k ∧ ∀ q ∈ m.take k, Dia.rfind l q.1 < 0) (fun i => m.length - (intOf i).toNat)
  case atStart => exact ⟨0, Nat.zero_le _, rfl, by simp⟩
  case round =>
    obtain ⟨k, hk, rfl, hne⟩ := hrel
    have HNE := Aid.Hid2.mk hne
    clear hne
    by_cases hlt : k < m.length
    · obtain ⟨b0, off, rfl, h0, h1⟩ := hm.get hlt
      have HT := Aid.Hid2.mk (Dia.take_snoc m k hlt)
      have HF : Aid.Hid2 (0 ≤ Dia.rfind l m[k].1 → Dia.rjoin l m = none) := ⟨fun h => by
        unfold Dia.rjoin
        rw [if_pos]
        exact List.any_eq_true.2 ⟨m[k], List.getElem_mem _, by simpa using h⟩⟩
      have HC := Aid.Hid2.mk (fun c => Tryd.c_rFind a l ca c w hl (by omega))
      generalize m[k] = q at *
      obtain ⟨q1, q2⟩ := q
      simp only at h0 h1 HF
      have HCq := Aid.Hid2.mk (HC.out q1)
      by_cases hq : 0 ≤ Dia.rfind l q1
      · have HF2 := Aid.Hid2.mk (HF.out hq)
        go_wp2_with (go_at_call 15; refine HCq.out.mono ?_; rintro e w1 ⟨rfl, rfl⟩)
        go_ret2
        exact ⟨none, 0, 0, by rw [HF2.out]; rfl, (by rw [HF2.out]; intro l h; cases h), Below.refl _ _⟩
      · have HQ : Aid.Hid2 (Dia.rfind l q1 < 0) := ⟨by omega⟩
        have hq' : Dia.rfind l q1 < 0 := by omega
        clear hq
        go_wp2_with (go_at_call 15; refine HCq.out.mono ?_; rintro e w1 ⟨rfl, rfl⟩)
        go_round
        case rel => exact ⟨k + 1, by omega, by go_num, by
          rw [HT.out]
          intro x hx
          rcases List.mem_append.1 hx with hx | hx
          · exact HNE.out x hx
          · rw [List.mem_singleton.1 hx]; exact HQ.out⟩
        case measure => simp [intOf]; omega
    · have e : m.take k = m := List.take_of_length_le (by omega)
      have hne := HNE.out
      rw [e] at hne
      have HF : Aid.Hid2 (Dia.rjoin l m = some (m.foldl Dia.rput l)) := ⟨by
        unfold Dia.rjoin
        rw [if_neg]
        simp only [List.any_eq_true, decide_eq_true_eq, not_exists, not_and]
        intro x hx
        have := hne x hx
        omega⟩
      clear hne e HNE
      go_wp2
      go_loopw [0, 7] (fun v i wr => ∃ (j : Nat) (aj : Option Addr) (cj : Nat), j ≤ m.length ∧ i = .int .i64 j ∧ v = .slice aj ((m.take j).foldl Dia.rput l).length cj ∧ Dia.PairsAt wr aj ((m.take j).foldl Dia.rput l) ∧ Below w.heap.size w wr)
        (fun _ i _ => m.length - (intOf i).toNat)
      case atStart => exact ⟨0, a, ca, Nat.zero_le _, rfl, rfl, hl, Below.refl _ _⟩
      case round =>
        obtain ⟨j, aj, cj, hj, rfl, rfl, hpj, hb⟩ := hrel
        by_cases hlj : j < m.length
        · obtain ⟨b0, off, rfl, h0, h1⟩ := (hm.below hb).get hlj
          have HS := Aid.Hid2.mk (Dia.fold_snoc Dia.rput l m j hlj)
          have hlen := Dia.puts_len (m.take j) l
          rw [List.length_take] at hlen
          have hlen2 : ((m.take j).foldl Dia.rput l).length ≤ 1000000 := by omega
          clear hlen
          generalize (m.take j).foldl Dia.rput l = S at *
          generalize m[j] = q at *
          obtain ⟨q1, q2⟩ := q
          simp only at h0 h1
          have HC := Aid.Hid2.mk (Tryd.c_rPut aj S cj (q1, q2) wr hpj hlen2)
          go_wp2_with (go_at_call 30; refine HC.out.mono ?_; rintro e w1 ⟨a1, c1, rfl, hp1, hb1⟩)
          go_roundw
          case rel => exact ⟨j + 1, a1, c1, by omega, by go_num, by rw [HS.out], by rw [HS.out]; exact hp1, Aid.bt hb hb1⟩
          case measure => simp [intOf]; omega
        · have e : m.take j = m := List.take_of_length_le (by omega)
          rw [e] at hpj ⊢
          clear e
          generalize hS : m.foldl Dia.rput l = S at *
          have HS := Aid.Hid2.mk hS
          clear hS
          go_wp2
          go_ret2
          exact ⟨aj, S.length, cj, by rw [HF.out]; rfl, (by rw [HF.out]; intro l' h; cases h; exact ⟨rfl, hpj⟩), hb⟩

set_option maxRecDepth 100000 in
set_option maxHeartbeats 2000000 in
theorem Tryd.c_rOver (a b : Option Addr) (l m : List (Int × Int)) (ca cb : Nat) (w : World) (hl : Dia.PairsAt w a l) (hm : Dia.PairsAt w b m) (hn : l.length + m.length ≤ 1000000) :
    Calls Tryd.prog 19 #[.slice a l.length ca, .slice b m.length cb] w fun e w' => Dia.IsRP (Dia.rover l m) w w' e := by
  go_enter Tryd.func19, Tryd.ntmps19
  go_wp2
  go_loopw [5, 6] (fun v i wr => ∃ (j : Nat) (aj : Option Addr) (cj : Nat), j ≤ m.length ∧ i = .int .i64 j ∧ v = .slice aj ((m.take j).foldl (Dia.ostep l) l).length cj ∧ Dia.PairsAt wr aj ((m.take j).foldl (Dia.ostep l) l) ∧ Below w.heap.size w wr)
    (fun _ i _ => m.length - (intOf i).toNat)
  case atStart => exact ⟨0, a, ca, Nat.zero_le _, rfl, rfl, hl, Below.refl _ _⟩
  case round =>
    obtain ⟨j, aj, cj, hj, rfl, rfl, hpj, hb⟩ := hrel
    by_cases hlj : j < m.length
    · obtain ⟨b0, off, rfl, h0, h1⟩ := (hm.below hb).get hlj
      have HS := Aid.Hid2.mk (Dia.fold_snoc (Dia.ostep l) l m j hlj)
      have hlen := Dia.over_len l (m.take j) l
      rw [List.length_take] at hlen
      have hlen2 : ((m.take j).foldl (Dia.ostep l) l).length ≤ 1000000 := by omega
      clear hlen
      generalize (m.take j).foldl (Dia.ostep l) l = S at *
      generalize m[j] = q at *
      obtain ⟨q1, q2⟩ := q
      simp only at h0 h1
      have HF := Aid.Hid2.mk (Tryd.c_rFind a l ca q1 wr (hl.below hb) (by omega))
      have HC := Aid.Hid2.mk (Tryd.c_rPut aj S cj (q1, q2) wr hpj hlen2)
      by_cases hq : Dia.rfind l q1 < 0
      · have HE : Aid.Hid2 ((m.take (j + 1)).foldl (Dia.ostep l) l = Dia.rput S (q1, q2)) := ⟨by rw [HS.out]; unfold Dia.ostep; rw [if_pos hq]⟩
        go_wp2_with (first
          | (go_at_call 15; refine HF.out.mono ?_; rintro e w1 ⟨rfl, rfl⟩)
          | (go_at_call 30; refine HC.out.mono ?_; rintro e w1 ⟨a1, c1, rfl, hp1, hb1⟩))
        go_roundw
        case rel => exact ⟨j + 1, a1, c1, by omega, by go_num, by rw [HE.out], by rw [HE.out]; exact hp1, Aid.bt hb hb1⟩
        case measure => simp [intOf]; omega
      · have HE : Aid.Hid2 ((m.take (j + 1)).foldl (Dia.ostep l) l = S) := ⟨by rw [HS.out]; unfold Dia.ostep; rw [if_neg hq]⟩
        go_wp2_with (first
          | (go_at_call 15; refine HF.out.mono ?_; rintro e w1 ⟨rfl, rfl⟩))
        go_roundw
        case rel => exact ⟨j + 1, aj, cj, by omega, by go_num, by rw [HE.out], by rw [HE.out]; exact hpj, hb⟩
        case measure => simp [intOf]; omega
    · have e : m.take j = m := List.take_of_length_le (by omega)
      rw [e] at hpj ⊢
      clear e
      have HS : Aid.Hid2 (Dia.rover l m = m.foldl (Dia.ostep l) l) := ⟨rfl⟩
      generalize m.foldl (Dia.ostep l) l = S at *
      go_wp2
      go_ret
      exact ⟨aj, cj, by rw [HS.out]; rfl, by rw [HS.out]; exact hpj, hb⟩
end Go.Proofs
