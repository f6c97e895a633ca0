/- walks of run: Reverse -/
import Derived.Test.YtfdkolodpealmaaDoorN8
namespace Go.Proofs
open Go.RowKit

theorem Dia.fold_snoc {α β : Type} (f : β → α → β) (s : β) (l : List α) (k : Nat) (h : k < l.length) : (l.take (k + 1)).foldl f s = f ((l.take k).foldl f s) l[k] := by
  rw [Dia.take_snoc l k h, List.foldl_append]; rfl
theorem Dia.revTo_succ (ls : List (List Dia.Row)) (p : Int) (i : Nat) (h : i < ls.length) : Dia.revTo ls p (i + 1) = ls[i].foldl (Dia.revRow (Dia.hid (ls.take i)) p) (Dia.revTo ls p i) := by
  simp only [Dia.revTo, List.getD_eq_getElem?_getD, List.getElem?_eq_getElem h, Option.getD_some]
theorem Dia.code_in {r : Dia.Row} (ho : r.Ok) {p c : Int} (h : c ∈ r.codes p) : 0 ≤ c ∧ c ≤ 1048576 := by
  rw [Dia.codes_eq r ho, List.mem_filter] at h
  have h1 := (r.mem_cs c).1 h.1
  have := ho.f0
  have := ho.f1
  simp only [Dia.Row.has, Bool.and_eq_true, decide_eq_true_eq] at h1
  omega
theorem Dia.step_false (h : Int → Bool) (b c : Int) : Dia.step h (b, false) c = if h c then (b, false) else (c, true) := by
  unfold Dia.step; cases h c <;> simp
theorem Dia.step_lt (h : Int → Bool) (b c : Int) (hl : c < b) : Dia.step h (b, true) c = if h c then (b, true) else (c, true) := by
  unfold Dia.step; cases h c <;> simp [hl]
theorem Dia.step_ge (h : Int → Bool) (b c : Int) (hl : ¬ c < b) : Dia.step h (b, true) c = (b, true) := by
  unfold Dia.step; simp [hl]

set_option maxRecDepth 100000 in
set_option maxHeartbeats 4000000 in
theorem Tryd.c_Reverse (a : Option Addr) (ls : List (List Dia.Row)) (cap : Nat) (p : Int) (w : World) (hlv : Dia.LevelsAt w a ls) (hok : ∀ rs ∈ ls, ∀ r ∈ rs, r.Ok) (hcap : ls.length ≤ cap) (hn : ls.length ≤ 1000000) (hn2 : ∀ rs ∈ ls, rs.length ≤ 1000000) :
    Calls Tryd.prog 32 #[Dia.tabv a ls.length cap, .int .i32 p] w fun e w' => e = .returned (.tuple #[.int .i64 (Dia.rev ls p).1, .bool (Dia.rev ls p).2]) ∧ Below w.heap.size w w' := by
  unfold Dia.tabv
  go_enter Tryd.func32, Tryd.ntmps32
  go_wp2
  go_loopw [6, 7, 8, 9, 11, 13, 17] (fun best found _ _ _ _ i wr => ∃ k : Nat, k ≤ ls.length ∧ i = .int .i64 k ∧ best = .int .i64 (Dia.revTo ls p k).1 ∧ found = .bool (Dia.revTo ls p k).2 ∧
      Below (w.heap.size + 1) (w.alloc (.cells #[.slice a ls.length cap] 24)) wr)
    (fun _ _ _ _ _ _ i _ => ls.length - (intOf i).toNat)
  case atStart => exact ⟨0, Nat.zero_le _, rfl, rfl, rfl, Below.refl _ _⟩
  case round =>
    obtain ⟨k, hk, rfl, rfl, rfl, hb⟩ := hrel
    obtain ⟨wo, rfl⟩ : ∃ wo : World, wo = wr := ⟨_, rfl⟩
    have hbw : Below w.heap.size w wo := Aid.below_new hb (Nat.le_refl _)
    have hs0 := Aid.new_lt hb
    by_cases hlt : k < ls.length
    · have HSU := Aid.Hid2.mk (Dia.revTo_succ ls p k hlt)
      have HH : Aid.Hid2 (∀ (c : Int) (w1 : World), 0 ≤ c → c ≤ 1048576 → Below w.heap.size w w1 → Calls Tryd.prog 42 #[.agg #[.slice a ls.length cap], .int .i64 k, .int .i64 c] w1 fun e w' => e = .returned (.bool (Dia.hid (ls.take k) c)) ∧ Below w1.heap.size w1 w') :=
        ⟨fun c w1 h0 h1 hb1 => Tryd.c_hidden a ls cap k c w1 (hlv.below hb1) hok (by intro e; rw [e] at hlt; simp at hlt) hcap (by omega) hn hn2 ⟨by omega, by omega⟩⟩
      obtain ⟨b, off, ar, cr, rfl, hcell, hrows⟩ := (hlv.below hbw).get hlt
      have hok2 := Aid.Hid2.mk (hok ls[k] (List.getElem_mem _))
      have hnn := hn2 ls[k] (List.getElem_mem _)
      generalize hQ : Dia.hid (ls.take k) = Q at *
      clear hQ
      generalize ls[k] = rs at *
      generalize Dia.revTo ls p k = S0 at *
      go_wp2
      go_loopw [6, 7, 11, 13, 24] (fun best found _ _ i wr => ∃ j : Nat, j ≤ rs.length ∧ i = .int .i64 j ∧ best = .int .i64 ((rs.take j).foldl (Dia.revRow Q p) S0).1 ∧ found = .bool ((rs.take j).foldl (Dia.revRow Q p) S0).2 ∧ Below wo.heap.size wo wr)
        (fun _ _ _ _ i _ => rs.length - (intOf i).toNat)
      case atStart => exact ⟨0, Nat.zero_le _, rfl, rfl, rfl, Below.refl _ _⟩
      case round =>
        obtain ⟨j, hj, rfl, rfl, rfl, hb2⟩ := hrel
        obtain ⟨wi, rfl⟩ : ∃ wi : World, wi = wr := ⟨_, rfl⟩
        by_cases hlj : j < rs.length
        · have HSJ := Aid.Hid2.mk (Dia.fold_snoc (Dia.revRow Q p) S0 rs j hlj)
          obtain ⟨b2, off2, rfl, al, cl, h0, h1, h2, h3, h4⟩ := (hrows.below hb2).get hlj
          have hR := hok2.out rs[j] (List.getElem_mem _)
          generalize rs[j] = r at *
          have HCI := Aid.Hid2.mk (fun c (h : c ∈ r.codes p) => Dia.code_in hR h)
          have HC : Aid.Hid2 (∀ w, Aid.RowAt w al (r.list.map Dia.rv) → Calls Tryd.prog 51 #[.agg #[.int .i64 r.from', .int .i32 r.to, .int .i64 r.count, .slice al r.list.length cl], .int .i32 p] w fun e w' => Dia.IsInts (r.codes p) w w' e) :=
            ⟨fun w hr => Tryd.c_codes r al cl p w ⟨hR.f0, by have := hR.f1; have := hR.c0; omega⟩ (fun h => ⟨hR.t0 h, hR.t1 h⟩) ⟨hR.c0, by have := hR.f1; have := hR.f0; omega⟩ (by
              by_cases h : r.list = []
              · rw [h]; simp
              · have := hR.l h; have := hR.f1; have := hR.f0; omega) hr⟩
          have hcl : (r.codes p).length ≤ 1048576 := by
            rw [Dia.codes_eq r hR]
            have h5 := List.length_filter_le (fun c => r.at c == p) r.cs
            have h6 : r.cs.length = r.count.toNat := by simp [Dia.Row.cs]
            have := hR.f1; have := hR.f0
            omega
          have HRW : Aid.Hid2 (∀ s, Dia.revRow Q p s r = (r.codes p).foldl (Dia.step Q) s) := ⟨fun s => rfl⟩
          generalize r.codes p = C at *
          obtain ⟨f, t, c, L⟩ := r
          simp only at h0 h1 h2 h3 h4 HC
          clear hR
          generalize (rs.take j).foldl (Dia.revRow Q p) S0 = S1 at *
          go_wp2_with (go_at_call 51; refine (HC.out _ (h4.below (Aid.b1 _ _))).mono ?_; rintro e w3 ⟨aa, ccap, rfl, hints, hb3⟩)
          have hb3' : Below wi.heap.size wi w3 := Aid.below_new (hb3.mono (by simp)) (Nat.le_refl _)
          go_loopw [6, 7, 13, 32] (fun best found _ i wr => ∃ m : Nat, m ≤ C.length ∧ i = .int .i64 m ∧ best = .int .i64 ((C.take m).foldl (Dia.step Q) S1).1 ∧ found = .bool ((C.take m).foldl (Dia.step Q) S1).2 ∧ Below w3.heap.size w3 wr)
            (fun _ _ _ i _ => C.length - (intOf i).toNat)
          case atStart => exact ⟨0, Nat.zero_le _, rfl, rfl, rfl, Below.refl _ _⟩
          case round =>
            obtain ⟨m, hm, rfl, rfl, rfl, hb4⟩ := hrel
            have hball : Below w.heap.size w wr := Aid.bt (Aid.bt (Aid.bt hbw hb2) hb3') hb4
            have htab := (Aid.one (Aid.blkB (hb.trans ((Aid.bt (Aid.bt hb2 hb3') hb4).mono hs0)) (heap_alloc_new w _) (by omega))).1
            by_cases hlm : m < C.length
            · have HSM := Aid.Hid2.mk (Dia.fold_snoc (Dia.step Q) S1 C m hlm)
              obtain ⟨b5, off5, rfl, hcc⟩ := (hints.below hb4).get (k := m) (by simpa using hlm)
              simp only [List.getElem_map, Dia.nv'] at hcc
              obtain ⟨hc0, hc1⟩ := HCI.out C[m] (List.getElem_mem _)
              generalize C[m] = code at *
              have HHm := Aid.Hid2.mk (HH.out code)
              generalize (C.take m).foldl (Dia.step Q) S1 = S at *
              obtain ⟨bst, fnd⟩ := S
              simp only at *
              cases hq : Q code with
              | true =>
                rw [hq] at HHm
                cases fnd with
                | false =>
                  have HE : Aid.Hid2 ((C.take (m + 1)).foldl (Dia.step Q) S1 = (bst, false)) := ⟨by rw [HSM.out, Dia.step_false, hq]; rfl⟩
                  clear hq HSM
                  go_wp2_with (go_at_call 42; refine (HHm.out _ hc0 hc1 hball).mono ?_; rintro e w5 ⟨rfl, hb5⟩)
                  go_roundw
                  case rel => exact ⟨m + 1, by omega, by go_num, by rw [HE.out], by rw [HE.out], Aid.bt hb4 hb5⟩
                  case measure => simp [intOf]; omega
                | true =>
                  by_cases hl : code < bst
                  · have HE : Aid.Hid2 ((C.take (m + 1)).foldl (Dia.step Q) S1 = (bst, true)) := ⟨by rw [HSM.out, Dia.step_lt Q _ _ hl, hq]; rfl⟩
                    clear hq HSM
                    go_wp2_with (go_at_call 42; refine (HHm.out _ hc0 hc1 hball).mono ?_; rintro e w5 ⟨rfl, hb5⟩)
                    go_roundw
                    case rel => exact ⟨m + 1, by omega, by go_num, by rw [HE.out], by rw [HE.out], Aid.bt hb4 hb5⟩
                    case measure => simp [intOf]; omega
                  · have HE : Aid.Hid2 ((C.take (m + 1)).foldl (Dia.step Q) S1 = (bst, true)) := ⟨by rw [HSM.out, Dia.step_ge Q _ _ hl]⟩
                    clear hq HSM
                    go_wp2
                    go_roundw
                    case rel => exact ⟨m + 1, by omega, by go_num, by rw [HE.out], by rw [HE.out], hb4⟩
                    case measure => simp [intOf]; omega
              | false =>
                rw [hq] at HHm
                cases fnd with
                | false =>
                  have HE : Aid.Hid2 ((C.take (m + 1)).foldl (Dia.step Q) S1 = (code, true)) := ⟨by rw [HSM.out, Dia.step_false, hq]; rfl⟩
                  clear hq HSM
                  go_wp2_with (go_at_call 42; refine (HHm.out _ hc0 hc1 hball).mono ?_; rintro e w5 ⟨rfl, hb5⟩)
                  go_roundw
                  case rel => exact ⟨m + 1, by omega, by go_num, by rw [HE.out], by rw [HE.out], Aid.bt hb4 hb5⟩
                  case measure => simp [intOf]; omega
                | true =>
                  by_cases hl : code < bst
                  · have HE : Aid.Hid2 ((C.take (m + 1)).foldl (Dia.step Q) S1 = (code, true)) := ⟨by rw [HSM.out, Dia.step_lt Q _ _ hl, hq]; rfl⟩
                    clear hq HSM
                    go_wp2_with (go_at_call 42; refine (HHm.out _ hc0 hc1 hball).mono ?_; rintro e w5 ⟨rfl, hb5⟩)
                    go_roundw
                    case rel => exact ⟨m + 1, by omega, by go_num, by rw [HE.out], by rw [HE.out], Aid.bt hb4 hb5⟩
                    case measure => simp [intOf]; omega
                  · have HE : Aid.Hid2 ((C.take (m + 1)).foldl (Dia.step Q) S1 = (bst, true)) := ⟨by rw [HSM.out, Dia.step_ge Q _ _ hl]⟩
                    clear hq HSM
                    go_wp2
                    go_roundw
                    case rel => exact ⟨m + 1, by omega, by go_num, by rw [HE.out], by rw [HE.out], hb4⟩
                    case measure => simp [intOf]; omega
            · have HE : Aid.Hid2 ((rs.take (j + 1)).foldl (Dia.revRow Q p) S0 = (C.take m).foldl (Dia.step Q) S1) := ⟨by
                rw [HSJ.out, HRW.out, List.take_of_length_le (by omega : C.length ≤ m)]⟩
              go_wp2
              go_roundw
              case rel => exact ⟨j + 1, by omega, by go_num, by rw [HE.out], by rw [HE.out], Aid.bt (Aid.bt hb2 hb3') hb4⟩
              case measure => simp [intOf]; omega
        · have HE : Aid.Hid2 (Dia.revTo ls p (k + 1) = (rs.take j).foldl (Dia.revRow Q p) S0) := ⟨by
            rw [HSU.out, List.take_of_length_le (by omega : rs.length ≤ j)]⟩
          go_wp2
          go_roundw
          case rel => exact ⟨k + 1, by omega, by go_num, by rw [HE.out], by rw [HE.out], hb.trans (hb2.mono hs0)⟩
          case measure => simp [intOf]; omega
    · obtain rfl : k = ls.length := by omega
      go_wp2
      go_ret2
      exact ⟨rfl, hbw⟩
end Go.Proofs
