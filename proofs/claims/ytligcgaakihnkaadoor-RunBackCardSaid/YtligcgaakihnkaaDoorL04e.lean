/- the law RunBack, walked -/
import Derived.Test.YtligcgaakihnkaaDoorL04d
namespace Go.Proofs
open Go.RowKit

theorem Dia.fwdl_at {l : List (Int × Int)} (h : Dia.Rise l) {q : Int × Int} (hq : q ∈ l) : Dia.fwdl l q.1 = (q.2, true) := by
  unfold Dia.fwdl
  rw [Dia.rise_find h hq]
/-- each code's sign leads back -/
theorem Dia.back_law {l : List (Int × Int)} (h : Dia.Rise l) {q : Int × Int} (hq : q ∈ l) : ∃ c : Int, Dia.revl l q.2 = (c, true) ∧ c ≤ q.1 ∧ Dia.fwdl l c = (q.2, true) ∧ (∃ r ∈ l, r.1 = c) := by
  cases hf : l.find? (fun x => x.2 == q.2) with
  | none =>
    rw [List.find?_eq_none] at hf
    exact absurd (by simp) (hf q hq)
  | some r =>
    have hr := List.mem_of_find?_eq_some hf
    have hr2 : r.2 = q.2 := by simpa using List.find?_some hf
    refine ⟨r.1, by unfold Dia.revl; rw [hf], ?_, by rw [Dia.fwdl_at h hr, hr2], r, hr, rfl⟩
    obtain ⟨_, us, vs, e, hn⟩ := List.find?_eq_some_iff_append.1 hf
    subst e
    rcases List.mem_append.1 hq with h1 | h1
    · have := hn q h1
      simp at this
    · rcases List.mem_cons.1 h1 with h1 | h1
      · rw [h1]; exact Int.le_refl _
      · have h2 := (List.pairwise_append.1 h).2.1
        have := (List.pairwise_cons.1 h2).1 q h1
        omega
theorem Dia.rise_step {l : List (Int × Int)} (h : Dia.Rise l) {k : Nat} (hk : k < l.length) {last : Int} (hl : (k = 0 ∧ last = -1) ∨ ∃ j, ∃ hj : j < l.length, k = j + 1 ∧ last = l[j].1) (hp : ∀ q ∈ l, 0 ≤ q.1 ∧ q.1 ≤ 1048576) : last < l[k].1 := by
  rcases hl with ⟨_, rfl⟩ | ⟨j, hj, rfl, rfl⟩
  · have := hp _ (List.getElem_mem hk); omega
  · exact List.pairwise_iff_getElem.1 h j (j + 1) hj hk (by omega)

set_option maxRecDepth 100000 in
set_option maxHeartbeats 4000000 in
theorem Tryd.w_RunBack (a : Option Addr) (ps : List Dia.Piece) (cap : Nat) (w : World) (hT : Tryd.Tabs w) (hps : Dia.PiecesAt w a ps) (hbig : ∀ p ∈ ps, p.Big) (hmax : ps.length ≤ 9223372036854775807) :
    Calls Tryd.prog 6 #[.slice a ps.length cap] w fun e w' => e = .returned (.bool true) ∧ Below w.heap.size w w' := by
  have HL := Aid.Hid2.mk (Tryd.c_Light a ps cap w hps hbig hmax)
  cases hl : Dia.light ps with
  | false =>
    rw [hl] at HL
    clear hl
    go_enter Tryd.func6, Tryd.ntmps6
    go_wp2_with fail
    refine HL.out.mono ?_
    rintro e w1 ⟨rfl, hb1⟩
    go_wp2_with fail
    refine (Tryd.c_awake04 _ (hT.below hb1)).mono ?_
    rintro e w2 ⟨rfl, hb2⟩
    go_wp2
    go_ret
    exact ⟨rfl, Aid.bt hb1 hb2⟩
  | true =>
    rw [hl] at HL
    obtain ⟨h12, hin, hg⟩ := Dia.light_in hbig hl
    have htab := Dia.tab_made hg h12
    have HPOS := Aid.Hid2.mk htab.pos
    have HRISE := Aid.Hid2.mk htab.tab.1
    have hll := htab.len
    clear hl hbig htab
    have HN : Aid.Hid2 (∀ w1, Below w.heap.size w w1 → Calls Tryd.prog 18 #[.slice a ps.length cap] w1 fun e w' => Dia.IsT (Dia.lv (Dia.newL [] 0 ps)) (Dia.madeL [] 0 ps).1 w1 w' e) := ⟨fun w1 hb => Tryd.c_table a ps cap w1 (hps.below hb) hin hg h12 (hT.below hb)⟩
    clear hin hg h12
    generalize (Dia.madeL [] 0 ps).1 = l at *
    generalize Dia.lv (Dia.newL [] 0 ps) = ls at *
    go_enter Tryd.func6, Tryd.ntmps6
    go_wp2_with fail
    refine HL.out.mono ?_
    rintro e w1 ⟨rfl, hb1⟩
    go_wp2_with fail
    refine (HN.out _ hb1).mono ?_
    rintro e w2 ⟨x, c, rfl, ht, hb2⟩
    have hB2 := Aid.bt hb1 hb2
    have ht2 := ht.below (Aid.b1 w2 (.cells #[.slice x ls.length c] 27))
    go_wp2_with fail
    refine (Tryd.t_Pairs _ ht2).mono ?_
    rintro e w3 ⟨va, vc, rfl, hown, hb3⟩
    have hB3 : Below w.heap.size w w3 := Aid.bt (Aid.bt hB2 (Aid.b1 _ _)) hb3
    have k3 := Aid.blk hb3 (heap_alloc_new w2 _)
    have ht3 := ht2.below hb3
    have hpr := Dia.pairsAt_own hown
    clear ht ht2 hb3
    go_wp2
    go_loopw [4, 6, 7, 8, 9, 10, 11, 12, 22] (fun last _ _ _ _ _ _ _ i wr => ∃ (k : Nat) (lst : Int), k ≤ l.length ∧ i = .int .i64 k ∧ last = .int .i64 lst ∧ ((k = 0 ∧ lst = -1) ∨ ∃ j, ∃ hj : j < l.length, k = j + 1 ∧ lst = l[j].1) ∧ Below w3.heap.size w3 wr)
      (fun _ _ _ _ _ _ _ _ i _ => l.length - (intOf i).toNat)
    case atStart => exact ⟨0, -1, Nat.zero_le _, rfl, rfl, .inl ⟨rfl, rfl⟩, Below.refl _ _⟩
    case round =>
      obtain ⟨k, lst, hk, rfl, rfl, hlst, hb⟩ := hrel
      have hbs := hb.size
      by_cases hlt : k < l.length
      · have hstep := Dia.rise_step HRISE.out hlt hlst HPOS.out
        obtain ⟨b, off, rfl, x0, x1⟩ := (hpr.below hb).get hlt
        obtain ⟨hq0, hq1⟩ := HPOS.out l[k] (List.getElem_mem _)
        obtain ⟨cc, hr, hle, hf, r, hrm, hrc⟩ := Dia.back_law HRISE.out (List.getElem_mem hlt)
        have hr0 := HPOS.out r hrm
        rw [hrc] at hr0
        obtain ⟨hc0, hc1⟩ := hr0
        have HF0 := Aid.Hid2.mk (Dia.fwdl_at HRISE.out (List.getElem_mem hlt))
        have HR := Aid.Hid2.mk hr
        have HF := Aid.Hid2.mk hf
        have HK : Aid.Hid2 (∃ j, ∃ hj : j < l.length, k + 1 = j + 1 ∧ l[k].1 = l[j].1) := ⟨k, hlt, rfl, rfl⟩
        have hsg : Aid.Hid2 (wr.cell? ⟨b, off + k * 2 + 1, none⟩ = some (.int .i32 l[k].2)) := ⟨x1⟩
        have k3r := Aid.blk hb k3
        have ht3r := ht3.below hb
        have k3a := Aid.blk_alloc (o' := .cells #[.int .i64 l[k].1, .int .i32 l[k].2] 53) k3r
        have k6a := heap_alloc_new wr (.cells #[.int .i64 l[k].1, .int .i32 l[k].2] 53)
        have ht3a := ht3r.below (Aid.b1 wr (.cells #[.int .i64 l[k].1, .int .i32 l[k].2] 53))
        clear hr hf hrm hrc hlst k3r ht3r hsg
        generalize l[k] = q at *
        obtain ⟨q1, q2⟩ := q
        simp only at x0 x1 hstep hq0 hq1 hle HF0 HR HF k3a k6a ht3a
        obtain ⟨t0, _⟩ := Aid.one k3a
        go_wp2_with fail
        refine (Tryd.t_Forward q1 _ ht3a ⟨by omega, by omega⟩).mono ?_
        rw [HF0.out]
        rintro e w5 ⟨rfl, hb5⟩
        obtain ⟨t5, _⟩ := Aid.one (Aid.blk hb5 k3a)
        obtain ⟨p5, s5, _, _⟩ := Aid.two (Aid.blk hb5 k6a)
        go_wp2_with fail
        refine (Tryd.t_Reverse' q2 _ (ht3a.below hb5)).mono ?_
        rw [HR.out]
        rintro e w6 ⟨rfl, hb6⟩
        have h6 := Aid.bt hb5 hb6
        obtain ⟨t6, _⟩ := Aid.one (Aid.blk h6 k3a)
        go_wp2_with fail
        refine (Tryd.t_Forward cc _ (ht3a.below h6) ⟨by omega, by omega⟩).mono ?_
        rw [HF.out]
        rintro e w7 ⟨rfl, hb7⟩
        have h7 := Aid.bt h6 hb7
        obtain ⟨p7, s7, _, _⟩ := Aid.two (Aid.blk h7 k6a)
        have hb7' : Below w3.heap.size w3 w7 := Aid.bt (Aid.bt hb (Aid.b1 _ _)) h7
        go_wp2
        go_roundw
        case rel => exact ⟨k + 1, q1, by omega, by go_num, rfl, .inr HK.out, hb7'⟩
        case measure => simp [intOf]; omega
      · go_wp2_with fail
        refine (Tryd.c_awake04 _ (hT.below (Aid.bt hB3 hb))).mono ?_
        rintro e w9 ⟨rfl, hb9⟩
        go_wp2
        go_ret
        exact ⟨rfl, Aid.bt (Aid.bt hB3 hb) hb9⟩
end Go.Proofs
