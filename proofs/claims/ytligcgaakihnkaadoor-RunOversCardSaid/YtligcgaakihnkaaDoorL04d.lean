/- the law RunLooks, walked -/
import Derived.Test.YtligcgaakihnkaaDoorL04c
namespace Go.Proofs
open Go.RowKit

theorem Dia.Tab.pos {ls : List (List Dia.Row)} {l : List (Int × Int)} (h : Dia.Tab ls l) : ∀ q ∈ l, 0 ≤ q.1 ∧ q.1 ≤ 1048576 := by
  intro q hq
  have h1 := h.tab.2.mem_iff.1 hq
  have h2 := (Dia.hid_prs ls q.1).2 ⟨q, h1, rfl⟩
  simp only [Dia.hid, List.any_eq_true] at h2
  obtain ⟨rs, h3, r, h4, h5⟩ := h2
  have ho := h.wf.ok rs h3 r h4
  have := ho.f0
  have := ho.f1
  simp only [Dia.Row.has, Bool.and_eq_true, decide_eq_true_eq] at h5
  omega
/-- what is found at a code -/
theorem Dia.find_cases (l : List (Int × Int)) (c : Int) : (∃ (i : Nat) (hi : i < l.length), Dia.fwdl l c = (l[i].2, true) ∧ Dia.rfind l c = i ∧ l[i].1 = c) ∨ (Dia.fwdl l c = (0, false) ∧ Dia.rfind l c = -1) := by
  unfold Dia.fwdl
  cases h : l.find? (fun q => q.1 == c) with
  | none => exact .inr ⟨rfl, Dia.rfind_none h⟩
  | some q =>
    obtain ⟨i, h1, hi, h2⟩ := Dia.rfind_get h
    refine .inl ⟨i, hi, by rw [h2], h1, by rw [h2]; exact (Dia.find_some h).2⟩
theorem Dia.rev_cases {l : List (Int × Int)} (hp : ∀ q ∈ l, 0 ≤ q.1 ∧ q.1 ≤ 1048576) (p : Int) : (∃ k : Int, 0 ≤ k ∧ k ≤ 1048576 ∧ Dia.revl l p = (k, true) ∧ Dia.rrev l p = k) ∨ (Dia.revl l p = (0, false) ∧ Dia.rrev l p = -1) := by
  unfold Dia.revl Dia.rrev
  cases h : l.find? (fun q => q.2 == p) with
  | none => exact .inr ⟨rfl, rfl⟩
  | some q =>
    have := hp q (List.mem_of_find?_eq_some h)
    exact .inl ⟨q.1, this.1, this.2, rfl, rfl⟩

set_option maxRecDepth 100000 in
set_option maxHeartbeats 4000000 in
theorem Tryd.w_RunLooks (a : Option Addr) (ps : List Dia.Piece) (cap : Nat) (code p : Int) (w : World) (hT : Tryd.Tabs w) (hps : Dia.PiecesAt w a ps) (hbig : ∀ p ∈ ps, p.Big) (hmax : ps.length ≤ 9223372036854775807)
    (hcode : -9223372036854775808 ≤ code ∧ code ≤ 9223372036854775807) (hp : -2147483648 ≤ p ∧ p ≤ 2147483647) :
    Calls Tryd.prog 4 #[.slice a ps.length cap, .int .i64 code, .int .i32 p] w fun e w' => e = .returned (.bool true) ∧ Below w.heap.size w w' := by
  have HL := Aid.Hid2.mk (Tryd.c_Light a ps cap w hps hbig hmax)
  cases hl : Dia.light ps with
  | false =>
    rw [hl] at HL
    clear hl
    go_enter Tryd.func4, Tryd.ntmps4
    go_wp2_with fail
    refine HL.out.mono ?_
    rintro e w1 ⟨rfl, hb1⟩
    go_wp2_with fail
    refine (Tryd.c_awake04 _ (hT.below hb1)).mono ?_
    rintro e w2 ⟨rfl, hb2⟩
    go_wp2
    go_ret
    exact ⟨rfl, Aid.bt hb1 hb2⟩
  | true =>
    rw [hl] at HL
    obtain ⟨h12, hin, hg⟩ := Dia.light_in hbig hl
    have hpos := (Dia.tab_made hg h12).pos
    clear hl hbig
    have HN : Aid.Hid2 (∀ w1, Below w.heap.size w w1 → Calls Tryd.prog 9 #[.slice a ps.length cap] w1 fun e w' => Dia.IsN ps w1 w' e) := ⟨fun w1 hb => Tryd.t_New a ps cap w1 (hps.below hb) hin hg h12 (hT.below hb)⟩
    have HM : Aid.Hid2 (∀ w1, Below w.heap.size w w1 → Calls Tryd.prog 10 #[.slice a ps.length cap] w1 fun e w' => Dia.IsMade (Dia.madeL [] 0 ps) w1 w' e) := ⟨fun w1 hb => Tryd.c_made a ps cap w1 (hps.below hb) hin hg h12⟩
    unfold Dia.IsN at HN
    clear hin hg h12
    generalize Dia.madeL [] 0 ps = M at *
    generalize Dia.lv (Dia.newL [] 0 ps) = ls at *
    obtain ⟨l, at'⟩ := M
    simp only at HN HM hpos
    by_cases hat : 0 ≤ at'
    · clear hpos
      go_enter Tryd.func4, Tryd.ntmps4
      go_wp2_with fail
      refine HL.out.mono ?_
      rintro e w1 ⟨rfl, hb1⟩
      go_wp2_with fail
      refine (HN.out _ hb1).mono ?_
      rintro e w2 ⟨x, c, A, B, rfl, ht, h1, h2, hb2⟩
      obtain ⟨rfl, rfl⟩ := h2 hat
      clear h1 h2
      have hB2 := Aid.bt hb1 hb2
      have hB2d : Below w.heap.size w ((w2.alloc (.cells #[.slice x ls.length c] 27)).alloc (.cells #[.int .i64 5, .int .i64 B] 30)) := Aid.bt hB2 (Aid.b2 _ _ _)
      go_wp2_with fail
      refine (HM.out _ hB2d).mono ?_
      rintro e w3 ⟨y, cy, rfl, hm, hb3⟩
      simp only
      have hB3 := Aid.bt hB2d hb3
      have k4 := Aid.blk hb3 (Aid.heap2 _ _ _).2
      clear hb3 ht
      go_wp2_with fail
      refine (Tryd.c_awake04 _ (hT.below hB3)).mono ?_
      rintro e w4 ⟨rfl, hb4⟩
      obtain ⟨p4, q4, _, _⟩ := Aid.two (Aid.blk hb4 k4)
      go_wp2_with fail
      refine (Tryd.c_Bad 5 _ _).mono ?_
      rintro e w5 ⟨rfl, hb5⟩
      go_wp2
      go_ret
      exact ⟨rfl, Aid.bt (Aid.bt hB3 hb4) hb5⟩
    · have hat' : at' < 0 := by omega
      have HFC := Dia.find_cases l code
      have HRC := Dia.rev_cases hpos p
      clear hpos hat
      rcases HFC with ⟨i, hi, f1, f2, _⟩ | ⟨f1, f2⟩
      · have FW := Aid.Hid2.mk f1
        have FI := Aid.Hid2.mk f2
        clear f1 f2
        rcases HRC with ⟨k, k0, k1, r1, r2⟩ | ⟨r1, r2⟩
        · have RV := Aid.Hid2.mk r1
          have RR := Aid.Hid2.mk r2
          clear r1 r2
          go_enter Tryd.func4, Tryd.ntmps4
          go_wp2_with fail
          refine HL.out.mono ?_
          rintro e w1 ⟨rfl, hb1⟩
          go_wp2_with fail
          refine (HN.out _ hb1).mono ?_
          rintro e w2 ⟨x, c, A, B, rfl, ht, h1, h2, hb2⟩
          obtain ⟨rfl, rfl⟩ := h1 hat'
          clear h1 h2
          have hB2 := Aid.bt hb1 hb2
          have hB2d : Below w.heap.size w ((w2.alloc (.cells #[.slice x ls.length c] 27)).alloc (.cells #[.int .i64 0, .int .i64 0] 30)) := Aid.bt hB2 (Aid.b2 _ _ _)
          go_wp2_with fail
          refine (HM.out _ hB2d).mono ?_
          rintro e w3 ⟨y, cy, rfl, hm, hb3⟩
          simp only
          have hB3 := Aid.bt hB2d hb3
          have k3 := Aid.blk hb3 (Aid.heap2 _ _ _).1
          have ht3 := (ht.below (Aid.b2 _ _ _)).below hb3
          have hll := ht3.tab.len
          obtain ⟨p3, _⟩ := Aid.one k3
          clear hb3 ht
          go_wp2_with fail
          refine (Tryd.t_Forward code _ ht3 hcode).mono ?_
          rw [FW.out]
          rintro e w4 ⟨rfl, hb4⟩
          obtain ⟨yb, yo, rfl, y0, y1⟩ := (hm.below hb4).get hi
          have FX := Aid.Hid2.mk (rfl : l[i].2 = l[i].2)
          generalize l[i] = q at *
          obtain ⟨q1, q2⟩ := q
          simp only at y0 y1 ⊢
          have hi' : (i : Int) < (l.length : Int) := by omega
          go_wp2_with fail
          refine (Tryd.c_rFind (some ⟨yb, yo, none⟩) l cy code _ (hm.below hb4) (by omega)).mono ?_
          rw [FI.out]
          rintro e w5 ⟨rfl, rfl⟩
          obtain ⟨p5, _⟩ := Aid.one (Aid.blk hb4 k3)
          go_wp2_with fail
          refine (Tryd.t_Reverse p _ (ht3.below hb4) hp).mono ?_
          rw [RV.out]
          rintro e w6 ⟨rfl, hb6⟩
          have hB6 := Aid.bt hb4 hb6
          go_wp2_with fail
          refine (Tryd.c_rReverse (some ⟨yb, yo, none⟩) l cy p _ (hm.below hB6) (by omega)).mono ?_
          rw [RR.out]
          rintro e w7 ⟨rfl, rfl⟩
          go_wp2_with fail
          refine (Tryd.c_awake04 _ (hT.below (Aid.bt hB3 hB6))).mono ?_
          rintro e w8 ⟨rfl, hb8⟩
          go_wp2
          go_ret
          exact ⟨rfl, Aid.bt (Aid.bt hB3 hB6) hb8⟩
        · have RV := Aid.Hid2.mk r1
          have RR := Aid.Hid2.mk r2
          clear r1 r2
          go_enter Tryd.func4, Tryd.ntmps4
          go_wp2_with fail
          refine HL.out.mono ?_
          rintro e w1 ⟨rfl, hb1⟩
          go_wp2_with fail
          refine (HN.out _ hb1).mono ?_
          rintro e w2 ⟨x, c, A, B, rfl, ht, h1, h2, hb2⟩
          obtain ⟨rfl, rfl⟩ := h1 hat'
          clear h1 h2
          have hB2 := Aid.bt hb1 hb2
          have hB2d : Below w.heap.size w ((w2.alloc (.cells #[.slice x ls.length c] 27)).alloc (.cells #[.int .i64 0, .int .i64 0] 30)) := Aid.bt hB2 (Aid.b2 _ _ _)
          go_wp2_with fail
          refine (HM.out _ hB2d).mono ?_
          rintro e w3 ⟨y, cy, rfl, hm, hb3⟩
          simp only
          have hB3 := Aid.bt hB2d hb3
          have k3 := Aid.blk hb3 (Aid.heap2 _ _ _).1
          have ht3 := (ht.below (Aid.b2 _ _ _)).below hb3
          have hll := ht3.tab.len
          obtain ⟨p3, _⟩ := Aid.one k3
          clear hb3 ht
          go_wp2_with fail
          refine (Tryd.t_Forward code _ ht3 hcode).mono ?_
          rw [FW.out]
          rintro e w4 ⟨rfl, hb4⟩
          obtain ⟨yb, yo, rfl, y0, y1⟩ := (hm.below hb4).get hi
          have FX := Aid.Hid2.mk (rfl : l[i].2 = l[i].2)
          generalize l[i] = q at *
          obtain ⟨q1, q2⟩ := q
          simp only at y0 y1 ⊢
          have hi' : (i : Int) < (l.length : Int) := by omega
          go_wp2_with fail
          refine (Tryd.c_rFind (some ⟨yb, yo, none⟩) l cy code _ (hm.below hb4) (by omega)).mono ?_
          rw [FI.out]
          rintro e w5 ⟨rfl, rfl⟩
          obtain ⟨p5, _⟩ := Aid.one (Aid.blk hb4 k3)
          go_wp2_with fail
          refine (Tryd.t_Reverse p _ (ht3.below hb4) hp).mono ?_
          rw [RV.out]
          rintro e w6 ⟨rfl, hb6⟩
          have hB6 := Aid.bt hb4 hb6
          go_wp2_with fail
          refine (Tryd.c_rReverse (some ⟨yb, yo, none⟩) l cy p _ (hm.below hB6) (by omega)).mono ?_
          rw [RR.out]
          rintro e w7 ⟨rfl, rfl⟩
          go_wp2_with fail
          refine (Tryd.c_awake04 _ (hT.below (Aid.bt hB3 hB6))).mono ?_
          rintro e w8 ⟨rfl, hb8⟩
          go_wp2
          go_ret
          exact ⟨rfl, Aid.bt (Aid.bt hB3 hB6) hb8⟩
      · have FW := Aid.Hid2.mk f1
        have FI := Aid.Hid2.mk f2
        clear f1 f2
        rcases HRC with ⟨k, k0, k1, r1, r2⟩ | ⟨r1, r2⟩
        · have RV := Aid.Hid2.mk r1
          have RR := Aid.Hid2.mk r2
          clear r1 r2
          go_enter Tryd.func4, Tryd.ntmps4
          go_wp2_with fail
          refine HL.out.mono ?_
          rintro e w1 ⟨rfl, hb1⟩
          go_wp2_with fail
          refine (HN.out _ hb1).mono ?_
          rintro e w2 ⟨x, c, A, B, rfl, ht, h1, h2, hb2⟩
          obtain ⟨rfl, rfl⟩ := h1 hat'
          clear h1 h2
          have hB2 := Aid.bt hb1 hb2
          have hB2d : Below w.heap.size w ((w2.alloc (.cells #[.slice x ls.length c] 27)).alloc (.cells #[.int .i64 0, .int .i64 0] 30)) := Aid.bt hB2 (Aid.b2 _ _ _)
          go_wp2_with fail
          refine (HM.out _ hB2d).mono ?_
          rintro e w3 ⟨y, cy, rfl, hm, hb3⟩
          simp only
          have hB3 := Aid.bt hB2d hb3
          have k3 := Aid.blk hb3 (Aid.heap2 _ _ _).1
          have ht3 := (ht.below (Aid.b2 _ _ _)).below hb3
          have hll := ht3.tab.len
          obtain ⟨p3, _⟩ := Aid.one k3
          clear hb3 ht
          go_wp2_with fail
          refine (Tryd.t_Forward code _ ht3 hcode).mono ?_
          rw [FW.out]
          rintro e w4 ⟨rfl, hb4⟩
          go_wp2_with fail
          refine (Tryd.c_rFind y l cy code _ (hm.below hb4) (by omega)).mono ?_
          rw [FI.out]
          rintro e w5 ⟨rfl, rfl⟩
          obtain ⟨p5, _⟩ := Aid.one (Aid.blk hb4 k3)
          go_wp2_with fail
          refine (Tryd.t_Reverse p _ (ht3.below hb4) hp).mono ?_
          rw [RV.out]
          rintro e w6 ⟨rfl, hb6⟩
          have hB6 := Aid.bt hb4 hb6
          go_wp2_with fail
          refine (Tryd.c_rReverse y l cy p _ (hm.below hB6) (by omega)).mono ?_
          rw [RR.out]
          rintro e w7 ⟨rfl, rfl⟩
          go_wp2_with fail
          refine (Tryd.c_awake04 _ (hT.below (Aid.bt hB3 hB6))).mono ?_
          rintro e w8 ⟨rfl, hb8⟩
          go_wp2
          go_ret
          exact ⟨rfl, Aid.bt (Aid.bt hB3 hB6) hb8⟩
        · have RV := Aid.Hid2.mk r1
          have RR := Aid.Hid2.mk r2
          clear r1 r2
          go_enter Tryd.func4, Tryd.ntmps4
          go_wp2_with fail
          refine HL.out.mono ?_
          rintro e w1 ⟨rfl, hb1⟩
          go_wp2_with fail
          refine (HN.out _ hb1).mono ?_
          rintro e w2 ⟨x, c, A, B, rfl, ht, h1, h2, hb2⟩
          obtain ⟨rfl, rfl⟩ := h1 hat'
          clear h1 h2
          have hB2 := Aid.bt hb1 hb2
          have hB2d : Below w.heap.size w ((w2.alloc (.cells #[.slice x ls.length c] 27)).alloc (.cells #[.int .i64 0, .int .i64 0] 30)) := Aid.bt hB2 (Aid.b2 _ _ _)
          go_wp2_with fail
          refine (HM.out _ hB2d).mono ?_
          rintro e w3 ⟨y, cy, rfl, hm, hb3⟩
          simp only
          have hB3 := Aid.bt hB2d hb3
          have k3 := Aid.blk hb3 (Aid.heap2 _ _ _).1
          have ht3 := (ht.below (Aid.b2 _ _ _)).below hb3
          have hll := ht3.tab.len
          obtain ⟨p3, _⟩ := Aid.one k3
          clear hb3 ht
          go_wp2_with fail
          refine (Tryd.t_Forward code _ ht3 hcode).mono ?_
          rw [FW.out]
          rintro e w4 ⟨rfl, hb4⟩
          go_wp2_with fail
          refine (Tryd.c_rFind y l cy code _ (hm.below hb4) (by omega)).mono ?_
          rw [FI.out]
          rintro e w5 ⟨rfl, rfl⟩
          obtain ⟨p5, _⟩ := Aid.one (Aid.blk hb4 k3)
          go_wp2_with fail
          refine (Tryd.t_Reverse p _ (ht3.below hb4) hp).mono ?_
          rw [RV.out]
          rintro e w6 ⟨rfl, hb6⟩
          have hB6 := Aid.bt hb4 hb6
          go_wp2_with fail
          refine (Tryd.c_rReverse y l cy p _ (hm.below hB6) (by omega)).mono ?_
          rw [RR.out]
          rintro e w7 ⟨rfl, rfl⟩
          go_wp2_with fail
          refine (Tryd.c_awake04 _ (hT.below (Aid.bt hB3 hB6))).mono ?_
          rintro e w8 ⟨rfl, hb8⟩
          go_wp2
          go_ret
          exact ⟨rfl, Aid.bt (Aid.bt hB3 hB6) hb8⟩
end Go.Proofs
