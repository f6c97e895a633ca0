/- the law RunTables, walked -/
import Derived.Test.YtligcgaakihnkaaDoorL04b
namespace Go.Proofs
open Go.RowKit

theorem Dia.madeL_nil : ∀ (ps : List Dia.Piece) (l : List (Int × Int)) (i : Int), 0 ≤ (Dia.madeL l i ps).2 → (Dia.madeL l i ps).1 = []
  | [], l, i, h => by simp [Dia.madeL] at h
  | p :: ps, l, i, h => by
    unfold Dia.madeL at h ⊢
    split
    · rfl
    · rename_i more hm
      rw [hm] at h
      simp only at h
      split
      · rfl
      · rename_i l' hl
        rw [hl] at h
        exact Dia.madeL_nil ps l' _ h

set_option maxRecDepth 100000 in
set_option maxHeartbeats 2000000 in
theorem Tryd.w_RunTables (a : Option Addr) (ps : List Dia.Piece) (cap : Nat) (w : World) (hT : Tryd.Tabs w) (hps : Dia.PiecesAt w a ps) (hbig : ∀ p ∈ ps, p.Big) (hmax : ps.length ≤ 9223372036854775807) :
    Calls Tryd.prog 3 #[.slice a ps.length cap] w fun e w' => e = .returned (.bool true) ∧ Below w.heap.size w w' := by
  have HL := Aid.Hid2.mk (Tryd.c_Light a ps cap w hps hbig hmax)
  cases hl : Dia.light ps with
  | false =>
    rw [hl] at HL
    clear hl
    go_enter Tryd.func3, Tryd.ntmps3
    go_wp2_with fail
    refine HL.out.mono ?_
    rintro e w1 ⟨rfl, hb1⟩
    go_wp2_with fail
    refine (Tryd.c_awake04 _ (hT.below hb1)).mono ?_
    rintro e w2 ⟨rfl, hb2⟩
    go_wp2
    go_ret
    exact ⟨rfl, Aid.bt hb1 hb2⟩
  | true =>
    rw [hl] at HL
    obtain ⟨h12, hin, hg⟩ := Dia.light_in hbig hl
    clear hl hbig
    have HN : Aid.Hid2 (∀ w1, Below w.heap.size w w1 → Calls Tryd.prog 9 #[.slice a ps.length cap] w1 fun e w' => Dia.IsN ps w1 w' e) := ⟨fun w1 hb => Tryd.t_New a ps cap w1 (hps.below hb) hin hg h12 (hT.below hb)⟩
    have HM : Aid.Hid2 (∀ w1, Below w.heap.size w w1 → Calls Tryd.prog 10 #[.slice a ps.length cap] w1 fun e w' => Dia.IsMade (Dia.madeL [] 0 ps) w1 w' e) := ⟨fun w1 hb => Tryd.c_made a ps cap w1 (hps.below hb) hin hg h12⟩
    have hnil := Dia.madeL_nil ps [] 0
    unfold Dia.IsN at HN
    clear hin hg h12
    generalize Dia.madeL [] 0 ps = M at *
    generalize Dia.lv (Dia.newL [] 0 ps) = ls at *
    obtain ⟨l, at'⟩ := M
    simp only at HN HM hnil
    by_cases hat : 0 ≤ at'
    · have hl0 := hnil hat
      subst hl0
      clear hnil
      go_enter Tryd.func3, Tryd.ntmps3
      go_wp2_with fail
      refine HL.out.mono ?_
      rintro e w1 ⟨rfl, hb1⟩
      go_wp2_with fail
      refine (HN.out _ hb1).mono ?_
      rintro e w2 ⟨x, c, A, B, rfl, ht, h1, h2, hb2⟩
      obtain ⟨rfl, rfl⟩ := h2 hat
      clear h1 h2
      have hB2 := Aid.bt hb1 hb2
      have hB2d : Below w.heap.size w ((w2.alloc (.cells #[.slice x ls.length c] 27)).alloc (.cells #[.int .i64 5, .int .i64 B] 30)) := Aid.bt hB2 (Aid.b2 _ _ _)
      go_wp2_with fail
      refine (HM.out _ hB2d).mono ?_
      rintro e w3 ⟨y, cy, rfl, hm, hb3⟩
      simp only
      have hB3 := Aid.bt hB2d hb3
      have k3 := Aid.blk hb3 (Aid.heap2 _ _ _).1
      have k4 := Aid.blk hb3 (Aid.heap2 _ _ _).2
      have ht3 := (ht.below (Aid.b2 _ _ _)).below hb3
      clear hb3 ht
      go_wp2_with fail
      refine (Tryd.c_awake04 _ (hT.below hB3)).mono ?_
      rintro e w4 ⟨rfl, hb4⟩
      obtain ⟨p3, _⟩ := Aid.one (Aid.blk hb4 k3)
      obtain ⟨p4, q4, _, _⟩ := Aid.two (Aid.blk hb4 k4)
      go_wp2_with fail
      refine (Tryd.t_Size _ (ht3.below hb4)).mono ?_
      rintro e w5 ⟨rfl, hb5⟩
      go_wp2
      go_ret
      exact ⟨rfl, Aid.bt (Aid.bt hB3 hb4) hb5⟩
    · have hat' : at' < 0 := by omega
      clear hnil
      go_enter Tryd.func3, Tryd.ntmps3
      go_wp2_with fail
      refine HL.out.mono ?_
      rintro e w1 ⟨rfl, hb1⟩
      go_wp2_with fail
      refine (HN.out _ hb1).mono ?_
      rintro e w2 ⟨x, c, A, B, rfl, ht, h1, h2, hb2⟩
      obtain ⟨rfl, rfl⟩ := h1 hat'
      clear h1 h2
      have hB2 := Aid.bt hb1 hb2
      have hB2d : Below w.heap.size w ((w2.alloc (.cells #[.slice x ls.length c] 27)).alloc (.cells #[.int .i64 0, .int .i64 0] 30)) := Aid.bt hB2 (Aid.b2 _ _ _)
      go_wp2_with fail
      refine (HM.out _ hB2d).mono ?_
      rintro e w3 ⟨y, cy, rfl, hm, hb3⟩
      simp only
      have hB3 := Aid.bt hB2d hb3
      have k3 := Aid.blk hb3 (Aid.heap2 _ _ _).1
      have k4 := Aid.blk hb3 (Aid.heap2 _ _ _).2
      have ht3 := (ht.below (Aid.b2 _ _ _)).below hb3
      have hll := ht3.tab.len
      clear hb3 ht
      go_wp2_with fail
      refine (Tryd.c_awake04 _ (hT.below hB3)).mono ?_
      rintro e w4 ⟨rfl, hb4⟩
      obtain ⟨p4, q4, _, _⟩ := Aid.two (Aid.blk hb4 k4)
      go_wp2_with fail
      refine (Tryd.c_Bad_no _ _).mono ?_
      rintro e w5 ⟨rfl, hb5⟩
      have hB5 := Aid.bt hb4 hb5
      obtain ⟨p3, _⟩ := Aid.one (Aid.blk hB5 k3)
      go_wp2_with fail
      refine (Tryd.c_Is cy _ (ht3.below hB5) (hm.below hB5) hll).mono ?_
      rw [decide_eq_true (rfl : l = l)]
      rintro e w6 ⟨rfl, hb6⟩
      go_wp2
      go_ret
      exact ⟨rfl, Aid.bt (Aid.bt hB3 hB5) hb6⟩
end Go.Proofs
