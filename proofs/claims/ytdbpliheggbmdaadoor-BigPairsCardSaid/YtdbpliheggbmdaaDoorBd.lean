/- walks of big5: Signs -/
import Derived.Test.YtdbpliheggbmdaaDoorBc
namespace Go.Proofs
open Go.RowKit

set_option maxRecDepth 100000 in
set_option maxHeartbeats 2000000 in
theorem Tryd.c_bsigns_yes (l b : Int) (w : World) (hT : Tryd.Tabs w) (hl : 129 ≤ l ∧ l ≤ 254) (hb : 0 ≤ b ∧ b ≤ 255) (h : (Dia.bcell b).2 = true) :
    Calls Tryd.prog 7 #[.int .u8 l, .int .u8 b] w fun e w' => e = .returned (.tuple #[.string ⟨(Dia.bsigns l b).1.toArray⟩, .bool (Dia.bsigns l b).2]) ∧ Below w.heap.size w w' := by
  have HC := Aid.Hid2.mk (Tryd.c_bcell b w hb)
  have hbd := Dia.bcell_bd b
  obtain ⟨l0, l1⟩ := hl
  obtain ⟨b0, b1⟩ := hb
  have ho := Dia.or256 l b (by omega) (by omega) b0 (by omega)
  generalize hD : Dia.bsigns l b = D
  unfold Dia.bsigns at hD
  rw [if_neg (by rintro (h1 | h1 | h1); (rw [h] at h1; exact absurd h1 (by decide)); omega; omega)] at hD
  have hf := Dia.fwdl_sc Dia.bigL_sc ((l - 129) * 157 + (Dia.bcell b).1)
  have HF : Aid.Hid2 (∀ w1 a cap ls, Dia.T w1 a cap ls Dia.bigL → Calls Tryd.prog 19 #[.agg #[.slice a ls.length cap], .int .i64 ((l - 129) * 157 + (Dia.bcell b).1)] w1 fun e w' => e = .returned (.tuple #[.int .i32 (Dia.fwdl Dia.bigL ((l - 129) * 157 + (Dia.bcell b).1)).1, .bool (Dia.fwdl Dia.bigL ((l - 129) * 157 + (Dia.bcell b).1)).2]) ∧ Below w1.heap.size w1 w') :=
    ⟨fun w1 a cap ls ht => Tryd.t_Forward _ w1 ht (by omega)⟩
  have HL : Aid.Hid2 (∀ w1, Calls Tryd.prog 20 #[.int .i64 l] w1 fun e w' => e = .returned (.int .i64 ((l - 129) * 157)) ∧ w1 = w') := ⟨fun w1 => Tryd.c_brow l w1 ⟨by omega, by omega⟩⟩
  generalize l * 256 + b = kk at *
  generalize Dia.bcell b = c at *
  obtain ⟨c, ok⟩ := c
  simp only at h HC HF hbd hD hf
  subst h
  obtain ⟨c0, c1⟩ := hbd
  have HD1 : Aid.Hid2 (∀ p q, Dia.rtwo kk = (p, q) → p ≠ 0 → D = (Dia.enc p ++ Dia.enc q, true)) := ⟨fun p q e hp => by rw [← hD, e]; exact if_pos hp⟩
  have HD2 : Aid.Hid2 (Dia.rtwo kk = (0, 0) → D = if (Dia.fwdl Dia.bigL ((l - 129) * 157 + c)).2 = true then (Dia.enc (Dia.fwdl Dia.bigL ((l - 129) * 157 + c)).1, true) else ([], false)) := ⟨fun e => by rw [← hD, e]; exact if_neg (by decide)⟩
  clear hD
  have e3 : IntKind.i64.wrap ((l - 129) * 157 + c) = (l - 129) * 157 + c := IntWalk.i64_in _ (by omega)
  generalize Dia.fwdl Dia.bigL ((l - 129) * 157 + c) = fw at *
  obtain ⟨p, ok⟩ := fw
  simp only at HF hf HD2
  have i0 : ∀ w, (Instr.index 47 (.agg #[.int .i64 34914, .int .i32 202, .int .i32 772, .int .i64 34916, .int .i32 202, .int .i32 780, .int .i64 34979, .int .i32 234, .int .i32 772, .int .i64 34981, .int .i32 234, .int .i32 780]) (.int .i64 0)).run Tryd.prog w = .ok (.agg #[.int .i64 34914, .int .i32 202, .int .i32 772]) w := fun _ => by kernel_rfl
  have i1 : ∀ w, (Instr.index 47 (.agg #[.int .i64 34914, .int .i32 202, .int .i32 772, .int .i64 34916, .int .i32 202, .int .i32 780, .int .i64 34979, .int .i32 234, .int .i32 772, .int .i64 34981, .int .i32 234, .int .i32 780]) (.int .i64 1)).run Tryd.prog w = .ok (.agg #[.int .i64 34916, .int .i32 202, .int .i32 780]) w := fun _ => by kernel_rfl
  have i2 : ∀ w, (Instr.index 47 (.agg #[.int .i64 34914, .int .i32 202, .int .i32 772, .int .i64 34916, .int .i32 202, .int .i32 780, .int .i64 34979, .int .i32 234, .int .i32 772, .int .i64 34981, .int .i32 234, .int .i32 780]) (.int .i64 2)).run Tryd.prog w = .ok (.agg #[.int .i64 34979, .int .i32 234, .int .i32 772]) w := fun _ => by kernel_rfl
  have i3 : ∀ w, (Instr.index 47 (.agg #[.int .i64 34914, .int .i32 202, .int .i32 772, .int .i64 34916, .int .i32 202, .int .i32 780, .int .i64 34979, .int .i32 234, .int .i32 772, .int .i64 34981, .int .i32 234, .int .i32 780]) (.int .i64 3)).run Tryd.prog w = .ok (.agg #[.int .i64 34981, .int .i32 234, .int .i32 780]) w := fun _ => by kernel_rfl
  have g1 : decide (l < 129) = false := decide_eq_false (by omega)
  have g2 : (l == 255) = false := by simp; omega
  go_enter Tryd.func7, Tryd.ntmps7
  go_wp2_with fail
  refine HC.out.mono ?_
  rintro e w1 ⟨rfl, rfl⟩
  go_wp2_with fail
  refine (Tryd.c_bpairs _).mono ?_
  rintro e w1 ⟨rfl, hb1⟩
  go_wp2_with fail
  go_loopw [9, 27] (fun _ i wr => ∃ k : Int, 0 ≤ k ∧ k ≤ 4 ∧ i = .int .i64 k ∧ Aid.Hid2 (Dia.bpre k kk) ∧ Below w.heap.size w wr)
    (fun _ i _ => 4 - (intOf i).toNat)
  case atStart => exact ⟨0, by omega, by omega, rfl, ⟨Dia.bpre_0 _⟩, hb1⟩
  case round =>
    obtain ⟨k, hk0, hk4, rfl, HP, hb⟩ := hrel
    have h5 : k = 0 ∨ k = 1 ∨ k = 2 ∨ k = 3 ∨ k = 4 := by omega
    rcases h5 with rfl | rfl | rfl | rfl | rfl
    · by_cases hx : kk = 34914
      · subst hx
        go_wp2_with fail
        refine (Tryd.c_Text2 _ _ 202 772 _ ⟨rfl, rfl⟩ (by decide) (by decide)).mono ?_
        rintro e w2 ⟨rfl, hb2⟩
        go_wp2
        go_ret2
        rw [HD1.out 202 772 rfl (by decide)]
        exact ⟨rfl, Aid.bt hb hb2⟩
      · have hx' : ((34914 : Int) == kk) = false := by simp; omega
        have H2 := Aid.Hid2.mk (Dia.bpre_1 HP.out hx)
        clear hx HP
        go_wp2
        go_roundw
        case rel => exact ⟨1, by omega, by omega, rfl, H2, Aid.bt hb (Aid.b1 _ _)⟩
        case measure => simp [intOf]
    · by_cases hx : kk = 34916
      · subst hx
        go_wp2_with fail
        refine (Tryd.c_Text2 _ _ 202 780 _ ⟨rfl, rfl⟩ (by decide) (by decide)).mono ?_
        rintro e w2 ⟨rfl, hb2⟩
        go_wp2
        go_ret2
        rw [HD1.out 202 780 rfl (by decide)]
        exact ⟨rfl, Aid.bt hb hb2⟩
      · have hx' : ((34916 : Int) == kk) = false := by simp; omega
        have H2 := Aid.Hid2.mk (Dia.bpre_2 HP.out hx)
        clear hx HP
        go_wp2
        go_roundw
        case rel => exact ⟨2, by omega, by omega, rfl, H2, Aid.bt hb (Aid.b1 _ _)⟩
        case measure => simp [intOf]
    · by_cases hx : kk = 34979
      · subst hx
        go_wp2_with fail
        refine (Tryd.c_Text2 _ _ 234 772 _ ⟨rfl, rfl⟩ (by decide) (by decide)).mono ?_
        rintro e w2 ⟨rfl, hb2⟩
        go_wp2
        go_ret2
        rw [HD1.out 234 772 rfl (by decide)]
        exact ⟨rfl, Aid.bt hb hb2⟩
      · have hx' : ((34979 : Int) == kk) = false := by simp; omega
        have H2 := Aid.Hid2.mk (Dia.bpre_3 HP.out hx)
        clear hx HP
        go_wp2
        go_roundw
        case rel => exact ⟨3, by omega, by omega, rfl, H2, Aid.bt hb (Aid.b1 _ _)⟩
        case measure => simp [intOf]
    · by_cases hx : kk = 34981
      · subst hx
        go_wp2_with fail
        refine (Tryd.c_Text2 _ _ 234 780 _ ⟨rfl, rfl⟩ (by decide) (by decide)).mono ?_
        rintro e w2 ⟨rfl, hb2⟩
        go_wp2
        go_ret2
        rw [HD1.out 234 780 rfl (by decide)]
        exact ⟨rfl, Aid.bt hb hb2⟩
      · have hx' : ((34981 : Int) == kk) = false := by simp; omega
        have H2 := Aid.Hid2.mk (Dia.bpre_4 HP.out hx)
        clear hx HP
        go_wp2
        go_roundw
        case rel => exact ⟨4, by omega, by omega, rfl, H2, Aid.bt hb (Aid.b1 _ _)⟩
        case measure => simp [intOf]
    · have HD3 := Aid.Hid2.mk (HD2.out (Dia.bpre_two HP.out))
      clear HP
      cases ok with
      | false =>
        clear hf
        go_wp2_with fail
        refine (Tryd.c_btable _ (hT.below hb)).mono ?_
        rintro e w2 ⟨ls, hl1, x, cp, rfl, ht, hb2⟩
        go_wp2_with fail
        refine (HL.out _).mono ?_
        rintro e w3 ⟨rfl, rfl⟩
        go_wp2_with fail
        refine (HF.out _ _ _ _ ht).mono ?_
        rintro e w3 ⟨rfl, hb3⟩
        go_wp2
        go_ret2
        rw [HD3.out]
        exact ⟨rfl, Aid.bt (Aid.bt hb hb2) hb3⟩
      | true =>
        have hp := hf rfl
        clear hf
        go_wp2_with fail
        refine (Tryd.c_btable _ (hT.below hb)).mono ?_
        rintro e w2 ⟨ls, hl1, x, cp, rfl, ht, hb2⟩
        go_wp2_with fail
        refine (HL.out _).mono ?_
        rintro e w3 ⟨rfl, rfl⟩
        go_wp2_with fail
        refine (HF.out _ _ _ _ ht).mono ?_
        rintro e w3 ⟨rfl, hb3⟩
        go_wp2_with fail
        refine (Tryd.c_Text1 p _ hp).mono ?_
        rintro e w4 ⟨rfl, hb4⟩
        go_wp2
        go_ret2
        rw [HD3.out]
        exact ⟨rfl, Aid.bt (Aid.bt (Aid.bt hb hb2) hb3) hb4⟩
end Go.Proofs
