/- the laws of layer 7, walked: RowCode, WansungBytes -/
import Derived.Test.YtfiinmidcmgphaaDoorCh
namespace Go.Proofs
open Go.RowKit

namespace Dia
/-- RowCode, from a row on, and from a place of a row on -/
def wcodeAt (p : Int) (i : Nat) (rs : List (List Int)) : Int := match zScanA p i rs with | some k => (161 + (k : Int) / 94) * 256 + (161 + (k : Int) % 94) | none => -1
def wcodeIn (p : Int) (i j : Nat) (l : List Int) (rs : List (List Int)) : Int := match zScan p j l with | some c => (161 + (i : Int)) * 256 + (161 + (c : Int)) | none => wcodeAt p (i + 1) rs
theorem wcodeAt_cons (p : Int) (i : Nat) (r : List Int) (rs : List (List Int)) (hr : r.length = 94) : wcodeAt p i (r :: rs) = wcodeIn p i 0 r rs := by
  unfold wcodeAt wcodeIn zScanA
  cases h : zScan p 0 r with
  | none => rfl
  | some j =>
    have := zScan_bd p r 0 j h
    have e1 : ((i * 94 + j : Nat) : Int) / 94 = i := by omega
    have e2 : ((i * 94 + j : Nat) : Int) % 94 = j := by omega
    simp only
    rw [e1, e2]
theorem wcodeIn_cons (p x : Int) (i j : Nat) (l : List Int) (rs : List (List Int)) : wcodeIn p i j (x :: l) rs = if x = p then (161 + (i : Int)) * 256 + (161 + (j : Int)) else wcodeIn p i (j + 1) l rs := by
  have e : zScan p j (x :: l) = if x = p then some j else zScan p (j + 1) l := rfl
  unfold wcodeIn
  rw [e]
  by_cases h : x = p
  · rw [if_pos h, if_pos h]
  · rw [if_neg h, if_neg h]
theorem wW_get (i : Nat) (h : i < 12) : ∃ r, wanW[i]? = some r ∧ r.length = 94 ∧ ∀ j : Nat, j < 94 → r[j]? = some (wAt i j) := by
  obtain ⟨h1, h2⟩ := wanW_len
  have hi : i < wanW.length := by rw [h1]; exact h
  refine ⟨wanW[i], List.getElem?_eq_getElem hi, h2 _ (List.getElem_mem hi), fun j hj => ?_⟩
  have hr := h2 _ (List.getElem_mem hi)
  unfold wAt
  rw [List.getD_eq_getElem?_getD (l := wanW), List.getElem?_eq_getElem hi]
  simp only [Option.getD_some]
  rw [List.getD_eq_getElem?_getD, List.getElem?_eq_getElem (by omega)]
  rfl
end Dia
set_option maxRecDepth 100000 in
set_option maxHeartbeats 1000000 in
theorem Tryd.c_RowCode (p : Int) (w : World) :
    Calls Tryd.prog 18 #[.int .i32 p] w fun e w' => e = .returned (.int .i64 (Dia.wcode p)) ∧ Below w.heap.size w w' := by
  generalize hD : Dia.wcode p = D
  have H0 : Aid.Hid2 (D = Dia.wcodeAt p 0 Dia.wanW) := ⟨by rw [← hD]; rfl⟩
  have HLEN := Aid.Hid2.mk Dia.wanW_len
  have HG := Aid.Hid2.mk Dia.wW_get
  have HR : Aid.Hid2 (∀ (m j : Nat) (w1 : World), m ≤ 94 → j < 94 → Calls Tryd.prog 20 #[.int .i64 (161 + (m : Int)), .int .i64 (161 + (j : Int))] w1 fun e w' => e = .returned (.int .i32 (Dia.wAt m j)) ∧ Below w1.heap.size w1 w') := ⟨fun m j w1 h1 h2 => Tryd.c_Row m j w1 h1 h2⟩
  clear hD
  generalize Dia.wanW = W at *
  go_enter Tryd.func18, Tryd.ntmps18
  go_wp2_with fail
  go_loopw [3, 4] (fun vl _ wr => ∃ i : Nat, i ≤ 12 ∧ vl = .int .i64 (161 + (i : Int)) ∧ Aid.Hid2 (D = Dia.wcodeAt p i (W.drop i)) ∧ Below w.heap.size w wr)
    (fun vl _ _ => (173 - intOf vl).toNat)
  case atStart => exact ⟨0, by omega, rfl, ⟨H0.out⟩, Below.refl _ _⟩
  case round =>
    obtain ⟨i, hi, rfl, HI, hb⟩ := hrel
    by_cases hlt : i < 12
    · obtain ⟨r, g1, g2, g3⟩ := HG.out i hlt
      have HIN : Aid.Hid2 (D = Dia.wcodeIn p i 0 (r.drop 0) (W.drop (i + 1))) := ⟨by
        obtain ⟨hm1, hm2⟩ := List.getElem?_eq_some_iff.1 g1
        rw [HI.out, List.drop_eq_getElem_cons hm1, hm2, Dia.wcodeAt_cons _ _ _ _ g2]
        rfl⟩
      have H3 := Aid.Hid2.mk (And.intro g2 g3)
      have dI : decide (161 + (i : Int) ≤ 172) = true := decide_eq_true (by omega)
      clear g1 g2 g3 HI
      go_wp2_with fail
      go_loopw [4] (fun vb wr2 => ∃ j : Nat, j ≤ 94 ∧ vb = .int .i64 (161 + (j : Int)) ∧ Aid.Hid2 (D = Dia.wcodeIn p i j (r.drop j) (W.drop (i + 1))) ∧ Below w.heap.size w wr2)
        (fun vb _ => (255 - intOf vb).toNat)
      case atStart => exact ⟨0, by omega, rfl, HIN, hb⟩
      case round =>
        clear HIN
        obtain ⟨j, hj, rfl, HJ, hb2⟩ := hrel
        by_cases hjlt : j < 94
        · have HRR := Aid.Hid2.mk (fun w1 => HR.out i j w1 (by omega) hjlt)
          have HC : Aid.Hid2 (D = if Dia.wAt i j = p then (161 + (i : Int)) * 256 + (161 + (j : Int)) else Dia.wcodeIn p i (j + 1) (r.drop (j + 1)) (W.drop (i + 1))) := ⟨by
            obtain ⟨hm1, hm2⟩ := List.getElem?_eq_some_iff.1 (H3.out.2 j hjlt)
            rw [HJ.out, List.drop_eq_getElem_cons hm1, hm2, Dia.wcodeIn_cons]⟩
          clear HJ
          generalize Dia.wAt i j = q at *
          by_cases hq : q = p
          · have HV : Aid.Hid2 (D = (161 + (i : Int)) * 256 + (161 + (j : Int))) := ⟨by rw [HC.out, if_pos hq]⟩
            subst hq
            clear HC
            go_wp2_with fail
            refine (HRR.out _).mono ?_
            rintro e w3 ⟨rfl, hb3⟩
            go_wp2
            go_ret
            exact ⟨(by rw [HV.out]; go_num), Aid.bt hb2 hb3⟩
          · have HV : Aid.Hid2 (D = Dia.wcodeIn p i (j + 1) (r.drop (j + 1)) (W.drop (i + 1))) := ⟨by rw [HC.out, if_neg hq]⟩
            have d1 : (q == p) = false := by simpa using hq
            clear HC hq
            go_wp2_with fail
            refine (HRR.out _).mono ?_
            rintro e w3 ⟨rfl, hb3⟩
            go_wp2
            go_roundw
            case rel => exact ⟨j + 1, by omega, by go_num, HV, Aid.bt hb2 hb3⟩
            case measure => simp [intOf]; omega
        · obtain rfl : j = 94 := by omega
          have HV : Aid.Hid2 (D = Dia.wcodeAt p (i + 1) (W.drop (i + 1))) := ⟨by
            rw [HJ.out, List.drop_eq_nil_of_le (by rw [H3.out.1]; exact Nat.le_refl _)]
            rfl⟩
          clear HJ
          go_wp2
          go_roundw
          case rel => exact ⟨i + 1, by omega, by go_num, HV, hb2⟩
          case measure => simp [intOf]; omega
    · obtain rfl : i = 12 := by omega
      have HV : Aid.Hid2 (D = -1) := ⟨by
        rw [HI.out, List.drop_eq_nil_of_le (by rw [HLEN.out.1]; exact Nat.le_refl _)]
        rfl⟩
      clear HI
      go_wp2
      go_ret
      exact ⟨congrArg (fun n => Ending.returned (.int .i64 n)) HV.out.symm, hb⟩
set_option maxRecDepth 100000 in
set_option maxHeartbeats 2000000 in
theorem Tryd.w_WansungBytes (p : Int) (w : World) (hT : Tryd.Tabs w ∧ Tryd.Tab32 w) (hp : -2147483648 ≤ p ∧ p ≤ 2147483647) :
    Calls Tryd.prog 6 #[.int .i32 p] w fun e w' => e = .returned (.bool true) ∧ Below w.heap.size w w' := by
  have HB := Aid.Hid2.mk (Tryd.c_wBytes p w hT.1)
  have HAW : Aid.Hid2 (∀ w1, Below w.heap.size w w1 → _) := ⟨fun w1 hb => Tryd.c_awake07 w1 (hT.2.below hb)⟩
  obtain ⟨p0, p1⟩ := hp
  by_cases hin : 44032 ≤ p ∧ p ≤ 55203
  · obtain ⟨i0, i1⟩ := hin
    obtain ⟨s, hs⟩ := Int.eq_ofNat_of_zero_le (show 0 ≤ p - 44032 by omega)
    obtain ⟨h1, h2, h3⟩ := Dia.wsyl_sgr s (by omega)
    have ep : 44032 + (s : Int) = p := by omega
    rw [ep] at h1
    have hwb : Dia.wbytes p = (Dia.twoB (Dia.wsyl s).1 (Dia.wsyl s).2, true) := by
      unfold Dia.wbytes
      rw [if_pos ⟨i0, i1⟩, hs]
      rfl
    rw [hwb] at HB
    have HT2 := Tryd.two_of _ _ h2 h3
    have hpne : p ≠ 0 := by omega
    clear hwb hs ep
    generalize (Dia.wsyl s).1 = l at *
    generalize (Dia.wsyl s).2 = b at *
    generalize ByteArray.mk (Dia.twoB l b).toArray = t at *
    have HS : Aid.Hid2 (∀ w1, Below w.heap.size w w1 → Calls Tryd.prog 15 #[.int .u8 l, .int .u8 b] w1 fun e w' => e = .returned (.tuple #[.int .i32 p, .bool true]) ∧ Below w1.heap.size w1 w') := ⟨fun w1 hb1 => (Tryd.c_wSign l b w1 h2 h3 (hT.1.below hb1) (hT.2.below hb1)).mono fun e w' ⟨q, g1, g2, g3⟩ => by
      obtain rfl := h1.uniq g1
      rw [decide_eq_true hpne] at g2
      exact ⟨g2, g3⟩⟩
    have HR : Aid.Hid2 (∀ w1, Calls Tryd.prog 16 #[.int .i64 l, .int .i64 b] w1 fun e w' => e = .returned (.int .i32 p) ∧ Below w1.heap.size w1 w') := ⟨fun w1 => (Tryd.c_wRefSign l b w1 h2 h3).mono fun e w' ⟨q, g1, g2, g3⟩ => by
      obtain rfl := h1.uniq g1
      exact ⟨g2, g3⟩⟩
    obtain ⟨l0, l1⟩ := h2
    obtain ⟨b0, b1⟩ := h3
    have q0 : IntKind.i64.wrap l = l := IntWalk.i64_in _ (by omega)
    have q1 : IntKind.i64.wrap b = b := IntWalk.i64_in _ (by omega)
    have j0 := HT2.i0
    have j1 := HT2.i1
    have sz := HT2.sz
    have sz2 := HT2.sz2
    have d0 : decide (44032 ≤ p) = true := decide_eq_true i0
    have d1 : decide (p ≤ 55203) = true := decide_eq_true i1
    clear h1 HT2 hpne hT
    go_enter Tryd.func6, Tryd.ntmps6
    go_wp2_with fail
    refine HB.out.mono ?_
    rintro e w1 ⟨rfl, hb1⟩
    go_wp2_with fail
    go_region_held3 (fun w' => w1.heap.size ≤ w'.heap.size ∧ Below w1.heap.size w1 w')
      (first | exact ⟨Nat.le_refl _, (Below.refl _ _).drew⟩ | (go_split_ands; exact ⟨(Aid.bt (by assumption) hbx).size, Aid.bt (by assumption) hbx⟩))
      (first
        | (go_at_call 15; go_split_ands; refine (HS.out _ (Aid.bt hb1 (by assumption))).mono ?_; rintro e wx ⟨rfl, hbx⟩))
    all_goals
      go_split_ands
      rename_i hBx
      go_wp2_with fail
      go_region_held3 (fun w' => w1.heap.size ≤ w'.heap.size ∧ Below w1.heap.size w1 w')
        (first | exact ⟨hBx.drew.size, hBx.drew⟩ | (go_split_ands; exact ⟨(Aid.bt (by assumption) hbx).size, Aid.bt (by assumption) hbx⟩))
        (first
          | (go_at_call 9; go_split_ands; refine (HAW.out _ (Aid.bt hb1 (by assumption))).mono ?_; rintro e wx ⟨rfl, hbx⟩)
          | (go_at_call 16; go_split_ands; (with_reducible refine (HR.out _).mono ?_); rintro e wx ⟨rfl, hbx⟩))
      all_goals
        go_split_ands
        go_wp2
        go_ret
        exact ⟨rfl, Aid.bt hb1 (by assumption)⟩
  · have dz : (decide (44032 ≤ p) && decide (p ≤ 55203)) = false := by
      by_cases h : 44032 ≤ p
      · have : ¬ p ≤ 55203 := fun h2 => hin ⟨h, h2⟩
        simp [this]
      · simp [h]
    have dd : decide (44032 ≤ p) = false ∨ (decide (44032 ≤ p) = true ∧ decide (p ≤ 55203) = false) := by
      by_cases h : 44032 ≤ p
      · exact .inr ⟨decide_eq_true h, decide_eq_false fun h2 => hin ⟨h, h2⟩⟩
      · exact .inl (decide_eq_false h)
    clear dz
    by_cases hpos : p ≤ 0
    · rw [Dia.wbytes_neg p hpos] at HB
      have d0 : decide (44032 ≤ p) = false := decide_eq_false (by omega)
      have d2 : decide (0 < p) = false := decide_eq_false (by omega)
      clear hin dd
      go_enter Tryd.func6, Tryd.ntmps6
      go_wp2_with fail
      refine HB.out.mono ?_
      rintro e w1 ⟨rfl, hb1⟩
      have HBX := hb1
      go_wp2_with fail
      refine (HAW.out _ HBX).mono ?_
      rintro e w3 ⟨rfl, hb3⟩
      go_wp2
      go_ret
      exact ⟨rfl, Aid.bt HBX hb3⟩
    · have d2 : decide (0 < p) = true := decide_eq_true (by omega)
      have HRC := Aid.Hid2.mk (fun w1 => Tryd.c_RowCode p w1)
      rcases Dia.wbytes_code p hin (by omega) with ⟨h1, h2⟩ | ⟨c0, c1, h2⟩
      · rw [h2] at HB
        rw [h1] at HRC
        clear hin h1 h2 hpos
        rcases dd with d0 | ⟨d0, d1⟩
        · go_enter Tryd.func6, Tryd.ntmps6
          go_wp2_with fail
          refine HB.out.mono ?_
          rintro e w1 ⟨rfl, hb1⟩
          go_wp2_with fail
          refine (HRC.out _).mono ?_
          rintro e w2 ⟨rfl, hb2⟩
          have HBX := Aid.bt hb1 hb2
          go_wp2_with fail
          refine (HAW.out _ HBX).mono ?_
          rintro e w3 ⟨rfl, hb3⟩
          go_wp2
          go_ret
          exact ⟨rfl, Aid.bt HBX hb3⟩
        · go_enter Tryd.func6, Tryd.ntmps6
          go_wp2_with fail
          refine HB.out.mono ?_
          rintro e w1 ⟨rfl, hb1⟩
          go_wp2_with fail
          refine (HRC.out _).mono ?_
          rintro e w2 ⟨rfl, hb2⟩
          have HBX := Aid.bt hb1 hb2
          go_wp2_with fail
          refine (HAW.out _ HBX).mono ?_
          rintro e w3 ⟨rfl, hb3⟩
          go_wp2
          go_ret
          exact ⟨rfl, Aid.bt HBX hb3⟩
      · rw [h2] at HB
        clear hin h2 hpos
        generalize Dia.wcode p = c at *
        have es : strOfNums [c / 256, c % 256] = ⟨(Dia.twoB (c / 256) (c % 256)).toArray⟩ := rfl
        have HB2 := HB
        rw [← es] at HB2
        clear HB es
        have q0 : 0 ≤ c / 256 := by omega
        have q1 : c / 256 < 256 := by omega
        have r0 : 0 ≤ c % 256 := by omega
        have r1 : c % 256 < 256 := by omega
        rcases dd with d0 | ⟨d0, d1⟩
        · go_enter Tryd.func6, Tryd.ntmps6
          go_wp2_with fail
          refine HB2.out.mono ?_
          rintro e w1 ⟨rfl, hb1⟩
          go_wp2_with fail
          refine (HRC.out _).mono ?_
          rintro e w2 ⟨rfl, hb2⟩
          have HBX := Aid.bt hb1 hb2
          go_wp2_with fail
          refine (HAW.out _ HBX).mono ?_
          rintro e w3 ⟨rfl, hb3⟩
          have hcv : (convert 37 9 (.slice (some ⟨w3.heap.size, 0, none⟩) 2 2)).run Tryd.prog (w3.alloc (.cells #[.int .u8 (c / 256), .int .u8 (c % 256)] 5)) = .ok (.string (strOfNums [c / 256, c % 256])) (w3.alloc (.cells #[.int .u8 (c / 256), .int .u8 (c % 256)] 5)) :=
            Aid.run_conv_ints _ _ _ 5 ⟨w3.heap.size, 0, none⟩ 2 [c / 256, c % 256] Tryd.underlying37 Tryd.underlying5 Tryd.underlying9 (Aid.cells_new _ _ _ _ _ rfl)
          go_wp2
          go_ret
          exact ⟨rfl, Aid.bt (Aid.bt HBX hb3) (Aid.b1 _ _)⟩
        · go_enter Tryd.func6, Tryd.ntmps6
          go_wp2_with fail
          refine HB2.out.mono ?_
          rintro e w1 ⟨rfl, hb1⟩
          go_wp2_with fail
          refine (HRC.out _).mono ?_
          rintro e w2 ⟨rfl, hb2⟩
          have HBX := Aid.bt hb1 hb2
          go_wp2_with fail
          refine (HAW.out _ HBX).mono ?_
          rintro e w3 ⟨rfl, hb3⟩
          have hcv : (convert 37 9 (.slice (some ⟨w3.heap.size, 0, none⟩) 2 2)).run Tryd.prog (w3.alloc (.cells #[.int .u8 (c / 256), .int .u8 (c % 256)] 5)) = .ok (.string (strOfNums [c / 256, c % 256])) (w3.alloc (.cells #[.int .u8 (c / 256), .int .u8 (c % 256)] 5)) :=
            Aid.run_conv_ints _ _ _ 5 ⟨w3.heap.size, 0, none⟩ 2 [c / 256, c % 256] Tryd.underlying37 Tryd.underlying5 Tryd.underlying9 (Aid.cells_new _ _ _ _ _ rfl)
          go_wp2
          go_ret
          exact ⟨rfl, Aid.bt (Aid.bt HBX hb3) (Aid.b1 _ _)⟩
end Go.Proofs
