/- walks of big5's reference: Code (printed by gcode.py) -/
import Derived.Test.YtdbpliheggbmdaaDoorBf
namespace Go.Proofs
open Go.RowKit

set_option maxRecDepth 100000 in
set_option maxHeartbeats 2000000 in
theorem Tryd.c_rcode_1 (b off : Nat) (p : Int) (cap : Nat) (w : World) (hc : w.cell? ⟨b, off, none⟩ = some (.int .i32 p)) :
    Calls Tryd.prog 12 #[.slice (some ⟨b, off, none⟩) 1 cap] w fun e w' => e = .returned (.tuple #[.int .i64 (Dia.rcode [p]).1, .int .i64 (Dia.rcode [p]).2]) ∧ Below w.heap.size w w' := by
  generalize hD : Dia.rcode [p] = D
  have HD : Aid.Hid2 (D = Dia.rcode1 p) := ⟨hD.symm⟩
  clear hD
  have HC : Aid.Hid2 (∀ w', Below w.heap.size w w' → w'.cell? ⟨b, off, none⟩ = some (.int .i32 p)) := ⟨fun w' h => Aid.cell_ext h hc⟩
  have hB0 := Below.refl w.heap.size w
  go_enter Tryd.func12, Tryd.ntmps12
  go_wp2_with fail
  refine (Tryd.c_leads _).mono ?_
  rintro e w1 ⟨ra, rfl, hr, hb1⟩
  obtain ⟨rb, roff, hra, _⟩ := hr.get (k := 0) (by decide)
  cases hra
  have HRC : Aid.Hid2 (∀ k (h : k < 5), w1.cell? ⟨rb, roff + k, none⟩ = some (.int .i64 Dia.leadL[k])) := ⟨fun k h => by
    obtain ⟨b', o', e', h'⟩ := hr.get (k := k) h
    cases e'
    rw [h']; exact congrArg some (List.getElem_map _)⟩
  clear hr
  have hB1 := Aid.bt hB0 hb1
  clear hb1
  go_wp2_with fail
  go_loopw [8, 9, 10, 11, 12, 13] (fun i _ _ _ _ _ wr => ∃ k : Nat, k ≤ 5 ∧ i = .int .i64 k ∧ Aid.Hid2 (Dia.rcode1 p = Dia.rcGo p (Dia.leadL.drop k)) ∧ Below w1.heap.size w1 wr)
    (fun i _ _ _ _ _ _ => 5 - (intOf i).toNat)
  case atStart => exact ⟨0, by omega, rfl, ⟨rfl⟩, Below.refl _ _⟩
  case round =>
    obtain ⟨k, hk, rfl, HG, hb⟩ := hrel
    by_cases hlt : k < 5
    · have hck := Aid.cell_ext hb (HRC.out k hlt)
      have hld : 129 ≤ Dia.leadL[k] ∧ Dia.leadL[k] ≤ 254 := (show ∀ x ∈ Dia.leadL, 129 ≤ x ∧ x ≤ 254 by decide) _ (List.getElem_mem _)
      have hdr : Dia.leadL.drop k = Dia.leadL[k] :: Dia.leadL.drop (k + 1) := List.drop_eq_getElem_cons hlt
      have HG2 : Aid.Hid2 (Dia.rcode1 p = match Dia.rcRow p Dia.leadL[k] with | some c => (c, 1) | none => Dia.rcGo p (Dia.leadL.drop (k + 1))) := ⟨by rw [HG.out, hdr]; rfl⟩
      clear hdr HG
      generalize Dia.leadL[k] = lead at *
      obtain ⟨l0, l1⟩ := hld
      go_wp2_with fail
      refine (Tryd.c_rrow lead _).mono ?_
      rintro e w2 ⟨s, hs, rfl, rfl⟩
      have HPT : Aid.Hid2 (Dia.pts s.data.toList = (Dia.rowP lead, -1)) := ⟨by rw [hs.out]; exact Dia.rowT_pts lead⟩
      have hsz : s.size ≤ 1000000 := by rw [hs.out]; exact Dia.rowT_len lead
      clear hs
      go_wp2_with fail
      go_loopw [10, 11, 12, 13] (fun a c _ _ wr2 => ∃ (j : Nat) (ps : List Int), a = .int .i64 j ∧ c = .int .i64 ps.length ∧ Dia.UpTo s.data.toList j ps ∧ Aid.Hid2 (Dia.rcI p 0 (Dia.rowP lead) = Dia.rcI p ps.length ((Dia.rowP lead).drop ps.length)) ∧ Below wr.heap.size wr wr2)
        (fun a _ _ _ _ => s.size - (intOf a).toNat)
      case atStart => exact ⟨0, [], rfl, rfl, Dia.upTo_zero _, ⟨rfl⟩, Below.refl _ _⟩
      case round =>
        rename_i wr2
        obtain ⟨j, ps, rfl, rfl, hu, HI, hb2⟩ := hrel
        have hj : j ≤ s.size := Dia.upTo_le hu
        have h4 := Dia.hd_le (s.data.toList.drop j)
        have hpl : ps.length ≤ j := Dia.upTo_len hu
        have HU := Aid.Hid2.mk hu
        clear hu
        generalize hm : ps.length = m at *
        have HM := Aid.Hid2.mk hm
        clear hm
        by_cases hjlt : j < s.size
        · obtain ⟨g1, g2⟩ := Dia.upTo_get HU.out hjlt (by rw [HPT.out])
          rw [HPT.out, HM.out] at g2
          simp only at g2
          have g1' : 1 ≤ (Dia.hd (s.data.toList.drop j)).2 := Nat.pos_of_ne_zero g1
          have HS := Aid.Hid2.mk (Dia.upTo_step HU.out g1)
          have HA : Aid.Hid2 (∀ w1, Calls Tryd.prog 24 #[.string s, .int .i64 j] w1 fun e w' => e = .returned (.tuple #[.int .i32 (Dia.hd (s.data.toList.drop j)).1, .int .i64 ((Dia.hd (s.data.toList.drop j)).2 : Nat)]) ∧ Below w1.heap.size w1 w') := ⟨fun w1 => Tryd.c_At s j w1 hjlt hsz⟩
          generalize Dia.hd (s.data.toList.drop j) = q at *
          obtain ⟨q1, q2⟩ := q
          simp only at g1' h4 HA g2
          have HDR : Aid.Hid2 (Dia.rcI p m ((Dia.rowP lead).drop m) = if q1 = p ∧ q1 ≠ 63 then some m else Dia.rcI p (m + 1) ((Dia.rowP lead).drop (m + 1))) := ⟨by
            obtain ⟨hm1, hm2⟩ := List.getElem?_eq_some_iff.1 g2
            rw [List.drop_eq_getElem_cons hm1, hm2]
            rfl⟩
          have hjlt' : (j : Int) < (s.size : Int) := by omega
          clear g1 g2
          by_cases hq : q1 = p
          · subst hq
            by_cases h63 : q1 = 63
            · subst h63
              have HN : Aid.Hid2 (Dia.rcI 63 0 (Dia.rowP lead) = Dia.rcI 63 (ps ++ [63]).length ((Dia.rowP lead).drop (ps ++ [63]).length)) := ⟨by
                rw [HI.out, HDR.out, if_neg (by decide), List.length_append, HM.out]; rfl⟩
              clear HI HDR
              go_wp2_with fail
              refine (HA.out _).mono ?_
              rintro e w3 ⟨rfl, hb3⟩
              have hp3 := HC.out _ (Aid.bt (Aid.bt (Aid.bt hB1 hb) hb2) hb3)
              go_wp2
              go_roundw
              case rel => exact ⟨j + q2, ps ++ [63], by go_num, by rw [List.length_append, HM.out]; go_num, HS.out, HN, Aid.bt hb2 hb3⟩
              case measure => simp [intOf]; omega
            · have h63' : (q1 != 63) = true := by simpa using h63
              have HN : Aid.Hid2 (Dia.rcode1 q1 = (Dia.rcC lead m, 1)) := ⟨by
                rw [HG2.out]
                unfold Dia.rcRow
                rw [HI.out, HDR.out, if_pos ⟨rfl, h63⟩]
                rfl⟩
              clear HI HDR h63
              by_cases hm63 : m < 63
              · have HV : Aid.Hid2 (Dia.rcC lead m = lead * 256 + 64 + m) := ⟨by unfold Dia.rcC; rw [if_pos hm63]⟩
                go_wp2_with fail
                refine (HA.out _).mono ?_
                rintro e w3 ⟨rfl, hb3⟩
                have hp3 := HC.out _ (Aid.bt (Aid.bt (Aid.bt hB1 hb) hb2) hb3)
                have hc3 := Aid.cell_ext (Aid.bt hb2 hb3) hck
                go_wp2
                go_ret2
                rw [HD.out, HN.out, HV.out]
                exact ⟨rfl, Aid.bt (Aid.bt (Aid.bt hB1 hb) hb2) hb3⟩
              · have HV : Aid.Hid2 (Dia.rcC lead m = lead * 256 + 161 + m - 63) := ⟨by unfold Dia.rcC; rw [if_neg hm63]⟩
                go_wp2_with fail
                refine (HA.out _).mono ?_
                rintro e w3 ⟨rfl, hb3⟩
                have hp3 := HC.out _ (Aid.bt (Aid.bt (Aid.bt hB1 hb) hb2) hb3)
                have hc3 := Aid.cell_ext (Aid.bt hb2 hb3) hck
                go_wp2
                go_ret2
                rw [HD.out, HN.out, HV.out]
                exact ⟨rfl, Aid.bt (Aid.bt (Aid.bt hB1 hb) hb2) hb3⟩
          · have hq' : (q1 == p) = false := by simpa using hq
            have HN : Aid.Hid2 (Dia.rcI p 0 (Dia.rowP lead) = Dia.rcI p (ps ++ [q1]).length ((Dia.rowP lead).drop (ps ++ [q1]).length)) := ⟨by
              rw [HI.out, HDR.out, if_neg (fun h => hq h.1), List.length_append, HM.out]; rfl⟩
            clear HI HDR hq
            go_wp2_with fail
            refine (HA.out _).mono ?_
            rintro e w3 ⟨rfl, hb3⟩
            have hp3 := HC.out _ (Aid.bt (Aid.bt (Aid.bt hB1 hb) hb2) hb3)
            go_wp2
            go_roundw
            case rel => exact ⟨j + q2, ps ++ [q1], by go_num, by rw [List.length_append, HM.out]; go_num, HS.out, HN, Aid.bt hb2 hb3⟩
            case measure => simp [intOf]; omega
        · have hend := Dia.upTo_end HU.out hjlt
          have HN : Aid.Hid2 (Dia.rcode1 p = Dia.rcGo p (Dia.leadL.drop (k + 1))) := ⟨by
            rw [HG2.out]
            unfold Dia.rcRow
            rw [HI.out]
            rw [HPT.out] at hend
            have e1 : Dia.rowP lead = ps := congrArg Prod.fst hend
            rw [e1, List.drop_eq_nil_of_le (by have := HM.out; omega)]
            rfl⟩
          clear hend HI
          go_wp2
          go_roundw
          case rel => exact ⟨k + 1, by omega, by go_num, HN, Aid.bt hb hb2⟩
          case measure => simp [intOf]; omega
    · obtain rfl : k = 5 := by omega
      have HN : Aid.Hid2 (Dia.rcode1 p = (-1, 0)) := ⟨HG.out⟩
      clear HG hlt
      go_wp2
      go_ret2
      rw [HD.out, HN.out]
      exact ⟨rfl, Aid.bt hB1 hb⟩

set_option maxRecDepth 100000 in
set_option maxHeartbeats 2000000 in
theorem Tryd.c_rcode_2 (b off : Nat) (p q : Int) (r : List Int) (cap : Nat) (w : World) (hc : w.cell? ⟨b, off, none⟩ = some (.int .i32 p)) (hc1 : w.cell? ⟨b, off + 1, none⟩ = some (.int .i32 q)) (hl : (p :: q :: r).length ≤ 1000000) :
    Calls Tryd.prog 12 #[.slice (some ⟨b, off, none⟩) (p :: q :: r).length cap] w fun e w' => e = .returned (.tuple #[.int .i64 (Dia.rcode (p :: q :: r)).1, .int .i64 (Dia.rcode (p :: q :: r)).2]) ∧ Below w.heap.size w w' := by
  have h2 : 2 ≤ (p :: q :: r).length := by simp
  have HD1 : Aid.Hid2 (Dia.btwoC p q = 0 → Dia.rcode (p :: q :: r) = Dia.rcode1 p) := ⟨fun h => by rw [Dia.rcode_two, if_neg (by rw [h]; simp)]⟩
  have HD2 : Aid.Hid2 (∀ c, Dia.btwoC p q = c → c ≠ 0 → Dia.rcode (p :: q :: r) = (c, 2)) := ⟨fun c h hc => by rw [Dia.rcode_two, h, if_pos hc]⟩
  generalize Dia.rcode (p :: q :: r) = D at *
  generalize (p :: q :: r).length = n at *
  have HC : Aid.Hid2 (∀ w', Below w.heap.size w w' → w'.cell? ⟨b, off, none⟩ = some (.int .i32 p)) := ⟨fun w' h => Aid.cell_ext h hc⟩
  have HC1 : Aid.Hid2 (∀ w', Below w.heap.size w w' → w'.cell? ⟨b, off + 1, none⟩ = some (.int .i32 q)) := ⟨fun w' h => Aid.cell_ext h hc1⟩
  have hB0 := Below.refl w.heap.size w
  have d1 : ((n : Int) == 0) = false := by simp; omega
  have d2 : decide (1 < (n : Int)) = true := decide_eq_true (by omega)
  go_enter Tryd.func12, Tryd.ntmps12
  go_wp2_with fail
  go_loopw [4, 5, 6] (fun i _ _ wr => ∃ x : Int, 64 ≤ x ∧ x ≤ 255 ∧ i = .int .i64 x ∧ Aid.Hid2 (∀ y : Int, 64 ≤ y → y < x → ¬ ((Dia.rtwo (34816 + y)).1 ≠ 0 ∧ (Dia.rtwo (34816 + y)).1 = p ∧ (Dia.rtwo (34816 + y)).2 = q)) ∧ Below w.heap.size w wr)
    (fun i _ _ _ => (255 - intOf i).toNat)
  case atStart => exact ⟨64, by omega, by omega, rfl, ⟨fun y h0 h1 => by omega⟩, hB0⟩
  case round =>
    obtain ⟨x, hx0, hx1, rfl, HP, hb0⟩ := hrel
    have hcp := HC.out _ hb0
    have hcq := HC1.out _ hb0
    by_cases hlt : x < 255
    · have HT : Aid.Hid2 (∀ w1, Calls Tryd.prog 21 #[.int .i64 136, .int .i64 x] w1 fun e w' => e = .returned (.tuple #[.int .i32 (Dia.rtwo (34816 + x)).1, .int .i32 (Dia.rtwo (34816 + x)).2]) ∧ w1 = w') := ⟨fun w1 => Tryd.c_rtwo 136 x w1 ⟨by decide, by decide⟩ ⟨by omega, by omega⟩⟩
      have HP2 : Aid.Hid2 (¬ ((Dia.rtwo (34816 + x)).1 ≠ 0 ∧ (Dia.rtwo (34816 + x)).1 = p ∧ (Dia.rtwo (34816 + x)).2 = q) → ∀ y : Int, 64 ≤ y → y < x + 1 → ¬ ((Dia.rtwo (34816 + y)).1 ≠ 0 ∧ (Dia.rtwo (34816 + y)).1 = p ∧ (Dia.rtwo (34816 + y)).2 = q)) := ⟨fun h y y0 y1 => by
        by_cases hy : y < x
        · exact HP.out y y0 hy
        · obtain rfl : y = x := by omega
          exact h⟩
      have HB : Aid.Hid2 (∀ p' q', Dia.rtwo (34816 + x) = (p', q') → p' ≠ 0 → Dia.btwoC p' q' = 34816 + x) := ⟨fun p' q' h hp => Dia.btwoC_of x p' q' h hp⟩
      clear HP
      generalize Dia.rtwo (34816 + x) = t at *
      obtain ⟨t1, t2⟩ := t
      simp only at HT HP2
      by_cases ht0 : t1 = 0
      · subst ht0
        have H3 := Aid.Hid2.mk (HP2.out (by simp))
        clear HP2 HB
        go_wp2_with fail
        refine (HT.out _).mono ?_
        rintro e w1 ⟨rfl, rfl⟩
        go_wp2
        go_roundw
        case rel => exact ⟨x + 1, by omega, by omega, rfl, H3, hb0⟩
        case measure => simp [intOf]; omega
      · have ht0' : (t1 != 0) = true := by simpa using ht0
        by_cases htp : t1 = p
        · subst htp
          by_cases htq : t2 = q
          · subst htq
            have H3 := Aid.Hid2.mk (HD2.out _ (HB.out _ _ rfl ht0) (by omega))
            clear HP2 HB ht0
            go_wp2_with fail
            refine (HT.out _).mono ?_
            rintro e w1 ⟨rfl, rfl⟩
            go_wp2
            go_ret2
            rw [H3.out]
            exact ⟨rfl, hb0⟩
          · have htq' : (t2 == q) = false := by simpa using htq
            have H3 := Aid.Hid2.mk (HP2.out (by rintro ⟨_, _, h⟩; exact htq h))
            clear HP2 HB htq ht0
            go_wp2_with fail
            refine (HT.out _).mono ?_
            rintro e w1 ⟨rfl, rfl⟩
            go_wp2
            go_roundw
            case rel => exact ⟨x + 1, by omega, by omega, rfl, H3, hb0⟩
            case measure => simp [intOf]; omega
        · have htp' : (t1 == p) = false := by simpa using htp
          have H3 := Aid.Hid2.mk (HP2.out (by rintro ⟨_, h, _⟩; exact htp h))
          clear HP2 HB htp ht0
          go_wp2_with fail
          refine (HT.out _).mono ?_
          rintro e w1 ⟨rfl, rfl⟩
          go_wp2
          go_roundw
          case rel => exact ⟨x + 1, by omega, by omega, rfl, H3, hb0⟩
          case measure => simp [intOf]; omega
    · obtain rfl : x = 255 := by omega
      have HD : Aid.Hid2 (D = Dia.rcode1 p) := ⟨HD1.out (Dia.btwoC_no p q HP.out)⟩
      clear HP hcp hcq
      go_wp2_with fail
      refine (Tryd.c_leads _).mono ?_
      rintro e w1 ⟨ra, rfl, hr, hb1⟩
      obtain ⟨rb, roff, hra, _⟩ := hr.get (k := 0) (by decide)
      cases hra
      have HRC : Aid.Hid2 (∀ k (h : k < 5), w1.cell? ⟨rb, roff + k, none⟩ = some (.int .i64 Dia.leadL[k])) := ⟨fun k h => by
        obtain ⟨b', o', e', h'⟩ := hr.get (k := k) h
        cases e'
        rw [h']; exact congrArg some (List.getElem_map _)⟩
      clear hr
      have hB1 := Aid.bt hb0 hb1
      clear hb1
      go_wp2_with fail
      go_loopw [8, 9, 10, 11, 12, 13] (fun i _ _ _ _ _ wr => ∃ k : Nat, k ≤ 5 ∧ i = .int .i64 k ∧ Aid.Hid2 (Dia.rcode1 p = Dia.rcGo p (Dia.leadL.drop k)) ∧ Below w1.heap.size w1 wr)
        (fun i _ _ _ _ _ _ => 5 - (intOf i).toNat)
      case atStart => exact ⟨0, by omega, rfl, ⟨rfl⟩, Below.refl _ _⟩
      case round =>
        obtain ⟨k, hk, rfl, HG, hb⟩ := hrel
        by_cases hlt : k < 5
        · have hck := Aid.cell_ext hb (HRC.out k hlt)
          have hld : 129 ≤ Dia.leadL[k] ∧ Dia.leadL[k] ≤ 254 := (show ∀ x ∈ Dia.leadL, 129 ≤ x ∧ x ≤ 254 by decide) _ (List.getElem_mem _)
          have hdr : Dia.leadL.drop k = Dia.leadL[k] :: Dia.leadL.drop (k + 1) := List.drop_eq_getElem_cons hlt
          have HG2 : Aid.Hid2 (Dia.rcode1 p = match Dia.rcRow p Dia.leadL[k] with | some c => (c, 1) | none => Dia.rcGo p (Dia.leadL.drop (k + 1))) := ⟨by rw [HG.out, hdr]; rfl⟩
          clear hdr HG
          generalize Dia.leadL[k] = lead at *
          obtain ⟨l0, l1⟩ := hld
          go_wp2_with fail
          refine (Tryd.c_rrow lead _).mono ?_
          rintro e w2 ⟨s, hs, rfl, rfl⟩
          have HPT : Aid.Hid2 (Dia.pts s.data.toList = (Dia.rowP lead, -1)) := ⟨by rw [hs.out]; exact Dia.rowT_pts lead⟩
          have hsz : s.size ≤ 1000000 := by rw [hs.out]; exact Dia.rowT_len lead
          clear hs
          go_wp2_with fail
          go_loopw [10, 11, 12, 13] (fun a c _ _ wr2 => ∃ (j : Nat) (ps : List Int), a = .int .i64 j ∧ c = .int .i64 ps.length ∧ Dia.UpTo s.data.toList j ps ∧ Aid.Hid2 (Dia.rcI p 0 (Dia.rowP lead) = Dia.rcI p ps.length ((Dia.rowP lead).drop ps.length)) ∧ Below wr.heap.size wr wr2)
            (fun a _ _ _ _ => s.size - (intOf a).toNat)
          case atStart => exact ⟨0, [], rfl, rfl, Dia.upTo_zero _, ⟨rfl⟩, Below.refl _ _⟩
          case round =>
            rename_i wr2
            obtain ⟨j, ps, rfl, rfl, hu, HI, hb2⟩ := hrel
            have hj : j ≤ s.size := Dia.upTo_le hu
            have h4 := Dia.hd_le (s.data.toList.drop j)
            have hpl : ps.length ≤ j := Dia.upTo_len hu
            have HU := Aid.Hid2.mk hu
            clear hu
            generalize hm : ps.length = m at *
            have HM := Aid.Hid2.mk hm
            clear hm
            by_cases hjlt : j < s.size
            · obtain ⟨g1, g2⟩ := Dia.upTo_get HU.out hjlt (by rw [HPT.out])
              rw [HPT.out, HM.out] at g2
              simp only at g2
              have g1' : 1 ≤ (Dia.hd (s.data.toList.drop j)).2 := Nat.pos_of_ne_zero g1
              have HS := Aid.Hid2.mk (Dia.upTo_step HU.out g1)
              have HA : Aid.Hid2 (∀ w1, Calls Tryd.prog 24 #[.string s, .int .i64 j] w1 fun e w' => e = .returned (.tuple #[.int .i32 (Dia.hd (s.data.toList.drop j)).1, .int .i64 ((Dia.hd (s.data.toList.drop j)).2 : Nat)]) ∧ Below w1.heap.size w1 w') := ⟨fun w1 => Tryd.c_At s j w1 hjlt hsz⟩
              generalize Dia.hd (s.data.toList.drop j) = q at *
              obtain ⟨q1, q2⟩ := q
              simp only at g1' h4 HA g2
              have HDR : Aid.Hid2 (Dia.rcI p m ((Dia.rowP lead).drop m) = if q1 = p ∧ q1 ≠ 63 then some m else Dia.rcI p (m + 1) ((Dia.rowP lead).drop (m + 1))) := ⟨by
                obtain ⟨hm1, hm2⟩ := List.getElem?_eq_some_iff.1 g2
                rw [List.drop_eq_getElem_cons hm1, hm2]
                rfl⟩
              have hjlt' : (j : Int) < (s.size : Int) := by omega
              clear g1 g2
              by_cases hq : q1 = p
              · subst hq
                by_cases h63 : q1 = 63
                · subst h63
                  have HN : Aid.Hid2 (Dia.rcI 63 0 (Dia.rowP lead) = Dia.rcI 63 (ps ++ [63]).length ((Dia.rowP lead).drop (ps ++ [63]).length)) := ⟨by
                    rw [HI.out, HDR.out, if_neg (by decide), List.length_append, HM.out]; rfl⟩
                  clear HI HDR
                  go_wp2_with fail
                  refine (HA.out _).mono ?_
                  rintro e w3 ⟨rfl, hb3⟩
                  have hp3 := HC.out _ (Aid.bt (Aid.bt (Aid.bt hB1 hb) hb2) hb3)
                  go_wp2
                  go_roundw
                  case rel => exact ⟨j + q2, ps ++ [63], by go_num, by rw [List.length_append, HM.out]; go_num, HS.out, HN, Aid.bt hb2 hb3⟩
                  case measure => simp [intOf]; omega
                · have h63' : (q1 != 63) = true := by simpa using h63
                  have HN : Aid.Hid2 (Dia.rcode1 q1 = (Dia.rcC lead m, 1)) := ⟨by
                    rw [HG2.out]
                    unfold Dia.rcRow
                    rw [HI.out, HDR.out, if_pos ⟨rfl, h63⟩]
                    rfl⟩
                  clear HI HDR h63
                  by_cases hm63 : m < 63
                  · have HV : Aid.Hid2 (Dia.rcC lead m = lead * 256 + 64 + m) := ⟨by unfold Dia.rcC; rw [if_pos hm63]⟩
                    go_wp2_with fail
                    refine (HA.out _).mono ?_
                    rintro e w3 ⟨rfl, hb3⟩
                    have hp3 := HC.out _ (Aid.bt (Aid.bt (Aid.bt hB1 hb) hb2) hb3)
                    have hc3 := Aid.cell_ext (Aid.bt hb2 hb3) hck
                    go_wp2
                    go_ret2
                    rw [HD.out, HN.out, HV.out]
                    exact ⟨rfl, Aid.bt (Aid.bt (Aid.bt hB1 hb) hb2) hb3⟩
                  · have HV : Aid.Hid2 (Dia.rcC lead m = lead * 256 + 161 + m - 63) := ⟨by unfold Dia.rcC; rw [if_neg hm63]⟩
                    go_wp2_with fail
                    refine (HA.out _).mono ?_
                    rintro e w3 ⟨rfl, hb3⟩
                    have hp3 := HC.out _ (Aid.bt (Aid.bt (Aid.bt hB1 hb) hb2) hb3)
                    have hc3 := Aid.cell_ext (Aid.bt hb2 hb3) hck
                    go_wp2
                    go_ret2
                    rw [HD.out, HN.out, HV.out]
                    exact ⟨rfl, Aid.bt (Aid.bt (Aid.bt hB1 hb) hb2) hb3⟩
              · have hq' : (q1 == p) = false := by simpa using hq
                have HN : Aid.Hid2 (Dia.rcI p 0 (Dia.rowP lead) = Dia.rcI p (ps ++ [q1]).length ((Dia.rowP lead).drop (ps ++ [q1]).length)) := ⟨by
                  rw [HI.out, HDR.out, if_neg (fun h => hq h.1), List.length_append, HM.out]; rfl⟩
                clear HI HDR hq
                go_wp2_with fail
                refine (HA.out _).mono ?_
                rintro e w3 ⟨rfl, hb3⟩
                have hp3 := HC.out _ (Aid.bt (Aid.bt (Aid.bt hB1 hb) hb2) hb3)
                go_wp2
                go_roundw
                case rel => exact ⟨j + q2, ps ++ [q1], by go_num, by rw [List.length_append, HM.out]; go_num, HS.out, HN, Aid.bt hb2 hb3⟩
                case measure => simp [intOf]; omega
            · have hend := Dia.upTo_end HU.out hjlt
              have HN : Aid.Hid2 (Dia.rcode1 p = Dia.rcGo p (Dia.leadL.drop (k + 1))) := ⟨by
                rw [HG2.out]
                unfold Dia.rcRow
                rw [HI.out]
                rw [HPT.out] at hend
                have e1 : Dia.rowP lead = ps := congrArg Prod.fst hend
                rw [e1, List.drop_eq_nil_of_le (by have := HM.out; omega)]
                rfl⟩
              clear hend HI
              go_wp2
              go_roundw
              case rel => exact ⟨k + 1, by omega, by go_num, HN, Aid.bt hb hb2⟩
              case measure => simp [intOf]; omega
        · obtain rfl : k = 5 := by omega
          have HN : Aid.Hid2 (Dia.rcode1 p = (-1, 0)) := ⟨HG.out⟩
          clear HG hlt
          go_wp2
          go_ret2
          rw [HD.out, HN.out]
          exact ⟨rfl, Aid.bt hB1 hb⟩

theorem Tryd.c_rcode (a : Option Addr) (l : List Int) (cap : Nat) (w : World) (hrow : Aid.RowAt w a (l.map Dia.rv)) (hl : l.length ≤ 1000000) :
    Calls Tryd.prog 12 #[.slice a l.length cap] w fun e w' => e = .returned (.tuple #[.int .i64 (Dia.rcode l).1, .int .i64 (Dia.rcode l).2]) ∧ Below w.heap.size w w' := by
  match l, hrow, hl with
  | [], _, _ =>
    go_enter Tryd.func12, Tryd.ntmps12
    go_wp2
    go_ret2
    exact ⟨rfl, Below.refl _ _⟩
  | [p], hrow, _ =>
    rcases hrow with h | ⟨b, off, rfl, h⟩
    · cases h
    · exact Tryd.c_rcode_1 b off p cap w (h 0 _ rfl)
  | p :: q :: r, hrow, hl =>
    rcases hrow with h | ⟨b, off, rfl, h⟩
    · cases h
    · exact Tryd.c_rcode_2 b off p q r cap w (h 0 _ rfl) (h 1 _ rfl) hl
end Go.Proofs
