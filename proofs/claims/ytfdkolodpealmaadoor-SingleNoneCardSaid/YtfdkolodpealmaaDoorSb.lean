/- the laws of layer 5, walked: SingleWrites -/
import Derived.Test.YtfdkolodpealmaaDoorSa
namespace Go.Proofs
open Go.RowKit

theorem Tryd.s_Fault_at (x : Int) (w : World) (h : 0 ≤ x) :
    Calls Tryd.prog 18 #[.int .i64 x] w fun e w' => e = .returned (.agg #[.int .i64 2, .int .i64 x]) ∧ Below w.heap.size w w' :=
  (Tryd.c_Fault x w).mono fun e w' ⟨a, b, he, ⟨h1, h2⟩, hb⟩ => ⟨by rw [he, h1, h2, if_neg (by omega), if_neg (by omega)], hb⟩
theorem Dia.pts_back {t : ByteArray} {ps : List Int} (h : Dia.pts t.data.toList = (ps, -1)) : t = ⟨(Dia.encs ps).toArray⟩ := by
  rcases Dia.pts_cases t.data.toList with ⟨qs, h1, h2, h3⟩ | ⟨qs, r, h1, h2, h3, h4, h5⟩
  · rw [h] at h3
    have e : ps = qs := congrArg Prod.fst h3
    have h6 : t.data = (Dia.encs qs).toArray := by rw [← h2]
    rw [e, ← h6]
  · rw [h] at h5
    have := congrArg Prod.snd h5
    simp only at this
    omega
set_option maxRecDepth 100000 in
set_option maxHeartbeats 2000000 in
theorem Tryd.w_SingleWrites_bad (c : Int) (t : ByteArray) (x : Int) (w : World) (hT : Tryd.Tabs w) (hc : 0 ≤ c ∧ c ≤ 3) (hl : t.size ≤ 300) (hp : Dia.pts t.data.toList = ([], x)) (hx : 0 ≤ x) :
    Calls Tryd.prog 5 #[.int .i64 c, .string t] w fun e w' => e = .returned (.bool true) ∧ Below w.heap.size w w' := by
  have HA : Aid.Hid2 (∀ w1, Below w.heap.size w w1 → Calls Tryd.prog 9 #[] w1 fun e w' => e = .returned (.bool true) ∧ Below w1.heap.size w1 w') := ⟨fun w1 hb => Tryd.c_awake05 w1 (hT.below hb)⟩
  have hc1 : decide (c < 0) = false := decide_eq_false (by omega)
  have hc2 : decide (3 < c) = false := decide_eq_false (by omega)
  have dl : decide (300 < (t.size : Int)) = false := decide_eq_false (by omega)
  have dx : decide (0 ≤ x) = true := decide_eq_true hx
  have HO : Aid.Hid2 (Calls Tryd.prog 8 #[.int .i64 c] w fun e w' => Dia.IsOf c (Dia.sinL c) w w' e) := ⟨Tryd.c_Of c w hT hc⟩
  have HE : Aid.Hid2 (∀ (w1 : World) (a : Option Addr) (n cap : Nat), Below w.heap.size w w1 → Calls Tryd.prog 14 #[.agg #[.slice a n cap, .int .i64 c], .string t] w1 fun e w' => e = .returned (.tuple #[.string ⟨#[]⟩, .agg #[.int .i64 2, .int .i64 x]]) ∧ Below w1.heap.size w1 w') := ⟨fun w1 a n cap hb => Tryd.c_sEnc_bad c x t w1 hp hx (hT.below hb) (by omega)⟩
  have HP : Aid.Hid2 (∀ (w1 : World), Calls Tryd.prog 17 #[.string t] w1 fun e w' => ∃ (aa : Option Addr) (cap : Nat), e = .returned (.tuple #[.slice aa 0 cap, .int .i64 x]) ∧ Below w1.heap.size w1 w') := ⟨fun w1 => (Tryd.c_refPoints t w1 (by omega)).mono fun e w' h => by
    unfold Dia.IsRefPoints at h
    rw [hp] at h
    obtain ⟨aa, cap, he, _, hb⟩ := h
    exact ⟨aa, cap, he, hb⟩⟩
  clear hp hT hc
  generalize Dia.sinL c = L at *
  go_enter Tryd.func5, Tryd.ntmps5
  go_wp2_with fail
  refine HO.out.mono ?_
  rintro e w1 ⟨a1, c1, ls, rfl, hn1, ht1, hb1⟩
  have hB1 := Aid.bt hb1 (Aid.b1 w1 (.cells #[.slice a1 ls.length c1, .int .i64 c] 27))
  clear ht1 hb1
  go_wp2_with fail
  refine (HE.out _ _ _ _ hB1).mono ?_
  rintro e w2 ⟨rfl, hb2⟩
  have kF := heap_alloc_new w2 (.cells #[.int .i64 2, .int .i64 x] 40)
  have hB2 := Aid.bt (Aid.bt hB1 hb2) (Aid.b1 w2 (.cells #[.int .i64 2, .int .i64 x] 40))
  clear hB1 hb2
  go_wp2_with fail
  refine (HP.out _).mono ?_
  rintro e w3 ⟨aa, ca, rfl, hb3⟩
  have kF3 := Aid.blk hb3 kF
  have hB3 := Aid.bt hB2 hb3
  obtain ⟨p0, p1, q0, q1⟩ := Aid.two kF3
  clear hb3 hB2 kF
  go_wp2_with fail
  go_region_held3 (fun w' => w'.cell? ⟨w2.heap.size, 0, none⟩ = some (.int .i64 2) ∧ w'.cell? ⟨w2.heap.size, 1, none⟩ = some (.int .i64 x) ∧ Below w3.heap.size w3 w')
    (first | exact ⟨p0, p1, (Below.refl _ _).drew⟩ | (go_split_ands; exact ⟨Aid.cell_ext (Aid.bt (by assumption) hbx) p0, Aid.cell_ext (Aid.bt (by assumption) hbx) p1, Aid.bt (by assumption) hbx⟩))
    (first
      | (go_at_call 18; refine (Tryd.s_Fault_at x _ hx).mono ?_; rintro e wx ⟨rfl, hbx⟩)
      | (go_at_call 9; go_split_ands; refine (HA.out _ (Aid.bt hB3 (by assumption))).mono ?_; rintro e wx ⟨rfl, hbx⟩))
  all_goals
    go_split_ands
    go_wp2
    go_ret
    exact ⟨rfl, Aid.bt hB3 (by assumption)⟩
/-- the call's first part: the charset, the text's bytes and signs, and what the reference says -/
theorem Dia.encO_cases (B : Int → Int) (ps : List Int) : (∃ m : Nat, Dia.encO B ps = ([], (m : Int))) ∨ ∃ R, Dia.encO B ps = (R, -1) := by
  unfold Dia.encO
  split
  · exact .inr ⟨_, rfl⟩
  · exact .inl ⟨_, rfl⟩
set_option maxRecDepth 100000 in
set_option maxHeartbeats 2000000 in
theorem Tryd.w_SingleWrites_none (c : Int) (t : ByteArray) (ps : List Int) (m : Nat) (w : World) (hT : Tryd.Tabs w) (hc : 0 ≤ c ∧ c ≤ 3) (hl : t.size ≤ 300) (hp : Dia.pts t.data.toList = (ps, -1)) (hO : Dia.encO (Dia.sinB c) ps = ([], (m : Int))) :
    Calls Tryd.prog 5 #[.int .i64 c, .string t] w fun e w' => e = .returned (.bool true) ∧ Below w.heap.size w w' := by
  have HA : Aid.Hid2 (∀ w1, Below w.heap.size w w1 → Calls Tryd.prog 9 #[] w1 fun e w' => e = .returned (.bool true) ∧ Below w1.heap.size w1 w') := ⟨fun w1 hb => Tryd.c_awake05 w1 (hT.below hb)⟩
  have hc1 : decide (c < 0) = false := decide_eq_false (by omega)
  have hc2 : decide (3 < c) = false := decide_eq_false (by omega)
  have dl : decide (300 < (t.size : Int)) = false := decide_eq_false (by omega)
  have hpl : ps.length ≤ t.size := by
    have h1 := Dia.pts_len t.data.toList
    rw [hp] at h1
    exact h1
  have hsc : ∀ p ∈ ps, Dia.sc p = true := by
    have := Dia.s_pts_sc t.data.toList
    rw [hp] at this
    exact this
  have HO : Aid.Hid2 (Calls Tryd.prog 8 #[.int .i64 c] w fun e w' => Dia.IsOf c (Dia.sinL c) w w' e) := ⟨Tryd.c_Of c w hT hc⟩
  have HE : Aid.Hid2 (∀ (w1 : World) (a : Option Addr) (cap : Nat) (ls : List (List Dia.Row)), Below w.heap.size w w1 → Dia.T w1 a cap ls (Dia.sinL c) → Calls Tryd.prog 14 #[.agg #[.slice a ls.length cap, .int .i64 c], .string t] w1 fun e w' => e = .returned (.tuple #[.string ⟨#[]⟩, .agg #[.int .i64 6, .int .i64 m]]) ∧ Below w1.heap.size w1 w') := ⟨fun w1 a cap ls hb h1 => by
    have h := Tryd.c_sEncC c t ps w1 hc hp h1 (hT.below hb) (by omega)
    unfold Dia.IsEnc at h
    rw [hO, if_neg (show ¬ (m : Int) < 0 by omega), if_neg (show ¬ (m : Int) < 0 by omega)] at h
    exact h⟩
  have HP : Aid.Hid2 (∀ (w1 : World), Calls Tryd.prog 17 #[.string t] w1 fun e w' => ∃ (aa : Option Addr) (cap : Nat), e = .returned (.tuple #[.slice aa ps.length cap, .int .i64 (-1)]) ∧ Aid.RowAt w' aa (ps.map Dia.rv) ∧ Below w1.heap.size w1 w') := ⟨fun w1 => (Tryd.c_refPoints t w1 (by omega)).mono fun e w' h => by
    unfold Dia.IsRefPoints at h
    rw [hp] at h
    exact h⟩
  have HRE : Aid.Hid2 (∀ (w1 : World) (aa : Option Addr) (cap : Nat), Aid.RowAt w1 aa (ps.map Dia.rv) → Calls Tryd.prog 19 #[.int .i64 c, .slice aa ps.length cap] w1 fun e w' => e = .returned (.tuple #[.string ⟨#[]⟩, .int .i64 m]) ∧ Below w1.heap.size w1 w') := ⟨fun w1 aa cap hr => by
    have h := Tryd.c_rEncode c aa ps cap w1 hc hr (by omega) hsc
    rw [hO] at h
    exact h⟩
  have dm : decide (0 ≤ (m : Int)) = true := decide_eq_true (by omega)
  clear hp hT hc hO hsc
  generalize Dia.sinL c = L at *
  go_enter Tryd.func5, Tryd.ntmps5
  go_wp2_with fail
  refine HO.out.mono ?_
  rintro e w1 ⟨a1, c1, ls, rfl, hn1, ht1, hb1⟩
  have hB1 := Aid.bt hb1 (Aid.b1 w1 (.cells #[.slice a1 ls.length c1, .int .i64 c] 27))
  have hT1 := ht1.below (Aid.b1 w1 (.cells #[.slice a1 ls.length c1, .int .i64 c] 27))
  clear ht1 hb1
  go_wp2_with fail
  refine (HE.out _ _ _ _ hB1 hT1).mono ?_
  rintro e w2 ⟨rfl, hb2⟩
  have kF := heap_alloc_new w2 (.cells #[.int .i64 6, .int .i64 m] 40)
  have hB2 := Aid.bt (Aid.bt hB1 hb2) (Aid.b1 w2 (.cells #[.int .i64 6, .int .i64 m] 40))
  clear hB1 hb2 hT1
  go_wp2_with fail
  refine (HP.out _).mono ?_
  rintro e w3 ⟨aa, ca, rfl, hr, hb3⟩
  have kF3 := Aid.blk hb3 kF
  have hB3 := Aid.bt hB2 hb3
  clear hb3 hB2 kF
  go_wp2_with fail
  refine (HRE.out _ _ _ hr).mono ?_
  rintro e w4 ⟨rfl, hb4⟩
  have kF4 := Aid.blk hb4 kF3
  have hB4 := Aid.bt hB3 hb4
  go_wp2_with fail
  refine (HA.out _ hB4).mono ?_
  rintro e w5 ⟨rfl, hb5⟩
  obtain ⟨p0, p1, q0, q1⟩ := Aid.two (Aid.blk hb5 kF4)
  go_wp2
  go_ret
  exact ⟨rfl, Aid.bt hB4 hb5⟩
set_option maxRecDepth 100000 in
set_option maxHeartbeats 2000000 in
theorem Tryd.w_SingleWrites_all (c : Int) (t : ByteArray) (ps : List Int) (R : List UInt8) (w : World) (hT : Tryd.Tabs w) (hc : 0 ≤ c ∧ c ≤ 3) (hl : t.size ≤ 300) (hp : Dia.pts t.data.toList = (ps, -1)) (hO : Dia.encO (Dia.sinB c) ps = (R, -1)) :
    Calls Tryd.prog 5 #[.int .i64 c, .string t] w fun e w' => e = .returned (.bool true) ∧ Below w.heap.size w w' := by
  have HA : Aid.Hid2 (∀ w1, Below w.heap.size w w1 → Calls Tryd.prog 9 #[] w1 fun e w' => e = .returned (.bool true) ∧ Below w1.heap.size w1 w') := ⟨fun w1 hb => Tryd.c_awake05 w1 (hT.below hb)⟩
  have hc1 : decide (c < 0) = false := decide_eq_false (by omega)
  have hc2 : decide (3 < c) = false := decide_eq_false (by omega)
  have dl : decide (300 < (t.size : Int)) = false := decide_eq_false (by omega)
  have hpl : ps.length ≤ t.size := by
    have h1 := Dia.pts_len t.data.toList
    rw [hp] at h1
    exact h1
  have hsc : ∀ p ∈ ps, Dia.sc p = true := by
    have := Dia.s_pts_sc t.data.toList
    rw [hp] at this
    exact this
  have hback := Dia.pts_back hp
  have hforth := Dia.sin_forth hc hO
  obtain ⟨b, hb⟩ : ∃ b : ByteArray, b = ⟨R.toArray⟩ := ⟨_, rfl⟩
  have hbs : b.size ≤ 100000 := by
    have h1 := Dia.encO_len (Dia.sinB c) ps
    rw [hO] at h1
    rw [hb]
    show R.toArray.size ≤ 100000
    rw [List.size_toArray]
    simp only at h1
    omega
  have HO : Aid.Hid2 (Calls Tryd.prog 8 #[.int .i64 c] w fun e w' => Dia.IsOf c (Dia.sinL c) w w' e) := ⟨Tryd.c_Of c w hT hc⟩
  have HE : Aid.Hid2 (∀ (w1 : World) (a : Option Addr) (cap : Nat) (ls : List (List Dia.Row)), Below w.heap.size w w1 → Dia.T w1 a cap ls (Dia.sinL c) → Calls Tryd.prog 14 #[.agg #[.slice a ls.length cap, .int .i64 c], .string t] w1 fun e w' => e = .returned (.tuple #[.string b, .agg #[.int .i64 0, .int .i64 0]]) ∧ Below w1.heap.size w1 w') := ⟨fun w1 a cap ls hb1 h1 => by
    have h := Tryd.c_sEncC c t ps w1 hc hp h1 (hT.below hb1) (by omega)
    unfold Dia.IsEnc at h
    rw [hO] at h
    rw [hb]
    exact h⟩
  have HP : Aid.Hid2 (∀ (w1 : World), Calls Tryd.prog 17 #[.string t] w1 fun e w' => ∃ (aa : Option Addr) (cap : Nat), e = .returned (.tuple #[.slice aa ps.length cap, .int .i64 (-1)]) ∧ Aid.RowAt w' aa (ps.map Dia.rv) ∧ Below w1.heap.size w1 w') := ⟨fun w1 => (Tryd.c_refPoints t w1 (by omega)).mono fun e w' h => by
    unfold Dia.IsRefPoints at h
    rw [hp] at h
    exact h⟩
  have HRE : Aid.Hid2 (∀ (w1 : World) (aa : Option Addr) (cap : Nat), Aid.RowAt w1 aa (ps.map Dia.rv) → Calls Tryd.prog 19 #[.int .i64 c, .slice aa ps.length cap] w1 fun e w' => e = .returned (.tuple #[.string b, .int .i64 (-1)]) ∧ Below w1.heap.size w1 w') := ⟨fun w1 aa cap hr => by
    have h := Tryd.c_rEncode c aa ps cap w1 hc hr (by omega) hsc
    rw [hO] at h
    rw [hb]
    exact h⟩
  have HD : Aid.Hid2 (∀ (w1 : World) (a : Option Addr) (cap : Nat) (ls : List (List Dia.Row)), Dia.T w1 a cap ls (Dia.sinL c) → Calls Tryd.prog 13 #[.agg #[.slice a ls.length cap, .int .i64 c], .string b] w1 fun e w' => e = .returned (.tuple #[.string t, .agg #[.int .i64 0, .int .i64 0]]) ∧ Below w1.heap.size w1 w') := ⟨fun w1 a cap ls h1 => by
    have h := Tryd.c_sDecC c b w1 hc h1 hbs
    have e : b.data.toList = R := by rw [hb]
    rw [e, hforth, ← hback] at h
    exact h⟩
  clear hp hT hc hO hsc hback hforth hb
  generalize Dia.sinL c = L at *
  go_enter Tryd.func5, Tryd.ntmps5
  go_wp2_with fail
  refine HO.out.mono ?_
  rintro e w1 ⟨a1, c1, ls, rfl, hn1, ht1, hb1⟩
  have kS := heap_alloc_new w1 (.cells #[.slice a1 ls.length c1, .int .i64 c] 27)
  have hB1 := Aid.bt hb1 (Aid.b1 w1 (.cells #[.slice a1 ls.length c1, .int .i64 c] 27))
  have hT1 := ht1.below (Aid.b1 w1 (.cells #[.slice a1 ls.length c1, .int .i64 c] 27))
  clear ht1 hb1
  go_wp2_with fail
  refine (HE.out _ _ _ _ hB1 hT1).mono ?_
  rintro e w2 ⟨rfl, hb2⟩
  have kS2 := Aid.blk_alloc (o' := .cells #[.int .i64 0, .int .i64 0] 40) (Aid.blk hb2 kS)
  have kF := heap_alloc_new w2 (.cells #[.int .i64 0, .int .i64 0] 40)
  have h12 := Aid.bt hb2 (Aid.b1 w2 (.cells #[.int .i64 0, .int .i64 0] 40))
  have hB2 := Aid.bt hB1 h12
  have hT2 := hT1.below h12
  clear hB1 hb2 hT1 h12 kS
  go_wp2_with fail
  refine (HP.out _).mono ?_
  rintro e w3 ⟨aa, ca, rfl, hr, hb3⟩
  have kS3 := Aid.blk hb3 kS2
  have kF3 := Aid.blk hb3 kF
  have hB3 := Aid.bt hB2 hb3
  have hT3 := hT2.below hb3
  clear hb3 hB2 kF kS2 hT2
  go_wp2_with fail
  refine (HRE.out _ _ _ hr).mono ?_
  rintro e w4 ⟨rfl, hb4⟩
  have kS4 := Aid.blk hb4 kS3
  have kF4 := Aid.blk hb4 kF3
  have hB4 := Aid.bt hB3 hb4
  have hT4 := hT3.below hb4
  clear hb4 hB3 kF3 kS3 hT3 hr
  obtain ⟨s0, s1, u0, u1⟩ := Aid.two kS4
  go_wp2_with fail
  refine (HD.out _ _ _ _ hT4).mono ?_
  rintro e w5 ⟨rfl, hb5⟩
  have kF5 := Aid.blk_alloc (o' := .cells #[.int .i64 0, .int .i64 0] 40) (Aid.blk hb5 kF4)
  have kG := heap_alloc_new w5 (.cells #[.int .i64 0, .int .i64 0] 40)
  have hB5 := Aid.bt (Aid.bt hB4 hb5) (Aid.b1 w5 (.cells #[.int .i64 0, .int .i64 0] 40))
  clear hb5 hB4 kF4 kS4 hT4 s0 s1 u0 u1
  go_wp2_with fail
  refine (HA.out _ hB5).mono ?_
  rintro e w6 ⟨rfl, hb6⟩
  have kG6 := Aid.blk hb6 kG
  have hB6 := Aid.bt hB5 hb6
  obtain ⟨p0, p1, q0, q1⟩ := Aid.two (Aid.blk hb6 kF5)
  go_wp2_with fail
  refine (Tryd.c_Bad_no _ _).mono ?_
  rintro e w7 ⟨rfl, hb7⟩
  obtain ⟨r0, r1, t0, t1⟩ := Aid.two (Aid.blk hb7 kG6)
  go_wp2_with fail
  refine (Tryd.c_Bad_no _ _).mono ?_
  rintro e w8 ⟨rfl, hb8⟩
  go_wp2
  go_ret
  exact ⟨rfl, Aid.bt (Aid.bt hB6 hb7) hb8⟩
set_option maxRecDepth 100000 in
set_option maxHeartbeats 2000000 in
theorem Tryd.w_SingleWrites (c : Int) (t : ByteArray) (w : World) (hT : Tryd.Tabs w) (hs : t.size ≤ 9223372036854775807) :
    Calls Tryd.prog 5 #[.int .i64 c, .string t] w fun e w' => e = .returned (.bool true) ∧ Below w.heap.size w w' := by
  have HA : Aid.Hid2 (∀ w1, Below w.heap.size w w1 → Calls Tryd.prog 9 #[] w1 fun e w' => e = .returned (.bool true) ∧ Below w1.heap.size w1 w') := ⟨fun w1 hb => Tryd.c_awake05 w1 (hT.below hb)⟩
  by_cases hc : 0 ≤ c ∧ c ≤ 3
  · by_cases hl : t.size ≤ 300
    · rcases Dia.pts_cases t.data.toList with ⟨ps, h1, h2, h3⟩ | ⟨ps, r, h1, h2, h3, h4, h5⟩
      · rcases Dia.encO_cases (Dia.sinB c) ps with ⟨m, hm⟩ | ⟨R, hR⟩
        · exact Tryd.w_SingleWrites_none c t ps m w hT hc hl h3 hm
        · exact Tryd.w_SingleWrites_all c t ps R w hT hc hl h3 hR
      · exact Tryd.w_SingleWrites_bad c t _ w hT hc hl h5 (by omega)
    · have hc1 : decide (c < 0) = false := decide_eq_false (by omega)
      have hc2 : decide (3 < c) = false := decide_eq_false (by omega)
      have dl : decide (300 < (t.size : Int)) = true := decide_eq_true (by omega)
      have HO := Aid.Hid2.mk (Tryd.c_OfAny c w hT)
      clear hT hc
      go_enter Tryd.func5, Tryd.ntmps5
      go_wp2_with fail
      refine HO.out.mono ?_
      rintro e w1 ⟨a1, n1, c1, d1, ok, rfl, hb1⟩
      have hB1 := Aid.bt hb1 (Aid.b1 w1 (.cells #[.slice a1 n1 c1, .int .i64 d1] 27))
      go_wp2_with fail
      refine (HA.out _ hB1).mono ?_
      rintro e w2 ⟨rfl, hb2⟩
      go_wp2
      go_ret
      exact ⟨rfl, Aid.bt hB1 hb2⟩
  · have HO := Aid.Hid2.mk (Tryd.c_OfAny c w hT)
    by_cases hc0 : c < 0
    · have hc1 : decide (c < 0) = true := decide_eq_true hc0
      clear hT hc
      go_enter Tryd.func5, Tryd.ntmps5
      go_wp2_with fail
      refine HO.out.mono ?_
      rintro e w1 ⟨a1, n1, c1, d1, ok, rfl, hb1⟩
      have hB1 := Aid.bt hb1 (Aid.b1 w1 (.cells #[.slice a1 n1 c1, .int .i64 d1] 27))
      go_wp2_with fail
      refine (HA.out _ hB1).mono ?_
      rintro e w2 ⟨rfl, hb2⟩
      go_wp2
      go_ret
      exact ⟨rfl, Aid.bt hB1 hb2⟩
    · have hc1 : decide (c < 0) = false := decide_eq_false hc0
      have hc2 : decide (3 < c) = true := decide_eq_true (by omega)
      clear hT hc
      go_enter Tryd.func5, Tryd.ntmps5
      go_wp2_with fail
      refine HO.out.mono ?_
      rintro e w1 ⟨a1, n1, c1, d1, ok, rfl, hb1⟩
      have hB1 := Aid.bt hb1 (Aid.b1 w1 (.cells #[.slice a1 n1 c1, .int .i64 d1] 27))
      go_wp2_with fail
      refine (HA.out _ hB1).mono ?_
      rintro e w2 ⟨rfl, hb2⟩
      go_wp2
      go_ret
      exact ⟨rfl, Aid.bt hB1 hb2⟩
end Go.Proofs
