/- the laws of layer 5, walked: SingleReads, SingleParts -/
import Derived.Test.YtfdkolodpealmaaDoorS9
namespace Go.Proofs
open Go.RowKit

/-- a charset, or none, is handed back -/
theorem Tryd.c_OfAny (c : Int) (w : World) (hT : Tryd.Tabs w) :
    Calls Tryd.prog 8 #[.int .i64 c] w fun e w' => ∃ (a : Option Addr) (n cap : Nat) (d : Int) (ok : Bool), e = .returned (.tuple #[.agg #[.slice a n cap, .int .i64 d], .bool ok]) ∧ Below w.heap.size w w' := by
  by_cases h : 0 ≤ c ∧ c ≤ 3
  · exact (Tryd.c_Of c w hT h).mono fun e w' ⟨a, cap, ls, he, _, _, hb⟩ => ⟨a, _, cap, c, true, he, hb⟩
  · exact (Tryd.c_OfNone c w (by omega) (by omega) (by omega) (by omega)).mono fun e w' ⟨he, hb⟩ => ⟨none, 0, 0, 0, false, he, hb⟩
set_option maxRecDepth 100000 in
set_option maxHeartbeats 2000000 in
theorem Tryd.w_SingleReads (c : Int) (b : ByteArray) (w : World) (hT : Tryd.Tabs w) (hs : b.size ≤ 9223372036854775807) :
    Calls Tryd.prog 4 #[.int .i64 c, .string b] w fun e w' => e = .returned (.bool true) ∧ Below w.heap.size w w' := by
  have HT : Aid.Hid2 (∀ w1, Below w.heap.size w w1 → Tryd.Tabs w1) := ⟨fun w1 hb => hT.below hb⟩
  have HA : Aid.Hid2 (∀ w1, Below w.heap.size w w1 → Calls Tryd.prog 9 #[] w1 fun e w' => e = .returned (.bool true) ∧ Below w1.heap.size w1 w') := ⟨fun w1 hb => Tryd.c_awake05 w1 (hT.below hb)⟩
  by_cases hc : 0 ≤ c ∧ c ≤ 3
  · have hc1 : decide (c < 0) = false := decide_eq_false (by omega)
    have hc2 : decide (3 < c) = false := decide_eq_false (by omega)
    by_cases hl : b.size ≤ 300
    · have dl : decide (300 < (b.size : Int)) = false := decide_eq_false (by omega)
      have HO : Aid.Hid2 (Calls Tryd.prog 8 #[.int .i64 c] w fun e w' => Dia.IsOf c (Dia.sinL c) w w' e) := ⟨Tryd.c_Of c w hT hc⟩
      obtain ⟨t, ht⟩ : ∃ t : ByteArray, t = ⟨(Dia.encs (Dia.sinD c b.data.toList)).toArray⟩ := ⟨_, rfl⟩
      have hbl : b.data.toList.length = b.size := rfl
      have htp : Dia.pts t.data.toList = (Dia.sinD c b.data.toList, -1) := by
        rw [ht]; exact Dia.pts_ok _ (Dia.sinD_sc c hc _)
      have hts : t.size ≤ 100000 := by
        have h1 := Dia.encs_le (Dia.sinD c b.data.toList)
        rw [Dia.sinD_len, hbl] at h1
        rw [ht]
        show (Dia.encs (Dia.sinD c b.data.toList)).toArray.size ≤ 100000
        rw [List.size_toArray]; omega
      have HD : Aid.Hid2 (∀ (w1 : World) (a : Option Addr) (cap : Nat) (ls : List (List Dia.Row)), Dia.T w1 a cap ls (Dia.sinL c) → Calls Tryd.prog 13 #[.agg #[.slice a ls.length cap, .int .i64 c], .string b] w1 fun e w' => e = .returned (.tuple #[.string t, .agg #[.int .i64 0, .int .i64 0]]) ∧ Below w1.heap.size w1 w') := ⟨fun w1 a cap ls h1 => by
        rw [ht]; exact Tryd.c_sDecC c b w1 hc h1 (by omega)⟩
      have HRD : Aid.Hid2 (∀ (w1 : World), Calls Tryd.prog 15 #[.int .i64 c, .string b] w1 fun e w' => e = .returned (.string t) ∧ Below w1.heap.size w1 w') := ⟨fun w1 => by
        rw [ht]; exact Tryd.c_rDecode c b w1 hc (by omega)⟩
      have HE : Aid.Hid2 (∀ (w1 : World) (a : Option Addr) (cap : Nat) (ls : List (List Dia.Row)), Below w.heap.size w w1 → Dia.T w1 a cap ls (Dia.sinL c) → Calls Tryd.prog 14 #[.agg #[.slice a ls.length cap, .int .i64 c], .string t] w1 fun e w' => e = .returned (.tuple #[.string b, .agg #[.int .i64 0, .int .i64 0]]) ∧ Below w1.heap.size w1 w') := ⟨fun w1 a cap ls hb h1 => by
        have h := Tryd.c_sEncC c t _ w1 hc htp h1 (hT.below hb) hts
        unfold Dia.IsEnc at h
        rw [Dia.sin_back hc] at h
        exact h⟩
      clear ht htp hbl hT hc
      generalize Dia.sinL c = L at *
      go_enter Tryd.func4, Tryd.ntmps4
      go_wp2_with fail
      refine HO.out.mono ?_
      rintro e w1 ⟨a1, c1, ls, rfl, hn1, ht1, hb1⟩
      have kS := heap_alloc_new w1 (.cells #[.slice a1 ls.length c1, .int .i64 c] 27)
      have hB1 := Aid.bt hb1 (Aid.b1 w1 (.cells #[.slice a1 ls.length c1, .int .i64 c] 27))
      have hT1 := ht1.below (Aid.b1 w1 (.cells #[.slice a1 ls.length c1, .int .i64 c] 27))
      clear ht1 hb1
      go_wp2_with fail
      refine (HD.out _ _ _ _ hT1).mono ?_
      rintro e w2 ⟨rfl, hb2⟩
      have kS2 := Aid.blk_alloc (o' := .cells #[.int .i64 0, .int .i64 0] 40) (Aid.blk hb2 kS)
      have kF := heap_alloc_new w2 (.cells #[.int .i64 0, .int .i64 0] 40)
      have h12 := Aid.bt hb2 (Aid.b1 w2 (.cells #[.int .i64 0, .int .i64 0] 40))
      have hB2 := Aid.bt hB1 h12
      have hT2 := hT1.below h12
      obtain ⟨p0, p1, q0, q1⟩ := Aid.two kS2
      clear hT1 h12 hb2 kS
      go_wp2_with fail
      refine (HE.out _ _ _ _ hB2 hT2).mono ?_
      rintro e w3 ⟨rfl, hb3⟩
      have kF3 := Aid.blk_alloc (o' := .cells #[.int .i64 0, .int .i64 0] 40) (Aid.blk hb3 kF)
      have kG := heap_alloc_new w3 (.cells #[.int .i64 0, .int .i64 0] 40)
      have hB3 := Aid.bt (Aid.bt hB2 hb3) (Aid.b1 w3 (.cells #[.int .i64 0, .int .i64 0] 40))
      clear hT2 hb3 kF p0 p1 q0 q1
      go_wp2_with fail
      refine (HA.out _ hB3).mono ?_
      rintro e w4 ⟨rfl, hb4⟩
      have kF4 := Aid.blk hb4 kF3
      have kG4 := Aid.blk hb4 kG
      have hB4 := Aid.bt hB3 hb4
      go_wp2_with fail
      refine (HRD.out _).mono ?_
      rintro e w5 ⟨rfl, hb5⟩
      have kF5 := Aid.blk hb5 kF4
      have kG5 := Aid.blk hb5 kG4
      have hB5 := Aid.bt hB4 hb5
      obtain ⟨p0, p1, q0, q1⟩ := Aid.two kF5
      go_wp2_with fail
      refine (Tryd.c_Bad_no _ _).mono ?_
      rintro e w6 ⟨rfl, hb6⟩
      have hB6 := Aid.bt hB5 hb6
      obtain ⟨r0, r1, s0, s1⟩ := Aid.two (Aid.blk hb6 kG5)
      go_wp2_with fail
      refine (Tryd.c_Bad_no _ _).mono ?_
      rintro e w7 ⟨rfl, hb7⟩
      go_wp2
      go_ret
      exact ⟨rfl, Aid.bt hB6 hb7⟩
    · have dl : decide (300 < (b.size : Int)) = true := decide_eq_true (by omega)
      have HO := Aid.Hid2.mk (Tryd.c_OfAny c w hT)
      clear hT hc
      go_enter Tryd.func4, Tryd.ntmps4
      go_wp2_with fail
      refine HO.out.mono ?_
      rintro e w1 ⟨a1, n1, c1, d1, ok, rfl, hb1⟩
      have hB1 := Aid.bt hb1 (Aid.b1 w1 (.cells #[.slice a1 n1 c1, .int .i64 d1] 27))
      go_wp2_with fail
      refine (HA.out _ hB1).mono ?_
      rintro e w2 ⟨rfl, hb2⟩
      go_wp2
      go_ret
      exact ⟨rfl, Aid.bt hB1 hb2⟩
  · have HO := Aid.Hid2.mk (Tryd.c_OfAny c w hT)
    by_cases hc0 : c < 0
    · have hc1 : decide (c < 0) = true := decide_eq_true hc0
      clear hT hc
      go_enter Tryd.func4, Tryd.ntmps4
      go_wp2_with fail
      refine HO.out.mono ?_
      rintro e w1 ⟨a1, n1, c1, d1, ok, rfl, hb1⟩
      have hB1 := Aid.bt hb1 (Aid.b1 w1 (.cells #[.slice a1 n1 c1, .int .i64 d1] 27))
      go_wp2_with fail
      refine (HA.out _ hB1).mono ?_
      rintro e w2 ⟨rfl, hb2⟩
      go_wp2
      go_ret
      exact ⟨rfl, Aid.bt hB1 hb2⟩
    · have hc1 : decide (c < 0) = false := decide_eq_false hc0
      have hc2 : decide (3 < c) = true := decide_eq_true (by omega)
      clear hT hc
      go_enter Tryd.func4, Tryd.ntmps4
      go_wp2_with fail
      refine HO.out.mono ?_
      rintro e w1 ⟨a1, n1, c1, d1, ok, rfl, hb1⟩
      have hB1 := Aid.bt hb1 (Aid.b1 w1 (.cells #[.slice a1 n1 c1, .int .i64 d1] 27))
      go_wp2_with fail
      refine (HA.out _ hB1).mono ?_
      rintro e w2 ⟨rfl, hb2⟩
      go_wp2
      go_ret
      exact ⟨rfl, Aid.bt hB1 hb2⟩

set_option maxRecDepth 100000 in
set_option maxHeartbeats 2000000 in
theorem Tryd.w_SingleParts (c : Int) (a b : ByteArray) (w : World) (hT : Tryd.Tabs w) (hsa : a.size ≤ 9223372036854775807) (hsb : b.size ≤ 9223372036854775807) :
    Calls Tryd.prog 6 #[.int .i64 c, .string a, .string b] w fun e w' => e = .returned (.bool true) ∧ Below w.heap.size w w' := by
  have HA : Aid.Hid2 (∀ w1, Below w.heap.size w w1 → Calls Tryd.prog 9 #[] w1 fun e w' => e = .returned (.bool true) ∧ Below w1.heap.size w1 w') := ⟨fun w1 hb => Tryd.c_awake05 w1 (hT.below hb)⟩
  by_cases hc : 0 ≤ c ∧ c ≤ 3
  · have hc1 : decide (c < 0) = false := decide_eq_false (by omega)
    have hc2 : decide (3 < c) = false := decide_eq_false (by omega)
    by_cases hl : a.size ≤ 200
    · have dl : decide (200 < (a.size : Int)) = false := decide_eq_false (by omega)
      by_cases hl2 : b.size ≤ 200
      · have dl2 : decide (200 < (b.size : Int)) = false := decide_eq_false (by omega)
        have HO : Aid.Hid2 (Calls Tryd.prog 8 #[.int .i64 c] w fun e w' => Dia.IsOf c (Dia.sinL c) w w' e) := ⟨Tryd.c_Of c w hT hc⟩
        obtain ⟨x, hx⟩ : ∃ x : ByteArray, x = ⟨(Dia.encs (Dia.sinD c a.data.toList)).toArray⟩ := ⟨_, rfl⟩
        obtain ⟨y, hy⟩ : ∃ y : ByteArray, y = ⟨(Dia.encs (Dia.sinD c b.data.toList)).toArray⟩ := ⟨_, rfl⟩
        have hxs : x.size ≤ 800 := by
          have h1 := Dia.encs_le (Dia.sinD c a.data.toList)
          rw [Dia.sinD_len, show a.data.toList.length = a.size from rfl] at h1
          rw [hx]
          show (Dia.encs (Dia.sinD c a.data.toList)).toArray.size ≤ 800
          rw [List.size_toArray]; omega
        have hys : y.size ≤ 800 := by
          have h1 := Dia.encs_le (Dia.sinD c b.data.toList)
          rw [Dia.sinD_len, show b.data.toList.length = b.size from rfl] at h1
          rw [hy]
          show (Dia.encs (Dia.sinD c b.data.toList)).toArray.size ≤ 800
          rw [List.size_toArray]; omega
        have hab : (a ++ b).data.toList = a.data.toList ++ b.data.toList := by simp
        have hz : (⟨(Dia.encs (Dia.sinD c (a ++ b).data.toList)).toArray⟩ : ByteArray) = x ++ y := by
          rw [hab, Dia.sinD_app, Dia.encs_append, hx, hy, Dia.str_app]
        have habs : (a ++ b).size ≤ 100000 := by
          show (a ++ b).data.toList.length ≤ 100000
          rw [hab, List.length_append, show a.data.toList.length = a.size from rfl, show b.data.toList.length = b.size from rfl]
          omega
        have HD : Aid.Hid2 (∀ (w1 : World) (a1 : Option Addr) (cap : Nat) (ls : List (List Dia.Row)), Dia.T w1 a1 cap ls (Dia.sinL c) → Calls Tryd.prog 13 #[.agg #[.slice a1 ls.length cap, .int .i64 c], .string a] w1 fun e w' => e = .returned (.tuple #[.string x, .agg #[.int .i64 0, .int .i64 0]]) ∧ Below w1.heap.size w1 w') := ⟨fun w1 a1 cap ls h1 => by
          rw [hx]; exact Tryd.c_sDecC c a w1 hc h1 (by omega)⟩
        have HE : Aid.Hid2 (∀ (w1 : World) (a1 : Option Addr) (cap : Nat) (ls : List (List Dia.Row)), Dia.T w1 a1 cap ls (Dia.sinL c) → Calls Tryd.prog 13 #[.agg #[.slice a1 ls.length cap, .int .i64 c], .string b] w1 fun e w' => e = .returned (.tuple #[.string y, .agg #[.int .i64 0, .int .i64 0]]) ∧ Below w1.heap.size w1 w') := ⟨fun w1 a1 cap ls h1 => by
          rw [hy]; exact Tryd.c_sDecC c b w1 hc h1 (by omega)⟩
        have HZ : Aid.Hid2 (∀ (w1 : World) (a1 : Option Addr) (cap : Nat) (ls : List (List Dia.Row)), Dia.T w1 a1 cap ls (Dia.sinL c) → Calls Tryd.prog 13 #[.agg #[.slice a1 ls.length cap, .int .i64 c], .string (a ++ b)] w1 fun e w' => e = .returned (.tuple #[.string (x ++ y), .agg #[.int .i64 0, .int .i64 0]]) ∧ Below w1.heap.size w1 w') := ⟨fun w1 a1 cap ls h1 => by
          rw [← hz]; exact Tryd.c_sDecC c (a ++ b) w1 hc h1 habs⟩
        clear hx hy hz hab habs hT hc
        generalize Dia.sinL c = L at *
        go_enter Tryd.func6, Tryd.ntmps6
        go_wp2_with fail
        refine HO.out.mono ?_
        rintro e w1 ⟨a1, c1, ls, rfl, hn1, ht1, hb1⟩
        have kS := heap_alloc_new w1 (.cells #[.slice a1 ls.length c1, .int .i64 c] 27)
        have hB1 := Aid.bt hb1 (Aid.b1 w1 (.cells #[.slice a1 ls.length c1, .int .i64 c] 27))
        have hT1 := ht1.below (Aid.b1 w1 (.cells #[.slice a1 ls.length c1, .int .i64 c] 27))
        clear ht1 hb1
        go_wp2_with fail
        refine (HD.out _ _ _ _ hT1).mono ?_
        rintro e w2 ⟨rfl, hb2⟩
        have kS2 := Aid.blk_alloc (o' := .cells #[.int .i64 0, .int .i64 0] 40) (Aid.blk hb2 kS)
        have kF := heap_alloc_new w2 (.cells #[.int .i64 0, .int .i64 0] 40)
        have h12 := Aid.bt hb2 (Aid.b1 w2 (.cells #[.int .i64 0, .int .i64 0] 40))
        have hB2 := Aid.bt hB1 h12
        have hT2 := hT1.below h12
        obtain ⟨p0, p1, q0, q1⟩ := Aid.two kS2
        clear hT1 h12 hb2 kS
        go_wp2_with fail
        refine (HE.out _ _ _ _ hT2).mono ?_
        rintro e w3 ⟨rfl, hb3⟩
        have kS3 := Aid.blk_alloc (o' := .cells #[.int .i64 0, .int .i64 0] 40) (Aid.blk hb3 kS2)
        have kF3 := Aid.blk_alloc (o' := .cells #[.int .i64 0, .int .i64 0] 40) (Aid.blk hb3 kF)
        have kG := heap_alloc_new w3 (.cells #[.int .i64 0, .int .i64 0] 40)
        have h23 := Aid.bt hb3 (Aid.b1 w3 (.cells #[.int .i64 0, .int .i64 0] 40))
        have hB3 := Aid.bt hB2 h23
        have hT3 := hT2.below h23
        clear hT2 hb3 kF p0 p1 q0 q1 h23 kS2
        obtain ⟨p0, p1, q0, q1⟩ := Aid.two kS3
        go_wp2_with fail
        refine (HZ.out _ _ _ _ hT3).mono ?_
        rintro e w4 ⟨rfl, hb4⟩
        have kF4 := Aid.blk_alloc (o' := .cells #[.int .i64 0, .int .i64 0] 40) (Aid.blk hb4 kF3)
        have kG4 := Aid.blk_alloc (o' := .cells #[.int .i64 0, .int .i64 0] 40) (Aid.blk hb4 kG)
        have kH4 := heap_alloc_new w4 (.cells #[.int .i64 0, .int .i64 0] 40)
        have hB4 := Aid.bt (Aid.bt hB3 hb4) (Aid.b1 w4 (.cells #[.int .i64 0, .int .i64 0] 40))
        clear hT3 hb4 kF3 kG kS3 p0 p1 q0 q1
        go_wp2_with fail
        refine (HA.out _ hB4).mono ?_
        rintro e w5 ⟨rfl, hb5⟩
        have kF5 := Aid.blk hb5 kF4
        have kG5 := Aid.blk hb5 kG4
        have kH5 := Aid.blk hb5 kH4
        have hB5 := Aid.bt hB4 hb5
        obtain ⟨p0, p1, q0, q1⟩ := Aid.two kF5
        go_wp2_with fail
        refine (Tryd.c_Bad_no _ _).mono ?_
        rintro e w6 ⟨rfl, hb6⟩
        have hB6 := Aid.bt hB5 hb6
        have kH6 := Aid.blk hb6 kH5
        obtain ⟨r0, r1, s0, s1⟩ := Aid.two (Aid.blk hb6 kG5)
        go_wp2_with fail
        refine (Tryd.c_Bad_no _ _).mono ?_
        rintro e w7 ⟨rfl, hb7⟩
        have hB7 := Aid.bt hB6 hb7
        obtain ⟨t0, t1, u0, u1⟩ := Aid.two (Aid.blk hb7 kH6)
        go_wp2_with fail
        refine (Tryd.c_Bad_no _ _).mono ?_
        rintro e w8 ⟨rfl, hb8⟩
        go_wp2
        go_ret
        exact ⟨rfl, Aid.bt hB7 hb8⟩
      · have dl2 : decide (200 < (b.size : Int)) = true := decide_eq_true (by omega)
        have HO := Aid.Hid2.mk (Tryd.c_OfAny c w hT)
        clear hT hc
        go_enter Tryd.func6, Tryd.ntmps6
        go_wp2_with fail
        refine HO.out.mono ?_
        rintro e w1 ⟨a1, n1, c1, d1, ok, rfl, hb1⟩
        have hB1 := Aid.bt hb1 (Aid.b1 w1 (.cells #[.slice a1 n1 c1, .int .i64 d1] 27))
        go_wp2_with fail
        refine (HA.out _ hB1).mono ?_
        rintro e w2 ⟨rfl, hb2⟩
        go_wp2
        go_ret
        exact ⟨rfl, Aid.bt hB1 hb2⟩
    · have dl : decide (200 < (a.size : Int)) = true := decide_eq_true (by omega)
      have HO := Aid.Hid2.mk (Tryd.c_OfAny c w hT)
      clear hT hc
      go_enter Tryd.func6, Tryd.ntmps6
      go_wp2_with fail
      refine HO.out.mono ?_
      rintro e w1 ⟨a1, n1, c1, d1, ok, rfl, hb1⟩
      have hB1 := Aid.bt hb1 (Aid.b1 w1 (.cells #[.slice a1 n1 c1, .int .i64 d1] 27))
      go_wp2_with fail
      refine (HA.out _ hB1).mono ?_
      rintro e w2 ⟨rfl, hb2⟩
      go_wp2
      go_ret
      exact ⟨rfl, Aid.bt hB1 hb2⟩
  · have HO := Aid.Hid2.mk (Tryd.c_OfAny c w hT)
    by_cases hc0 : c < 0
    · have hc1 : decide (c < 0) = true := decide_eq_true hc0
      clear hT hc
      go_enter Tryd.func6, Tryd.ntmps6
      go_wp2_with fail
      refine HO.out.mono ?_
      rintro e w1 ⟨a1, n1, c1, d1, ok, rfl, hb1⟩
      have hB1 := Aid.bt hb1 (Aid.b1 w1 (.cells #[.slice a1 n1 c1, .int .i64 d1] 27))
      go_wp2_with fail
      refine (HA.out _ hB1).mono ?_
      rintro e w2 ⟨rfl, hb2⟩
      go_wp2
      go_ret
      exact ⟨rfl, Aid.bt hB1 hb2⟩
    · have hc1 : decide (c < 0) = false := decide_eq_false hc0
      have hc2 : decide (3 < c) = true := decide_eq_true (by omega)
      clear hT hc
      go_enter Tryd.func6, Tryd.ntmps6
      go_wp2_with fail
      refine HO.out.mono ?_
      rintro e w1 ⟨a1, n1, c1, d1, ok, rfl, hb1⟩
      have hB1 := Aid.bt hb1 (Aid.b1 w1 (.cells #[.slice a1 n1 c1, .int .i64 d1] 27))
      go_wp2_with fail
      refine (HA.out _ hB1).mono ?_
      rintro e w2 ⟨rfl, hb2⟩
      go_wp2
      go_ret
      exact ⟨rfl, Aid.bt hB1 hb2⟩
end Go.Proofs
