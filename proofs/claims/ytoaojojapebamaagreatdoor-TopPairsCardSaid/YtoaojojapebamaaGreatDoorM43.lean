/- the laws of layer 5, walked: the document's example, SingleNone -/
import Derived.Test.YtoaojojapebamaaGreatDoorM42
namespace Go.Proofs
open Go.RowKit

theorem Dia.aw05_1 : Dia.encs (([193, 194] : List UInt8).map (Dia.sinAt 1)) = [208, 176, 208, 177] := by decide +kernel
theorem Dia.aw05_2 : Dia.pts [208, 132] = ([1028], -1) := by decide +kernel
theorem Dia.aw05_3 : Dia.encO (Dia.sinB 0) [1028] = ([], 0) := by decide +kernel
theorem Tryz.c_sDecC (c : Int) {a : Option Addr} {cap : Nat} {ls : List (List Dia.Row)} (s : ByteArray) (w : World) (h : 0 ≤ c ∧ c ≤ 3) (ht : Dia.T w a cap ls (Dia.sinL c)) (hs : s.size ≤ 100000) :
    Calls Tryz.prog 21 #[.agg #[.slice a ls.length cap, .int .i64 c], .string s] w fun e w' => e = .returned (.tuple #[.string ⟨(Dia.encs (Dia.sinD c s.data.toList)).toArray⟩, .agg #[.int .i64 0, .int .i64 0]]) ∧ Below w.heap.size w w' :=
  Tryz.c_sDec (Dia.sinAt c) c s w ht (Dia.sin_fwd h) (Dia.sinAt_sc c h) hs
theorem Tryz.c_sEncC (c : Int) {a : Option Addr} {cap : Nat} {ls : List (List Dia.Row)} (s : ByteArray) (ps : List Int) (w : World) (h : 0 ≤ c ∧ c ≤ 3) (hps : Dia.pts s.data.toList = (ps, -1)) (ht : Dia.T w a cap ls (Dia.sinL c)) (hT : Tryz.Tabs w) (hs : s.size ≤ 100000) :
    Calls Tryz.prog 18 #[.agg #[.slice a ls.length cap, .int .i64 c], .string s] w fun e w' => Dia.IsEnc (Dia.encO (Dia.sinB c) ps) w w' e :=
  Tryz.c_sEnc_ok (Dia.sinB c) c s ps w hps ht hT (Dia.sin_rev c) (fun p => (Dia.sinB_lt h p).2) hs
set_option maxRecDepth 100000 in
set_option maxHeartbeats 2000000 in
theorem Tryz.c_Awake05 (w : World) (hT : Tryz.Tabs w) :
    Calls Tryz.prog 13 #[] w fun e w' => e = .returned (.bool true) ∧ Below w.heap.size w w' := by
  have HT : Aid.Hid2 (∀ w1, Below w.heap.size w w1 → Tryz.Tabs w1) := ⟨fun w1 hb => hT.below hb⟩
  have HO1 : Aid.Hid2 (Calls Tryz.prog 17 #[.int .i64 1] w fun e w' => Dia.IsOf 1 (Dia.sinL 1) w w' e) := ⟨Tryz.c_Of 1 w hT ⟨by decide, by decide⟩⟩
  have HO0 : Aid.Hid2 (∀ w1, Below w.heap.size w w1 → Calls Tryz.prog 17 #[.int .i64 0] w1 fun e w' => Dia.IsOf 0 (Dia.sinL 0) w1 w' e) := ⟨fun w1 hb => Tryz.c_Of 0 w1 (hT.below hb) ⟨by decide, by decide⟩⟩
  have HD : Aid.Hid2 (∀ (w1 : World) (a : Option Addr) (cap : Nat) (ls : List (List Dia.Row)), Dia.T w1 a cap ls (Dia.sinL 1) → Calls Tryz.prog 21 #[.agg #[.slice a ls.length cap, .int .i64 1], .string ⟨#[193, 194]⟩] w1 fun e w' => e = .returned (.tuple #[.string ⟨#[208, 176, 208, 177]⟩, .agg #[.int .i64 0, .int .i64 0]]) ∧ Below w1.heap.size w1 w') := ⟨fun w1 a cap ls ht => by
    have h := Tryz.c_sDecC 1 ⟨#[193, 194]⟩ w1 ⟨by decide, by decide⟩ ht (by decide)
    have e : Dia.sinD 1 (⟨#[193, 194]⟩ : ByteArray).data.toList = ([193, 194] : List UInt8).map (Dia.sinAt 1) := rfl
    rw [e, Dia.aw05_1] at h
    exact h⟩
  have HE : Aid.Hid2 (∀ (w1 : World) (a : Option Addr) (cap : Nat) (ls : List (List Dia.Row)), Below w.heap.size w w1 → Dia.T w1 a cap ls (Dia.sinL 0) → Calls Tryz.prog 18 #[.agg #[.slice a ls.length cap, .int .i64 0], .string ⟨#[208, 132]⟩] w1 fun e w' => e = .returned (.tuple #[.string ⟨#[]⟩, .agg #[.int .i64 6, .int .i64 0]]) ∧ Below w1.heap.size w1 w') := ⟨fun w1 a cap ls hb ht => by
    have h := Tryz.c_sEncC 0 ⟨#[208, 132]⟩ [1028] w1 ⟨by decide, by decide⟩ Dia.aw05_2 ht (hT.below hb) (by decide)
    unfold Dia.IsEnc at h
    rw [Dia.aw05_3] at h
    exact h⟩
  clear hT
  generalize Dia.sinL 1 = L1 at *
  generalize Dia.sinL 0 = L0 at *
  go_enter Tryz.func13, Tryz.ntmps13
  go_wp2_with fail
  refine HO1.out.mono ?_
  rintro e w1 ⟨a1, c1, ls1, rfl, hn1, ht1, hb1⟩
  have k1 := heap_alloc_new w1 (.cells #[.slice a1 ls1.length c1, .int .i64 1] 45)
  have hB1 := Aid.bt hb1 (Aid.b1 w1 (.cells #[.slice a1 ls1.length c1, .int .i64 1] 45))
  go_wp2_with fail
  refine (HD.out _ _ _ _ (ht1.below (Aid.b1 _ _))).mono ?_
  rintro e w2 ⟨rfl, hb2⟩
  have hB2 := Aid.bt hB1 hb2
  have kF := heap_alloc_new w2 (.cells #[.int .i64 0, .int .i64 0] 26)
  have hB2' := Aid.bt hB2 (Aid.b1 w2 (.cells #[.int .i64 0, .int .i64 0] 26))
  clear k1 ht1 hb1 hb2 hB1 hB2
  go_wp2_with fail
  refine (HO0.out _ hB2').mono ?_
  rintro e w3 ⟨a2, c2, ls2, rfl, hn2, ht2, hb3⟩
  have kF3 := Aid.blk_alloc (o' := .cells #[.slice a2 ls2.length c2, .int .i64 0] 45) (Aid.blk hb3 kF)
  have hB3 := Aid.bt (Aid.bt hB2' hb3) (Aid.b1 w3 (.cells #[.slice a2 ls2.length c2, .int .i64 0] 45))
  clear kF hb3 hB2'
  go_wp2_with fail
  refine (HE.out _ _ _ _ hB3 (ht2.below (Aid.b1 _ _))).mono ?_
  rintro e w4 ⟨rfl, hb4⟩
  have kF4 := Aid.blk_alloc (o' := .cells #[.int .i64 6, .int .i64 0] 26) (Aid.blk hb4 kF3)
  have kG4 := heap_alloc_new w4 (.cells #[.int .i64 6, .int .i64 0] 26)
  have hB4 := Aid.bt (Aid.bt hB3 hb4) (Aid.b1 w4 (.cells #[.int .i64 6, .int .i64 0] 26))
  clear kF3 hB3 hb4 ht2
  go_wp2_with fail
  refine (Tryz.c_Awake02 _ (HT.out _ hB4)).mono ?_
  rintro e w5 ⟨rfl, hb5⟩
  have hB5 := Aid.bt hB4 hb5
  have kF5 := Aid.blk hb5 kF4
  have kG5 := Aid.blk hb5 kG4
  clear kF4 kG4 hb5 hB4
  go_wp2_with fail
  refine (Tryz.c_Awake04 _ (HT.out _ hB5)).mono ?_
  rintro e w6 ⟨rfl, hb6⟩
  have hB6 := Aid.bt hB5 hb6
  have kF6 := Aid.blk hb6 kF5
  have kG6 := Aid.blk hb6 kG5
  clear kF5 kG5 hb6 hB5
  obtain ⟨p0, p1, q0, q1⟩ := Aid.two kF6
  go_wp2_with fail
  refine (Tryz.c_Bad_no _ _).mono ?_
  rintro e w7 ⟨rfl, hb7⟩
  have hB7 := Aid.bt hB6 hb7
  obtain ⟨r0, r1, s0, s1⟩ := Aid.two (Aid.blk hb7 kG6)
  go_wp2
  go_ret
  exact ⟨rfl, hB7⟩
end Go.Proofs
