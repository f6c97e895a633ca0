/- walks of single: Of -/
import Derived.Test.YtfdkolodpealmaaDoorS3
namespace Go.Proofs
open Go.RowKit

set_option maxRecDepth 100000 in
theorem Dia.sinP0_in : ∀ p ∈ Dia.sinP0, p.In := by
  intro p hp
  simp only [Dia.sinP0, List.mem_cons, List.not_mem_nil, or_false] at hp
  rcases hp with rfl
  exact ⟨by decide +kernel, by decide +kernel, by decide +kernel, by decide +kernel, by decide +kernel, by decide +kernel, by decide +kernel⟩
set_option maxRecDepth 100000 in
theorem Dia.sinP1_in : ∀ p ∈ Dia.sinP1, p.In := by
  intro p hp
  simp only [Dia.sinP1, List.mem_cons, List.not_mem_nil, or_false] at hp
  rcases hp with rfl | rfl <;> exact ⟨by decide +kernel, by decide +kernel, by decide +kernel, by decide +kernel, by decide +kernel, by decide +kernel, by decide +kernel⟩
set_option maxRecDepth 100000 in
theorem Dia.sinP3_in : ∀ p ∈ Dia.sinP3, p.In := by
  intro p hp
  simp only [Dia.sinP3, List.mem_cons, List.not_mem_nil, or_false] at hp
  rcases hp with rfl | rfl | rfl | rfl | rfl <;> exact ⟨by decide +kernel, by decide +kernel, by decide +kernel, by decide +kernel, by decide +kernel, by decide +kernel, by decide +kernel⟩
/-- a charset is handed back -/
def Dia.IsOf (c : Int) (l : List (Int × Int)) (w w' : World) (e : Ending) : Prop :=
  ∃ (a : Option Addr) (cap : Nat) (ls : List (List Dia.Row)), e = .returned (.tuple #[.agg #[.slice a ls.length cap, .int .i64 c], .bool true]) ∧ ls.length ≤ 4 ∧ Dia.T w' a cap ls l ∧ Below w.heap.size w w'
set_option maxRecDepth 100000 in
set_option maxHeartbeats 1000000 in
theorem Tryd.c_Of0 (w : World) (hT : Tryd.Tabs w) :
    Calls Tryd.prog 8 #[.int .i64 0] w fun e w' => Dia.IsOf 0 (Dia.sinL 0) w w' e := by
  have HS : Aid.Hid2 (∀ w1, Below w.heap.size w w1 → Calls Tryd.prog 20 #[.int .i64 0, .slice (some ⟨w1.heap.size, 0, none⟩) 1 1] (w1.alloc (.cells #[.int .i64 0, .int .i32 0, .int .i64 256, .string ⟨#[]⟩] 55)) fun e w' => Dia.IsSet 0 (Dia.sinL 0) w1 w' e) :=
    ⟨fun w1 hb => Tryd.c_set1 1 0 Dia.sinP0 _ _ w1 rfl rfl (by decide) Dia.sinP0_in (by rw [Dia.sinL_len ⟨by decide, by decide⟩]; decide) Dia.sin_made0 (hT.below hb)⟩
  clear hT
  generalize Dia.sinL 0 = L at *
  go_enter Tryd.func8, Tryd.ntmps8
  go_wp2_with fail
  refine (Tryd.c_Seq _ _ _ _).mono ?_
  rintro e w1 ⟨rfl, hb⟩
  have hB : Below w.heap.size w w1 := (Aid.b1 _ _).trans (hb.mono (by simp))
  have k0 := Aid.blk hb (heap_alloc_new w _)
  clear hb
  go_wp2_with fail
  refine (HS.out _ hB).mono ?_
  rintro e w2 ⟨x, cap, ls, rfl, hn1, ht, hb2⟩
  have k1 := Aid.blk hb2 k0
  obtain ⟨p0, p1, q0, q1⟩ := Aid.two k1
  have hB2 := Aid.bt hB hb2
  go_wp2
  exact bodyPost_ret (v := .tuple #[.agg #[.slice x ls.length cap, .int .i64 0], .bool true]) (by simp [results, Tryd.results8, go_sem, p0, p1]) rfl (by
    exact ⟨x, cap, ls, rfl, by omega, (ht.set ⟨_, _, k1⟩ (by decide) (by decide) (by decide)).set (Aid.Tag.set ⟨_, _, k1⟩) (by decide) (by decide) (by decide), (hB2.setCell (Nat.le_refl _) _).setCell (Nat.le_refl _) _⟩)
theorem Tryd.c_set1h (w : World) (hT : Tryd.Tabs w) (c : Int) : Aid.Hid2 (∀ w1 C, C.toList = Dia.sinP1.flatMap Dia.Piece.cells → Below w.heap.size w w1 → Calls Tryd.prog 20 #[.int .i64 c, .slice (some ⟨w1.heap.size, 0, none⟩) 2 2] (w1.alloc (.cells C 55)) fun e w' => Dia.IsSet c (Dia.sinL 1) w1 w' e) :=
  ⟨fun w1 C hC hb => Tryd.c_set1 2 c Dia.sinP1 _ _ w1 hC rfl (by decide) Dia.sinP1_in (by rw [Dia.sinL_len ⟨by decide, by decide⟩]; decide) Dia.sin_made1 (hT.below hb)⟩
set_option maxRecDepth 100000 in
set_option maxHeartbeats 1000000 in
theorem Tryd.c_Of1 (w : World) (hT : Tryd.Tabs w) :
    Calls Tryd.prog 8 #[.int .i64 1] w fun e w' => Dia.IsOf 1 (Dia.sinL 1) w w' e := by
  have HS := Tryd.c_set1h w hT 1
  clear hT
  generalize Dia.sinL 1 = L at *
  go_enter Tryd.func8, Tryd.ntmps8
  go_wp2_with fail
  refine (Tryd.c_plain1 _).mono ?_
  rintro e w1 ⟨rfl, hb⟩
  have hB : Below w.heap.size w w1 := (Aid.b1 _ _).trans (hb.mono (by simp))
  have k0 := Aid.blk hb (heap_alloc_new w _)
  clear hb
  go_wp2_with fail
  refine (Tryd.c_ListH _ _ _).mono ?_
  rintro e w2 ⟨s1, HS1, rfl, hb⟩
  replace hB := Aid.bt hB hb
  replace k0 := Aid.blk hb k0
  clear hb
  go_wp2_with fail
  refine (HS.out _ _ (by rw [HS1.out]; kernel_rfl) hB).mono ?_
  rintro e w3 ⟨x, cap, ls, rfl, hn1, ht, hb2⟩
  have k1 := Aid.blk hb2 k0
  obtain ⟨p0, p1, q0, q1⟩ := Aid.two k1
  have hB2 := Aid.bt hB hb2
  clear HS1
  go_wp2
  exact bodyPost_ret (v := .tuple #[.agg #[.slice x ls.length cap, .int .i64 1], .bool true]) (by simp [results, Tryd.results8, go_sem, p0, p1]) rfl (by
    exact ⟨x, cap, ls, rfl, by omega, (ht.set ⟨_, _, k1⟩ (by decide) (by decide) (by decide)).set (Aid.Tag.set ⟨_, _, k1⟩) (by decide) (by decide) (by decide), (hB2.setCell (Nat.le_refl _) _).setCell (Nat.le_refl _) _⟩)
set_option maxRecDepth 100000 in
set_option maxHeartbeats 2000000 in
theorem Tryd.c_Of3 (w : World) (hT : Tryd.Tabs w) :
    Calls Tryd.prog 8 #[.int .i64 3] w fun e w' => Dia.IsOf 3 (Dia.sinL 3) w w' e := by
  have HS : Aid.Hid2 (∀ w1 C, C.toList = Dia.sinP3.flatMap Dia.Piece.cells → Below w.heap.size w w1 → Calls Tryd.prog 20 #[.int .i64 3, .slice (some ⟨w1.heap.size, 0, none⟩) 5 5] (w1.alloc (.cells C 55)) fun e w' => Dia.IsSet 3 (Dia.sinL 3) w1 w' e) :=
    ⟨fun w1 C hC hb => Tryd.c_set1 5 3 Dia.sinP3 _ _ w1 hC rfl (by decide) Dia.sinP3_in (by rw [Dia.sinL_len ⟨by decide, by decide⟩]; decide) Dia.sin_made3 (hT.below hb)⟩
  clear hT
  generalize Dia.sinL 3 = L at *
  go_enter Tryd.func8, Tryd.ntmps8
  go_wp2_with fail
  refine (Tryd.c_plain1 _).mono ?_
  rintro e w1 ⟨rfl, hb⟩
  have hB : Below w.heap.size w w1 := (Aid.b1 _ _).trans (hb.mono (by simp))
  have k0 := Aid.blk hb (heap_alloc_new w _)
  clear hb
  go_wp2_with fail
  refine (Tryd.c_Seq _ _ _ _).mono ?_
  rintro e w2 ⟨rfl, hb⟩
  replace hB := Aid.bt hB hb
  replace k0 := Aid.blk hb k0
  clear hb
  go_wp2_with fail
  refine (Tryd.c_ListH _ _ _).mono ?_
  rintro e w3 ⟨s1, HS1, rfl, hb⟩
  replace hB := Aid.bt hB hb
  replace k0 := Aid.blk hb k0
  clear hb
  go_wp2_with fail
  refine (Tryd.c_Seq _ _ _ _).mono ?_
  rintro e w4 ⟨rfl, hb⟩
  replace hB := Aid.bt hB hb
  replace k0 := Aid.blk hb k0
  clear hb
  go_wp2_with fail
  refine (Tryd.c_ListH _ _ _).mono ?_
  rintro e w5 ⟨s2, HS2, rfl, hb⟩
  replace hB := Aid.bt hB hb
  replace k0 := Aid.blk hb k0
  clear hb
  go_wp2_with fail
  refine (HS.out _ _ (by rw [HS1.out, HS2.out]; kernel_rfl) hB).mono ?_
  rintro e w6 ⟨x, cap, ls, rfl, hn1, ht, hb2⟩
  have k1 := Aid.blk hb2 k0
  obtain ⟨p0, p1, q0, q1⟩ := Aid.two k1
  have hB2 := Aid.bt hB hb2
  clear HS1 HS2
  go_wp2
  exact bodyPost_ret (v := .tuple #[.agg #[.slice x ls.length cap, .int .i64 3], .bool true]) (by simp [results, Tryd.results8, go_sem, p0, p1]) rfl (by
    exact ⟨x, cap, ls, rfl, by omega, (ht.set ⟨_, _, k1⟩ (by decide) (by decide) (by decide)).set (Aid.Tag.set ⟨_, _, k1⟩) (by decide) (by decide) (by decide), (hB2.setCell (Nat.le_refl _) _).setCell (Nat.le_refl _) _⟩)
set_option maxRecDepth 100000 in
set_option maxHeartbeats 1000000 in
theorem Tryd.c_OfNone (c : Int) (w : World) (h0 : c ≠ 0) (h1 : c ≠ 1) (h2 : c ≠ 2) (h3 : c ≠ 3) :
    Calls Tryd.prog 8 #[.int .i64 c] w fun e w' => e = .returned (.tuple #[.agg #[.slice none 0 0, .int .i64 0], .bool false]) ∧ Below w.heap.size w w' := by
  have d0 : (c == 0) = false := by simpa using h0
  have d1 : (c == 1) = false := by simpa using h1
  have d2 : (c == 2) = false := by simpa using h2
  have d3 : (c == 3) = false := by simpa using h3
  clear h0 h1 h2 h3
  go_enter Tryd.func8, Tryd.ntmps8
  go_wp2
  have k1 := heap_alloc_new w (.cells #[.slice none 0 0, .int .i64 0] 27)
  obtain ⟨p0, p1, q0, q1⟩ := Aid.two k1
  exact bodyPost_ret (v := .tuple #[.agg #[.slice none 0 0, .int .i64 0], .bool false]) (by simp [results, Tryd.results8, go_sem, p0, p1]) rfl (by
    exact ⟨rfl, Aid.b1 _ _⟩)
set_option maxRecDepth 100000 in
set_option maxHeartbeats 2000000 in
theorem Tryd.c_Of2 (w : World) (hT : Tryd.Tabs w) :
    Calls Tryd.prog 8 #[.int .i64 2] w fun e w' => Dia.IsOf 2 (Dia.sinL 2) w w' e := by
  have HS := Tryd.c_set1h w hT 2
  have HU : Aid.Hid2 (∀ w1, Below w.heap.size w w1 → Calls Tryd.prog 24 #[] w1 fun e w' => ∃ ls : List (List Dia.Row), ls.length ≤ 1 ∧ Dia.IsT ls Dia.sinLU w1 w' e) := ⟨fun w1 hb => Tryd.c_ukr w1 (hT.below hb)⟩
  have HO : Aid.Hid2 (∀ (a b : Option Addr) (ca cb : Nat) (ls ms : List (List Dia.Row)) (w1 : World), Dia.T w1 a ca ls Dia.sinLU → Dia.T w1 b cb ms (Dia.sinL 1) → ls.length + ms.length ≤ 1000 →
      Calls Tryd.prog 25 #[.agg #[.slice a ls.length ca], .agg #[.slice b ms.length cb]] w1 fun e w' => Dia.IsT (ls ++ ms) (Dia.sinL 2) w1 w' e) := ⟨fun a b ca cb ls ms w1 h1 h2 hn => by
    have h := Tryd.t_Over w1 h1 h2 hn (by rw [Dia.sinL_len ⟨by decide, by decide⟩, Dia.sinLU_len]; decide)
    rw [Dia.sin_over] at h
    exact h⟩
  clear hT
  generalize Dia.sinL 1 = L1 at *
  generalize Dia.sinL 2 = L at *
  generalize Dia.sinLU = LU at *
  go_enter Tryd.func8, Tryd.ntmps8
  go_wp2_with fail
  refine (Tryd.c_plain1 _).mono ?_
  rintro e w1 ⟨rfl, hb⟩
  have hB : Below w.heap.size w w1 := (Aid.b1 _ _).trans (hb.mono (by simp))
  have k0 := Aid.blk hb (heap_alloc_new w _)
  clear hb
  go_wp2_with fail
  refine (Tryd.c_ListH _ _ _).mono ?_
  rintro e w2 ⟨s1, HS1, rfl, hb⟩
  replace hB := Aid.bt hB hb
  replace k0 := Aid.blk hb k0
  clear hb
  go_wp2_with fail
  refine (HS.out _ _ (by rw [HS1.out]; kernel_rfl) hB).mono ?_
  rintro e w3 ⟨x, cap, ls, rfl, hn1, ht, hb2⟩
  replace k0 := Aid.blk hb2 k0
  replace hB := Aid.bt hB hb2
  clear HS1 HS hb2
  go_wp2_with fail
  have kS := heap_alloc_new w3 (.cells #[.slice x ls.length cap, .int .i64 2] 27)
  have kR := Aid.blk_alloc (o' := .cells #[.slice x ls.length cap, .int .i64 2] 27) k0
  have ht4 := ht.below (Aid.b1 w3 (.cells #[.slice x ls.length cap, .int .i64 2] 27))
  have hB4 : Below w.heap.size w (w3.alloc (.cells #[.slice x ls.length cap, .int .i64 2] 27)) := hB.alloc hB.size _
  have hsz3 := hB.size
  have hne : w3.heap.size ≠ w.heap.size := by
    have := (Array.getElem?_eq_some_iff.1 k0).1
    omega
  clear k0 ht hB
  obtain ⟨s0, s1', f0, f1⟩ := Aid.two kS
  go_region_with (first
    | (go_at_call 24; refine (HU.out _ (by first | exact hB4 | exact hB4.drew)).mono ?_; rintro e w5 ⟨us, hu1, y, cy, rfl, htu, hb5⟩
       have h45 : Below (w3.alloc (.cells #[.slice x ls.length cap, .int .i64 2] 27)).heap.size (w3.alloc (.cells #[.slice x ls.length cap, .int .i64 2] 27)) w5 := by first | exact hb5 | exact ((Below.refl _ _).drew).trans hb5
       have kS5 := Aid.blk h45 kS
       obtain ⟨t0, t1, g0, g1⟩ := Aid.two kS5)
    | (go_at_call 25; refine (HO.out _ _ _ _ _ _ _ htu (ht4.below h45) (by omega)).mono ?_; rintro e w6 ⟨z, cz, rfl, htz, hb6⟩
       have hle : (us ++ ls).length ≤ 4 := by rw [List.length_append]; omega
       generalize us ++ ls = vs at *
       have h46 := Aid.bt h45 hb6
       obtain ⟨t0, t1, g0, g1⟩ := Aid.two (Aid.blk h46 kS)
       obtain ⟨r0, r1, c0, c1⟩ := Aid.two (Aid.blk h46 kR)))
  all_goals
    have kS6 := Aid.blk h46 kS
    have kR6 := Aid.blk h46 kR
    have hB6 := Aid.bt hB4 h46
    go_wp2
    exact bodyPost_ret (v := .tuple #[.agg #[.slice z vs.length cz, .int .i64 2], .bool true]) (by simp [results, Tryd.results8, go_sem, r0, r1]) rfl (by
      exact ⟨z, cz, vs, rfl, hle, ((htz.set ⟨_, _, kS6⟩ (by decide) (by decide) (by decide)).set (Aid.Tag.set ⟨_, _, kR6⟩) (by decide) (by decide) (by decide)).set (Aid.Tag.set (Aid.Tag.set ⟨_, _, kR6⟩)) (by decide) (by decide) (by decide), ((hB6.setCell hsz3 _).setCell (Nat.le_refl _) _).setCell (Nat.le_refl _) _⟩)
theorem Tryd.c_Of (c : Int) (w : World) (hT : Tryd.Tabs w) (h : 0 ≤ c ∧ c ≤ 3) :
    Calls Tryd.prog 8 #[.int .i64 c] w fun e w' => Dia.IsOf c (Dia.sinL c) w w' e := by
  have : c = 0 ∨ c = 1 ∨ c = 2 ∨ c = 3 := by omega
  rcases this with rfl | rfl | rfl | rfl
  · exact Tryd.c_Of0 w hT
  · exact Tryd.c_Of1 w hT
  · exact Tryd.c_Of2 w hT
  · exact Tryd.c_Of3 w hT
end Go.Proofs
