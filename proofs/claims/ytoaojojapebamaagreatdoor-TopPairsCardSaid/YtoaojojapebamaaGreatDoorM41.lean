/- walks of single: plain, set, ukrainian; walks of single: Of -/
import Derived.Test.YtoaojojapebamaaGreatDoorM20
import Derived.Test.YtoaojojapebamaaGreatDoorM23
namespace Go.Proofs
open Go.RowKit

set_option maxRecDepth 100000 in
theorem Tryz.c_ListH (f : Int) (s : ByteArray) (w : World) : Calls Tryz.prog 42 #[.int .i64 f, .string s] w fun e w' => ∃ s', Aid.Hid2 (s' = s) ∧ e = .returned (.agg #[.int .i64 f, .int .i32 0, .int .i64 0, .string s']) ∧ Below w.heap.size w w' :=
  (Tryz.c_List f s w).mono fun _ _ ⟨h, hb⟩ => ⟨s, ⟨rfl⟩, h, hb⟩
set_option maxRecDepth 100000 in
theorem Tryz.c_plain1 (w : World) : Calls Tryz.prog 41 #[] w fun e w' => e = .returned (.agg #[.int .i64 0, .int .i32 0, .int .i64 128, .string ⟨#[]⟩]) ∧ Below w.heap.size w w' := by
  go_enter Tryz.func41, Tryz.ntmps41
  go_wp2_with fail
  refine (Tryz.c_Seq _ _ _ _).mono ?_
  rintro e w1 ⟨rfl, hb1⟩
  have k0 := Aid.blk hb1 (heap_alloc_new w _)
  obtain ⟨p0, p1, p2, p3, q0, q1, q2, q3⟩ := Aid.four k0
  have hB := Aid.bt (Aid.b1 _ _) hb1
  go_wp2
  exact bodyPost_ret (v := .agg #[.int .i64 0, .int .i32 0, .int .i64 128, .string ⟨#[]⟩]) (by simp [results, Tryz.results41, go_sem, p0, p1, p2, p3]) rfl (by
    exact ⟨rfl, (((hB.setCell (Nat.le_refl _) _).setCell (Nat.le_refl _) _).setCell (Nat.le_refl _) _).setCell (Nat.le_refl _) _⟩)
/-- a charset is handed back -/
def Dia.IsSet (c : Int) (l : List (Int × Int)) (w w' : World) (e : Ending) : Prop :=
  ∃ (a : Option Addr) (cap : Nat) (ls : List (List Dia.Row)), e = .returned (.agg #[.slice a ls.length cap, .int .i64 c]) ∧ ls.length ≤ 2 ∧ Dia.T w' a cap ls l ∧ Below w.heap.size w w'
set_option maxRecDepth 100000 in
set_option maxHeartbeats 1000000 in
theorem Tryz.c_set1 (n : Nat) (c : Int) (ps : List Dia.Piece) (l : List (Int × Int)) (C : Array Value) (w0 : World) (hC : C.toList = ps.flatMap Dia.Piece.cells) (hn : ps.length = n) (h12 : n ≤ 12) (hin : ∀ p ∈ ps, p.In) (hg : l.length ≤ 100000) (hl : Dia.madeL [] 0 ps = (l, -1)) (hT : Tryz.Tabs w0) :
    Calls Tryz.prog 39 #[.int .i64 c, .slice (some ⟨w0.heap.size, 0, none⟩) n n] (w0.alloc (.cells C 68)) fun e w' => Dia.IsSet c l w0 w' e := by
  subst hn
  have hpw := Dia.pieces_new w0 C 68 ps hC
  have hTw := hT.below (Aid.b1 w0 (.cells C 68))
  have hB0 := Aid.b1 w0 (.cells C 68)
  have HB0 := Aid.Hid2.mk hB0
  clear hT hC hB0
  generalize w0.alloc (.cells C 68) = w at *
  generalize (some ⟨w0.heap.size, 0, none⟩ : Option Addr) = a at *
  have HN : Aid.Hid2 (∀ w1, Below w.heap.size w w1 → Calls Tryz.prog 67 #[.slice a ps.length ps.length] w1 fun e w' => Dia.IsNK l w1 w' e) := ⟨fun w1 hb => by
    refine (Tryz.t_New a ps ps.length w1 (hpw.below hb) hin (by rw [hl]; exact hg) (by omega) (hTw.below hb)).mono fun e w' ⟨a, cap, A, B, he, ht, h1, _, hb⟩ => ?_
    obtain ⟨rfl, rfl⟩ := h1 (by rw [hl]; show (-1 : Int) < 0; decide)
    rw [hl] at ht
    exact ⟨a, cap, _, he, Dia.lv_len _, ht, hb⟩⟩
  clear hpw hTw hl hin
  go_enter Tryz.func39, Tryz.ntmps39
  go_wp2_with fail
  refine (HN.out _ (Aid.b1 _ _)).mono ?_
  rintro e w1 ⟨x, cap, ls, rfl, hn1, ht, hb1⟩
  have k0 := Aid.blk hb1 (heap_alloc_new w _)
  have hB1 := Aid.bt (Aid.b1 _ _) hb1
  have k1 := Aid.blk_alloc (o' := .cells #[.int .i64 0, .int .i64 0] 26) (Aid.blk_alloc (o' := .cells #[.slice x ls.length cap] 43) k0)
  obtain ⟨p0, p1, q0, q1⟩ := Aid.two k1
  go_wp2
  have hb2 : Below w.heap.size w ((w1.alloc (.cells #[.slice x ls.length cap] 43)).alloc (.cells #[.int .i64 0, .int .i64 0] 26)) := Aid.bt hB1 (Aid.b2 _ _ _)
  exact bodyPost_ret (v := .agg #[.slice x ls.length cap, .int .i64 c]) (by simp [results, Tryz.results39, go_sem, p0, p1]) rfl (by
    exact ⟨x, cap, ls, rfl, by omega, ((ht.below (Aid.b2 w1 (.cells #[.slice x ls.length cap] 43) (.cells #[.int .i64 0, .int .i64 0] 26))).set ⟨_, _, k1⟩ (by decide) (by decide) (by decide)).set (Aid.Tag.set ⟨_, _, k1⟩) (by decide) (by decide) (by decide), Aid.bt HB0.out ((hb2.setCell (Nat.le_refl _) _).setCell (Nat.le_refl _) _)⟩)
theorem Dia.sinLU_len : Dia.sinLU.length = 8 := rfl
theorem Dia.sinL_len {c : Int} (h : 0 ≤ c ∧ c ≤ 3) : (Dia.sinL c).length = 256 := by unfold Dia.sinL; rw [Dia.pairsF_len, Dia.sinS_len c h]
set_option maxRecDepth 100000 in
theorem Dia.sinPU_in : ∀ p ∈ Dia.sinPU, p.In := by
  intro p hp
  simp only [Dia.sinPU, List.mem_cons, List.not_mem_nil, or_false] at hp
  rcases hp with rfl | rfl | rfl | rfl | rfl | rfl <;> exact ⟨by decide, by decide, by decide, by decide, by decide, by decide, by decide⟩
set_option maxRecDepth 100000 in
set_option maxHeartbeats 1000000 in
theorem Tryz.c_ukr (w : World) (hT : Tryz.Tabs w) :
    Calls Tryz.prog 43 #[] w fun e w' => ∃ ls : List (List Dia.Row), ls.length ≤ 1 ∧ Dia.IsT ls Dia.sinLU w w' e := by
  have HT := Aid.Hid2.mk hT
  clear hT
  go_enter Tryz.func43, Tryz.ntmps43
  go_wp2_with fail
  refine (Tryz.c_List _ _ _).mono ?_
  rintro e w1 ⟨rfl, hb⟩
  have hB : Below w.heap.size w w1 := (Aid.b1 _ _).trans (hb.mono (by simp))
  have k0 := Aid.blk hb (heap_alloc_new w _)
  clear hb
  go_wp2_with fail
  refine (Tryz.c_List _ _ _).mono ?_
  rintro e w2 ⟨rfl, hb⟩
  replace hB := Aid.bt hB hb
  replace k0 := Aid.blk hb k0
  clear hb
  go_wp2_with fail
  refine (Tryz.c_List _ _ _).mono ?_
  rintro e w3 ⟨rfl, hb⟩
  replace hB := Aid.bt hB hb
  replace k0 := Aid.blk hb k0
  clear hb
  go_wp2_with fail
  refine (Tryz.c_List _ _ _).mono ?_
  rintro e w4 ⟨rfl, hb⟩
  replace hB := Aid.bt hB hb
  replace k0 := Aid.blk hb k0
  clear hb
  go_wp2_with fail
  refine (Tryz.c_List _ _ _).mono ?_
  rintro e w5 ⟨rfl, hb⟩
  replace hB := Aid.bt hB hb
  replace k0 := Aid.blk hb k0
  clear hb
  go_wp2_with fail
  refine (Tryz.c_List _ _ _).mono ?_
  rintro e w6 ⟨rfl, hb⟩
  replace hB := Aid.bt hB hb
  replace k0 := Aid.blk hb k0
  clear hb
  have HN : Aid.Hid2 (∀ C, C.toList = Dia.sinPU.flatMap Dia.Piece.cells → Calls Tryz.prog 67 #[.slice (some ⟨w6.heap.size, 0, none⟩) 6 6] (w6.alloc (.cells C 68)) fun e w' => Dia.IsNK Dia.sinLU w6 w' e) :=
    ⟨fun C hC => Tryz.c_NewK 6 Dia.sinPU Dia.sinLU C w6 hC rfl (by decide) Dia.sinPU_in (by rw [Dia.sinLU_len]; decide) Dia.sin_madeU (HT.out.below hB)⟩
  go_wp2_with fail
  refine (HN.out _ rfl).mono ?_
  rintro e w7 ⟨x, c, ls, rfl, hl1, ht, hb7⟩
  have k := Aid.blk_alloc (o' := .cells #[.int .i64 0, .int .i64 0] 26) (Aid.blk_alloc (o' := .cells #[.slice x ls.length c] 43) (Aid.blk hb7 k0))
  obtain ⟨p0, p0f⟩ := Aid.one k
  go_wp2
  have hb2 : Below w.heap.size w ((w7.alloc (.cells #[.slice x ls.length c] 43)).alloc (.cells #[.int .i64 0, .int .i64 0] 26)) := Aid.bt (Aid.bt hB hb7) (Aid.b2 _ _ _)
  exact bodyPost_ret (v := .agg #[.slice x ls.length c]) (by simp [results, Tryz.results43, go_sem, p0]) rfl (by
    exact ⟨ls, hl1, x, c, rfl, (ht.below (Aid.b2 w7 (.cells #[.slice x ls.length c] 43) (.cells #[.int .i64 0, .int .i64 0] 26))).set ⟨_, _, k⟩ (by decide) (by decide) (by decide), hb2.setCell (Nat.le_refl _) _⟩)
end Go.Proofs
namespace Go.Proofs
open Go.RowKit

set_option maxRecDepth 100000 in
theorem Dia.sinP0_in : ∀ p ∈ Dia.sinP0, p.In := by
  intro p hp
  simp only [Dia.sinP0, List.mem_cons, List.not_mem_nil, or_false] at hp
  rcases hp with rfl
  exact ⟨by decide +kernel, by decide +kernel, by decide +kernel, by decide +kernel, by decide +kernel, by decide +kernel, by decide +kernel⟩
set_option maxRecDepth 100000 in
theorem Dia.sinP1_in : ∀ p ∈ Dia.sinP1, p.In := by
  intro p hp
  simp only [Dia.sinP1, List.mem_cons, List.not_mem_nil, or_false] at hp
  rcases hp with rfl | rfl <;> exact ⟨by decide +kernel, by decide +kernel, by decide +kernel, by decide +kernel, by decide +kernel, by decide +kernel, by decide +kernel⟩
set_option maxRecDepth 100000 in
theorem Dia.sinP3_in : ∀ p ∈ Dia.sinP3, p.In := by
  intro p hp
  simp only [Dia.sinP3, List.mem_cons, List.not_mem_nil, or_false] at hp
  rcases hp with rfl | rfl | rfl | rfl | rfl <;> exact ⟨by decide +kernel, by decide +kernel, by decide +kernel, by decide +kernel, by decide +kernel, by decide +kernel, by decide +kernel⟩
/-- a charset is handed back -/
def Dia.IsOf (c : Int) (l : List (Int × Int)) (w w' : World) (e : Ending) : Prop :=
  ∃ (a : Option Addr) (cap : Nat) (ls : List (List Dia.Row)), e = .returned (.tuple #[.agg #[.slice a ls.length cap, .int .i64 c], .bool true]) ∧ ls.length ≤ 4 ∧ Dia.T w' a cap ls l ∧ Below w.heap.size w w'
set_option maxRecDepth 100000 in
set_option maxHeartbeats 1000000 in
theorem Tryz.c_Of0 (w : World) (hT : Tryz.Tabs w) :
    Calls Tryz.prog 17 #[.int .i64 0] w fun e w' => Dia.IsOf 0 (Dia.sinL 0) w w' e := by
  have HS : Aid.Hid2 (∀ w1, Below w.heap.size w w1 → Calls Tryz.prog 39 #[.int .i64 0, .slice (some ⟨w1.heap.size, 0, none⟩) 1 1] (w1.alloc (.cells #[.int .i64 0, .int .i32 0, .int .i64 256, .string ⟨#[]⟩] 68)) fun e w' => Dia.IsSet 0 (Dia.sinL 0) w1 w' e) :=
    ⟨fun w1 hb => Tryz.c_set1 1 0 Dia.sinP0 _ _ w1 rfl rfl (by decide) Dia.sinP0_in (by rw [Dia.sinL_len ⟨by decide, by decide⟩]; decide) Dia.sin_made0 (hT.below hb)⟩
  clear hT
  generalize Dia.sinL 0 = L at *
  go_enter Tryz.func17, Tryz.ntmps17
  go_wp2_with fail
  refine (Tryz.c_Seq _ _ _ _).mono ?_
  rintro e w1 ⟨rfl, hb⟩
  have hB : Below w.heap.size w w1 := (Aid.b1 _ _).trans (hb.mono (by simp))
  have k0 := Aid.blk hb (heap_alloc_new w _)
  clear hb
  go_wp2_with fail
  refine (HS.out _ hB).mono ?_
  rintro e w2 ⟨x, cap, ls, rfl, hn1, ht, hb2⟩
  have k1 := Aid.blk hb2 k0
  obtain ⟨p0, p1, q0, q1⟩ := Aid.two k1
  have hB2 := Aid.bt hB hb2
  go_wp2
  exact bodyPost_ret (v := .tuple #[.agg #[.slice x ls.length cap, .int .i64 0], .bool true]) (by simp [results, Tryz.results17, go_sem, p0, p1]) rfl (by
    exact ⟨x, cap, ls, rfl, by omega, (ht.set ⟨_, _, k1⟩ (by decide) (by decide) (by decide)).set (Aid.Tag.set ⟨_, _, k1⟩) (by decide) (by decide) (by decide), (hB2.setCell (Nat.le_refl _) _).setCell (Nat.le_refl _) _⟩)
theorem Tryz.c_set1h (w : World) (hT : Tryz.Tabs w) (c : Int) : Aid.Hid2 (∀ w1 C, C.toList = Dia.sinP1.flatMap Dia.Piece.cells → Below w.heap.size w w1 → Calls Tryz.prog 39 #[.int .i64 c, .slice (some ⟨w1.heap.size, 0, none⟩) 2 2] (w1.alloc (.cells C 68)) fun e w' => Dia.IsSet c (Dia.sinL 1) w1 w' e) :=
  ⟨fun w1 C hC hb => Tryz.c_set1 2 c Dia.sinP1 _ _ w1 hC rfl (by decide) Dia.sinP1_in (by rw [Dia.sinL_len ⟨by decide, by decide⟩]; decide) Dia.sin_made1 (hT.below hb)⟩
set_option maxRecDepth 100000 in
set_option maxHeartbeats 1000000 in
theorem Tryz.c_Of1 (w : World) (hT : Tryz.Tabs w) :
    Calls Tryz.prog 17 #[.int .i64 1] w fun e w' => Dia.IsOf 1 (Dia.sinL 1) w w' e := by
  have HS := Tryz.c_set1h w hT 1
  clear hT
  generalize Dia.sinL 1 = L at *
  go_enter Tryz.func17, Tryz.ntmps17
  go_wp2_with fail
  refine (Tryz.c_plain1 _).mono ?_
  rintro e w1 ⟨rfl, hb⟩
  have hB : Below w.heap.size w w1 := (Aid.b1 _ _).trans (hb.mono (by simp))
  have k0 := Aid.blk hb (heap_alloc_new w _)
  clear hb
  go_wp2_with fail
  refine (Tryz.c_ListH _ _ _).mono ?_
  rintro e w2 ⟨s1, HS1, rfl, hb⟩
  replace hB := Aid.bt hB hb
  replace k0 := Aid.blk hb k0
  clear hb
  go_wp2_with fail
  refine (HS.out _ _ (by rw [HS1.out]; kernel_rfl) hB).mono ?_
  rintro e w3 ⟨x, cap, ls, rfl, hn1, ht, hb2⟩
  have k1 := Aid.blk hb2 k0
  obtain ⟨p0, p1, q0, q1⟩ := Aid.two k1
  have hB2 := Aid.bt hB hb2
  clear HS1
  go_wp2
  exact bodyPost_ret (v := .tuple #[.agg #[.slice x ls.length cap, .int .i64 1], .bool true]) (by simp [results, Tryz.results17, go_sem, p0, p1]) rfl (by
    exact ⟨x, cap, ls, rfl, by omega, (ht.set ⟨_, _, k1⟩ (by decide) (by decide) (by decide)).set (Aid.Tag.set ⟨_, _, k1⟩) (by decide) (by decide) (by decide), (hB2.setCell (Nat.le_refl _) _).setCell (Nat.le_refl _) _⟩)
set_option maxRecDepth 100000 in
set_option maxHeartbeats 2000000 in
theorem Tryz.c_Of3 (w : World) (hT : Tryz.Tabs w) :
    Calls Tryz.prog 17 #[.int .i64 3] w fun e w' => Dia.IsOf 3 (Dia.sinL 3) w w' e := by
  have HS : Aid.Hid2 (∀ w1 C, C.toList = Dia.sinP3.flatMap Dia.Piece.cells → Below w.heap.size w w1 → Calls Tryz.prog 39 #[.int .i64 3, .slice (some ⟨w1.heap.size, 0, none⟩) 5 5] (w1.alloc (.cells C 68)) fun e w' => Dia.IsSet 3 (Dia.sinL 3) w1 w' e) :=
    ⟨fun w1 C hC hb => Tryz.c_set1 5 3 Dia.sinP3 _ _ w1 hC rfl (by decide) Dia.sinP3_in (by rw [Dia.sinL_len ⟨by decide, by decide⟩]; decide) Dia.sin_made3 (hT.below hb)⟩
  clear hT
  generalize Dia.sinL 3 = L at *
  go_enter Tryz.func17, Tryz.ntmps17
  go_wp2_with fail
  refine (Tryz.c_plain1 _).mono ?_
  rintro e w1 ⟨rfl, hb⟩
  have hB : Below w.heap.size w w1 := (Aid.b1 _ _).trans (hb.mono (by simp))
  have k0 := Aid.blk hb (heap_alloc_new w _)
  clear hb
  go_wp2_with fail
  refine (Tryz.c_Seq _ _ _ _).mono ?_
  rintro e w2 ⟨rfl, hb⟩
  replace hB := Aid.bt hB hb
  replace k0 := Aid.blk hb k0
  clear hb
  go_wp2_with fail
  refine (Tryz.c_ListH _ _ _).mono ?_
  rintro e w3 ⟨s1, HS1, rfl, hb⟩
  replace hB := Aid.bt hB hb
  replace k0 := Aid.blk hb k0
  clear hb
  go_wp2_with fail
  refine (Tryz.c_Seq _ _ _ _).mono ?_
  rintro e w4 ⟨rfl, hb⟩
  replace hB := Aid.bt hB hb
  replace k0 := Aid.blk hb k0
  clear hb
  go_wp2_with fail
  refine (Tryz.c_ListH _ _ _).mono ?_
  rintro e w5 ⟨s2, HS2, rfl, hb⟩
  replace hB := Aid.bt hB hb
  replace k0 := Aid.blk hb k0
  clear hb
  go_wp2_with fail
  refine (HS.out _ _ (by rw [HS1.out, HS2.out]; kernel_rfl) hB).mono ?_
  rintro e w6 ⟨x, cap, ls, rfl, hn1, ht, hb2⟩
  have k1 := Aid.blk hb2 k0
  obtain ⟨p0, p1, q0, q1⟩ := Aid.two k1
  have hB2 := Aid.bt hB hb2
  clear HS1 HS2
  go_wp2
  exact bodyPost_ret (v := .tuple #[.agg #[.slice x ls.length cap, .int .i64 3], .bool true]) (by simp [results, Tryz.results17, go_sem, p0, p1]) rfl (by
    exact ⟨x, cap, ls, rfl, by omega, (ht.set ⟨_, _, k1⟩ (by decide) (by decide) (by decide)).set (Aid.Tag.set ⟨_, _, k1⟩) (by decide) (by decide) (by decide), (hB2.setCell (Nat.le_refl _) _).setCell (Nat.le_refl _) _⟩)
set_option maxRecDepth 100000 in
set_option maxHeartbeats 1000000 in
theorem Tryz.c_OfNone (c : Int) (w : World) (h0 : c ≠ 0) (h1 : c ≠ 1) (h2 : c ≠ 2) (h3 : c ≠ 3) :
    Calls Tryz.prog 17 #[.int .i64 c] w fun e w' => e = .returned (.tuple #[.agg #[.slice none 0 0, .int .i64 0], .bool false]) ∧ Below w.heap.size w w' := by
  have d0 : (c == 0) = false := by simpa using h0
  have d1 : (c == 1) = false := by simpa using h1
  have d2 : (c == 2) = false := by simpa using h2
  have d3 : (c == 3) = false := by simpa using h3
  clear h0 h1 h2 h3
  go_enter Tryz.func17, Tryz.ntmps17
  go_wp2
  have k1 := heap_alloc_new w (.cells #[.slice none 0 0, .int .i64 0] 45)
  obtain ⟨p0, p1, q0, q1⟩ := Aid.two k1
  exact bodyPost_ret (v := .tuple #[.agg #[.slice none 0 0, .int .i64 0], .bool false]) (by simp [results, Tryz.results17, go_sem, p0, p1]) rfl (by
    exact ⟨rfl, Aid.b1 _ _⟩)
set_option maxRecDepth 100000 in
set_option maxHeartbeats 2000000 in
theorem Tryz.c_Of2 (w : World) (hT : Tryz.Tabs w) :
    Calls Tryz.prog 17 #[.int .i64 2] w fun e w' => Dia.IsOf 2 (Dia.sinL 2) w w' e := by
  have HS := Tryz.c_set1h w hT 2
  have HU : Aid.Hid2 (∀ w1, Below w.heap.size w w1 → Calls Tryz.prog 43 #[] w1 fun e w' => ∃ ls : List (List Dia.Row), ls.length ≤ 1 ∧ Dia.IsT ls Dia.sinLU w1 w' e) := ⟨fun w1 hb => Tryz.c_ukr w1 (hT.below hb)⟩
  have HO : Aid.Hid2 (∀ (a b : Option Addr) (ca cb : Nat) (ls ms : List (List Dia.Row)) (w1 : World), Dia.T w1 a ca ls Dia.sinLU → Dia.T w1 b cb ms (Dia.sinL 1) → ls.length + ms.length ≤ 1000 →
      Calls Tryz.prog 44 #[.agg #[.slice a ls.length ca], .agg #[.slice b ms.length cb]] w1 fun e w' => Dia.IsT (ls ++ ms) (Dia.sinL 2) w1 w' e) := ⟨fun a b ca cb ls ms w1 h1 h2 hn => by
    have h := Tryz.t_Over w1 h1 h2 hn (by rw [Dia.sinL_len ⟨by decide, by decide⟩, Dia.sinLU_len]; decide)
    rw [Dia.sin_over] at h
    exact h⟩
  clear hT
  generalize Dia.sinL 1 = L1 at *
  generalize Dia.sinL 2 = L at *
  generalize Dia.sinLU = LU at *
  go_enter Tryz.func17, Tryz.ntmps17
  go_wp2_with fail
  refine (Tryz.c_plain1 _).mono ?_
  rintro e w1 ⟨rfl, hb⟩
  have hB : Below w.heap.size w w1 := (Aid.b1 _ _).trans (hb.mono (by simp))
  have k0 := Aid.blk hb (heap_alloc_new w _)
  clear hb
  go_wp2_with fail
  refine (Tryz.c_ListH _ _ _).mono ?_
  rintro e w2 ⟨s1, HS1, rfl, hb⟩
  replace hB := Aid.bt hB hb
  replace k0 := Aid.blk hb k0
  clear hb
  go_wp2_with fail
  refine (HS.out _ _ (by rw [HS1.out]; kernel_rfl) hB).mono ?_
  rintro e w3 ⟨x, cap, ls, rfl, hn1, ht, hb2⟩
  replace k0 := Aid.blk hb2 k0
  replace hB := Aid.bt hB hb2
  clear HS1 HS hb2
  go_wp2_with fail
  have kS := heap_alloc_new w3 (.cells #[.slice x ls.length cap, .int .i64 2] 45)
  have kR := Aid.blk_alloc (o' := .cells #[.slice x ls.length cap, .int .i64 2] 45) k0
  have ht4 := ht.below (Aid.b1 w3 (.cells #[.slice x ls.length cap, .int .i64 2] 45))
  have hB4 : Below w.heap.size w (w3.alloc (.cells #[.slice x ls.length cap, .int .i64 2] 45)) := hB.alloc hB.size _
  have hsz3 := hB.size
  have hne : w3.heap.size ≠ w.heap.size := by
    have := (Array.getElem?_eq_some_iff.1 k0).1
    omega
  clear k0 ht hB
  obtain ⟨s0, s1', f0, f1⟩ := Aid.two kS
  go_region_with (first
    | (go_at_call 43; refine (HU.out _ (by first | exact hB4 | exact hB4.drew)).mono ?_; rintro e w5 ⟨us, hu1, y, cy, rfl, htu, hb5⟩
       have h45 : Below (w3.alloc (.cells #[.slice x ls.length cap, .int .i64 2] 45)).heap.size (w3.alloc (.cells #[.slice x ls.length cap, .int .i64 2] 45)) w5 := by first | exact hb5 | exact ((Below.refl _ _).drew).trans hb5
       have kS5 := Aid.blk h45 kS
       obtain ⟨t0, t1, g0, g1⟩ := Aid.two kS5)
    | (go_at_call 44; refine (HO.out _ _ _ _ _ _ _ htu (ht4.below h45) (by omega)).mono ?_; rintro e w6 ⟨z, cz, rfl, htz, hb6⟩
       have hle : (us ++ ls).length ≤ 4 := by rw [List.length_append]; omega
       generalize us ++ ls = vs at *
       have h46 := Aid.bt h45 hb6
       obtain ⟨t0, t1, g0, g1⟩ := Aid.two (Aid.blk h46 kS)
       obtain ⟨r0, r1, c0, c1⟩ := Aid.two (Aid.blk h46 kR)))
  all_goals
    have kS6 := Aid.blk h46 kS
    have kR6 := Aid.blk h46 kR
    have hB6 := Aid.bt hB4 h46
    go_wp2
    exact bodyPost_ret (v := .tuple #[.agg #[.slice z vs.length cz, .int .i64 2], .bool true]) (by simp [results, Tryz.results17, go_sem, r0, r1]) rfl (by
      exact ⟨z, cz, vs, rfl, hle, ((htz.set ⟨_, _, kS6⟩ (by decide) (by decide) (by decide)).set (Aid.Tag.set ⟨_, _, kR6⟩) (by decide) (by decide) (by decide)).set (Aid.Tag.set (Aid.Tag.set ⟨_, _, kR6⟩)) (by decide) (by decide) (by decide), ((hB6.setCell hsz3 _).setCell (Nat.le_refl _) _).setCell (Nat.le_refl _) _⟩)
theorem Tryz.c_Of (c : Int) (w : World) (hT : Tryz.Tabs w) (h : 0 ≤ c ∧ c ≤ 3) :
    Calls Tryz.prog 17 #[.int .i64 c] w fun e w' => Dia.IsOf c (Dia.sinL c) w w' e := by
  have : c = 0 ∨ c = 1 ∨ c = 2 ∨ c = 3 := by omega
  rcases this with rfl | rfl | rfl | rfl
  · exact Tryz.c_Of0 w hT
  · exact Tryz.c_Of1 w hT
  · exact Tryz.c_Of2 w hT
  · exact Tryz.c_Of3 w hT
end Go.Proofs
