/- walks of wansung: its table -/
import Derived.Test.YtfiinmidcmgphaaDoorCc
namespace Go.Proofs
open Go.RowKit

/-- a piece's cells -/
def Dia.Piece.cells (p : Dia.Piece) : List Value := [.int .i64 p.from', .int .i32 p.to, .int .i64 p.count, .string ⟨p.text.toArray⟩]
theorem Dia.pieces_new (w : World) (C : Array Value) (T : TypeId) (ps : List Dia.Piece) (h : C.toList = ps.flatMap Dia.Piece.cells) : Dia.PiecesAt (w.alloc (.cells C T)) (some ⟨w.heap.size, 0, none⟩) ps := by
  refine .inr ⟨w.heap.size, 0, rfl, fun k p hk => ?_⟩
  have c := fun j v hj => Aid.cells_new w C T (0, 0) _ h (k * 4 + j) v (Aid.flat_get Dia.Piece.cells 4 (fun _ => rfl) ps k j p v hk hj)
  have hp : ∀ j, (⟨w.heap.size, 0, none⟩ : Addr).add j = ⟨w.heap.size, 0 + j, none⟩ := by intro j; unfold Addr.add; split <;> simp_all
  have c0 := c 0 _ rfl
  have c1 := c 1 _ rfl
  have c2 := c 2 _ rfl
  have c3 := c 3 _ rfl
  rw [hp] at c0 c1 c2 c3
  exact ⟨c0, c1, c2, c3⟩
set_option maxRecDepth 100000 in
theorem Tryd.c_Seq (f t c : Int) (w : World) : Calls Tryd.prog 43 #[.int .i64 f, .int .i32 t, .int .i64 c] w fun e w' => e = .returned (.agg #[.int .i64 f, .int .i32 t, .int .i64 c, .string ⟨#[]⟩]) ∧ Below w.heap.size w w' := by
  go_enter Tryd.func43, Tryd.ntmps43
  go_wp2
  exact bodyPost_ret (v := .agg #[.int .i64 f, .int .i32 t, .int .i64 c, .string ⟨#[]⟩]) (by simp [results, Tryd.results43, go_sem]) rfl ⟨rfl, Aid.b1 _ _⟩
set_option maxRecDepth 100000 in
theorem Tryd.c_List (f : Int) (s : ByteArray) (w : World) : Calls Tryd.prog 42 #[.int .i64 f, .string s] w fun e w' => ∃ s', Aid.Hid2 (s' = s) ∧ e = .returned (.agg #[.int .i64 f, .int .i32 0, .int .i64 0, .string s']) ∧ Below w.heap.size w w' := by
  go_enter Tryd.func42, Tryd.ntmps42
  go_wp2
  exact bodyPost_ret (v := .agg #[.int .i64 f, .int .i32 0, .int .i64 0, .string s]) (by simp [results, Tryd.results42, go_sem]) rfl ⟨s, ⟨rfl⟩, rfl, Aid.b1 _ _⟩
theorem Dia.lv_len (o : List Dia.Row × Int) : (Dia.lv o).length ≤ 1 := by unfold Dia.lv; split <;> simp
set_option maxRecDepth 100000 in
theorem Dia.wan_in : ∀ p ∈ Dia.wanPs, p.In := by
  intro p hp
  simp only [Dia.wanPs, List.mem_cons, List.not_mem_nil, or_false] at hp
  rcases hp with rfl | rfl | rfl | rfl | rfl | rfl | rfl | rfl | rfl | rfl | rfl | rfl | rfl | rfl | rfl | rfl | rfl | rfl | rfl | rfl | rfl | rfl <;> exact ⟨by decide, by decide, by decide, by decide, by decide, by decide, by decide +kernel⟩
/-- New of wansung's pieces -/
theorem Tryd.c_NewW (C : Array Value) (w0 : World) (hC : C.toList = Dia.wanPs.flatMap Dia.Piece.cells) (hT : Tryd.Tabs w0) :
    Calls Tryd.prog 41 #[.slice (some ⟨w0.heap.size, 0, none⟩) 22 22] (w0.alloc (.cells C 67)) fun e w' =>
      ∃ (a : Option Addr) (cap : Nat) (ls : List (List Dia.Row)), e = .returned (.tuple #[.agg #[.slice a ls.length cap], .agg #[.int .i64 0, .int .i64 0]]) ∧ ls.length ≤ 1 ∧ Dia.T w' a cap ls Dia.wanL ∧ Below w0.heap.size w0 w' := by
  refine (Tryd.t_New (some ⟨w0.heap.size, 0, none⟩) Dia.wanPs 22 (w0.alloc (.cells C 67)) (Dia.pieces_new w0 C _ _ hC) Dia.wan_in (by rw [Dia.wan_made]; show Dia.wanL.length ≤ 100000; rw [Dia.wan_len]; decide) (by decide) (hT.below (Aid.b1 _ _))).mono fun e w' ⟨a, cap, A, B, he, ht, h1, _, hb⟩ => ?_
  obtain ⟨rfl, rfl⟩ := h1 (by rw [Dia.wan_made]; show (-1 : Int) < 0; decide)
  rw [Dia.wan_made] at ht
  exact ⟨a, cap, _, he, Dia.lv_len _, ht, Aid.bt (Aid.b1 _ _) hb⟩
set_option maxRecDepth 100000 in
set_option maxHeartbeats 4000000 in
theorem Tryd.c_wtable (w : World) (hT : Tryd.Tabs w) :
    Calls Tryd.prog 28 #[] w fun e w' => ∃ ls : List (List Dia.Row), ls.length ≤ 1 ∧ Dia.IsT ls Dia.wanL w w' e := by
  go_enter Tryd.func28, Tryd.ntmps28
  go_wp2_with fail
  refine (Tryd.c_List _ _ _).mono ?_
  rintro e w1 ⟨s1, h1, rfl, hb⟩
  have hB : Below w.heap.size w w1 := (Aid.b1 _ _).trans (hb.mono (by simp))
  have k0 := Aid.blk hb (heap_alloc_new w _)
  clear hb
  go_wp2_with fail
  refine (Tryd.c_List _ _ _).mono ?_
  rintro e w2 ⟨s2, h2, rfl, hb⟩
  replace hB := Aid.bt hB hb
  replace k0 := Aid.blk hb k0
  clear hb
  go_wp2_with fail
  refine (Tryd.c_Seq _ _ _ _).mono ?_
  rintro e w3 ⟨rfl, hb⟩
  replace hB := Aid.bt hB hb
  replace k0 := Aid.blk hb k0
  clear hb
  go_wp2_with fail
  refine (Tryd.c_Seq _ _ _ _).mono ?_
  rintro e w4 ⟨rfl, hb⟩
  replace hB := Aid.bt hB hb
  replace k0 := Aid.blk hb k0
  clear hb
  go_wp2_with fail
  refine (Tryd.c_Seq _ _ _ _).mono ?_
  rintro e w5 ⟨rfl, hb⟩
  replace hB := Aid.bt hB hb
  replace k0 := Aid.blk hb k0
  clear hb
  go_wp2_with fail
  refine (Tryd.c_Seq _ _ _ _).mono ?_
  rintro e w6 ⟨rfl, hb⟩
  replace hB := Aid.bt hB hb
  replace k0 := Aid.blk hb k0
  clear hb
  go_wp2_with fail
  refine (Tryd.c_Seq _ _ _ _).mono ?_
  rintro e w7 ⟨rfl, hb⟩
  replace hB := Aid.bt hB hb
  replace k0 := Aid.blk hb k0
  clear hb
  go_wp2_with fail
  refine (Tryd.c_Seq _ _ _ _).mono ?_
  rintro e w8 ⟨rfl, hb⟩
  replace hB := Aid.bt hB hb
  replace k0 := Aid.blk hb k0
  clear hb
  go_wp2_with fail
  refine (Tryd.c_Seq _ _ _ _).mono ?_
  rintro e w9 ⟨rfl, hb⟩
  replace hB := Aid.bt hB hb
  replace k0 := Aid.blk hb k0
  clear hb
  go_wp2_with fail
  refine (Tryd.c_Seq _ _ _ _).mono ?_
  rintro e w10 ⟨rfl, hb⟩
  replace hB := Aid.bt hB hb
  replace k0 := Aid.blk hb k0
  clear hb
  go_wp2_with fail
  refine (Tryd.c_Seq _ _ _ _).mono ?_
  rintro e w11 ⟨rfl, hb⟩
  replace hB := Aid.bt hB hb
  replace k0 := Aid.blk hb k0
  clear hb
  go_wp2_with fail
  refine (Tryd.c_Seq _ _ _ _).mono ?_
  rintro e w12 ⟨rfl, hb⟩
  replace hB := Aid.bt hB hb
  replace k0 := Aid.blk hb k0
  clear hb
  go_wp2_with fail
  refine (Tryd.c_Seq _ _ _ _).mono ?_
  rintro e w13 ⟨rfl, hb⟩
  replace hB := Aid.bt hB hb
  replace k0 := Aid.blk hb k0
  clear hb
  go_wp2_with fail
  refine (Tryd.c_List _ _ _).mono ?_
  rintro e w14 ⟨s14, h14, rfl, hb⟩
  replace hB := Aid.bt hB hb
  replace k0 := Aid.blk hb k0
  clear hb
  go_wp2_with fail
  refine (Tryd.c_Seq _ _ _ _).mono ?_
  rintro e w15 ⟨rfl, hb⟩
  replace hB := Aid.bt hB hb
  replace k0 := Aid.blk hb k0
  clear hb
  go_wp2_with fail
  refine (Tryd.c_Seq _ _ _ _).mono ?_
  rintro e w16 ⟨rfl, hb⟩
  replace hB := Aid.bt hB hb
  replace k0 := Aid.blk hb k0
  clear hb
  go_wp2_with fail
  refine (Tryd.c_Seq _ _ _ _).mono ?_
  rintro e w17 ⟨rfl, hb⟩
  replace hB := Aid.bt hB hb
  replace k0 := Aid.blk hb k0
  clear hb
  go_wp2_with fail
  refine (Tryd.c_Seq _ _ _ _).mono ?_
  rintro e w18 ⟨rfl, hb⟩
  replace hB := Aid.bt hB hb
  replace k0 := Aid.blk hb k0
  clear hb
  go_wp2_with fail
  refine (Tryd.c_Seq _ _ _ _).mono ?_
  rintro e w19 ⟨rfl, hb⟩
  replace hB := Aid.bt hB hb
  replace k0 := Aid.blk hb k0
  clear hb
  go_wp2_with fail
  refine (Tryd.c_Seq _ _ _ _).mono ?_
  rintro e w20 ⟨rfl, hb⟩
  replace hB := Aid.bt hB hb
  replace k0 := Aid.blk hb k0
  clear hb
  go_wp2_with fail
  refine (Tryd.c_Seq _ _ _ _).mono ?_
  rintro e w21 ⟨rfl, hb⟩
  replace hB := Aid.bt hB hb
  replace k0 := Aid.blk hb k0
  clear hb
  go_wp2_with fail
  refine (Tryd.c_Seq _ _ _ _).mono ?_
  rintro e w22 ⟨rfl, hb⟩
  replace hB := Aid.bt hB hb
  replace k0 := Aid.blk hb k0
  clear hb
  go_wp2_with fail
  have HN : Aid.Hid2 (∀ C, C.toList = Dia.wanPs.flatMap Dia.Piece.cells → Calls Tryd.prog 41 #[.slice (some ⟨w22.heap.size, 0, none⟩) 22 22] (w22.alloc (.cells C 67)) fun e w' =>
      ∃ (a : Option Addr) (cap : Nat) (ls : List (List Dia.Row)), e = .returned (.tuple #[.agg #[.slice a ls.length cap], .agg #[.int .i64 0, .int .i64 0]]) ∧ ls.length ≤ 1 ∧ Dia.T w' a cap ls Dia.wanL ∧ Below w22.heap.size w22 w') := ⟨fun C hC => Tryd.c_NewW C w22 hC (hT.below hB)⟩
  refine (HN.out _ ?_).mono ?_
  · rw [h1.out, h2.out, h14.out]
    kernel_rfl
  rintro e w23 ⟨x, c, ls, rfl, hl1, ht, hb23⟩
  have k := Aid.blk_alloc (o' := .cells #[.int .i64 0, .int .i64 0] 63) (Aid.blk_alloc (o' := .cells #[.slice x ls.length c] 50) (Aid.blk hb23 k0))
  obtain ⟨p0, p0f⟩ := Aid.one k
  go_wp2
  have hb2 : Below w.heap.size w ((w23.alloc (.cells #[.slice x ls.length c] 50)).alloc (.cells #[.int .i64 0, .int .i64 0] 63)) := Aid.bt (Aid.bt hB hb23) (Aid.b2 _ _ _)
  exact bodyPost_ret (v := .agg #[.slice x ls.length c]) (by simp [results, Tryd.results28, go_sem, p0]) rfl (by
    exact ⟨ls, hl1, x, c, rfl, (ht.below (Aid.b2 w23 (.cells #[.slice x ls.length c] 50) (.cells #[.int .i64 0, .int .i64 0] 63))).set ⟨_, _, k⟩ (by decide) (by decide) (by decide), hb2.setCell (Nat.le_refl _) _⟩)
end Go.Proofs
