/- walks of big5: its table -/
import Derived.Test.YtdbpliheggbmdaaDoorB2
namespace Go.Proofs
open Go.RowKit

/-- a piece's cells -/
def Dia.Piece.cells (p : Dia.Piece) : List Value := [.int .i64 p.from', .int .i32 p.to, .int .i64 p.count, .string ⟨p.text.toArray⟩]
theorem Dia.pieces_new (w : World) (C : Array Value) (T : TypeId) (ps : List Dia.Piece) (h : C.toList = ps.flatMap Dia.Piece.cells) : Dia.PiecesAt (w.alloc (.cells C T)) (some ⟨w.heap.size, 0, none⟩) ps := by
  refine .inr ⟨w.heap.size, 0, rfl, fun k p hk => ?_⟩
  have c := fun j v hj => Aid.cells_new w C T (0, 0) _ h (k * 4 + j) v (Aid.flat_get Dia.Piece.cells 4 (fun _ => rfl) ps k j p v hk hj)
  have hp : ∀ j, (⟨w.heap.size, 0, none⟩ : Addr).add j = ⟨w.heap.size, 0 + j, none⟩ := by intro j; unfold Addr.add; split <;> simp_all
  have c0 := c 0 _ rfl
  have c1 := c 1 _ rfl
  have c2 := c 2 _ rfl
  have c3 := c 3 _ rfl
  rw [hp] at c0 c1 c2 c3
  exact ⟨c0, c1, c2, c3⟩
set_option maxRecDepth 100000 in
theorem Tryd.c_List (f : Int) (s : ByteArray) (w : World) : Calls Tryd.prog 36 #[.int .i64 f, .string s] w fun e w' => ∃ s', Aid.Hid2 (s' = s) ∧ e = .returned (.agg #[.int .i64 f, .int .i32 0, .int .i64 0, .string s']) ∧ Below w.heap.size w w' := by
  go_enter Tryd.func36, Tryd.ntmps36
  go_wp2
  exact bodyPost_ret (v := .agg #[.int .i64 f, .int .i32 0, .int .i64 0, .string s]) (by simp [results, Tryd.results36, go_sem]) rfl ⟨s, ⟨rfl⟩, rfl, Aid.b1 _ _⟩
theorem Dia.lv_len (o : List Dia.Row × Int) : (Dia.lv o).length ≤ 1 := by unfold Dia.lv; split <;> simp
set_option maxRecDepth 100000 in
theorem Dia.big_in : ∀ p ∈ Dia.bigPs, p.In := by
  intro p hp
  simp only [Dia.bigPs, List.mem_cons, List.not_mem_nil, or_false] at hp
  rcases hp with rfl | rfl | rfl | rfl | rfl | rfl | rfl | rfl | rfl <;> exact ⟨by decide, by decide, by decide, by decide, by decide, by decide, by decide +kernel⟩
theorem Dia.big_len : Dia.bigL.length ≤ 100000 := by decide +kernel
/-- New of big5's pieces -/
theorem Tryd.c_NewB (C : Array Value) (w0 : World) (hC : C.toList = Dia.bigPs.flatMap Dia.Piece.cells) (hT : Tryd.Tabs w0) :
    Calls Tryd.prog 35 #[.slice (some ⟨w0.heap.size, 0, none⟩) 9 9] (w0.alloc (.cells C 76)) fun e w' =>
      ∃ (a : Option Addr) (cap : Nat) (ls : List (List Dia.Row)), e = .returned (.tuple #[.agg #[.slice a ls.length cap], .agg #[.int .i64 0, .int .i64 0]]) ∧ ls.length ≤ 1 ∧ Dia.T w' a cap ls Dia.bigL ∧ Below w0.heap.size w0 w' := by
  refine (Tryd.t_New (some ⟨w0.heap.size, 0, none⟩) Dia.bigPs 9 (w0.alloc (.cells C 76)) (Dia.pieces_new w0 C _ _ hC) Dia.big_in (by rw [Dia.big_made]; exact Dia.big_len) (by decide) (hT.below (Aid.b1 _ _))).mono fun e w' ⟨a, cap, A, B, he, ht, h1, _, hb⟩ => ?_
  obtain ⟨rfl, rfl⟩ := h1 (by rw [Dia.big_made]; show (-1 : Int) < 0; decide)
  rw [Dia.big_made] at ht
  exact ⟨a, cap, _, he, Dia.lv_len _, ht, Aid.bt (Aid.b1 _ _) hb⟩
set_option maxRecDepth 100000 in
set_option maxHeartbeats 2000000 in
theorem Tryd.c_btable (w : World) (hT : Tryd.Tabs w) :
    Calls Tryd.prog 18 #[] w fun e w' => ∃ ls : List (List Dia.Row), ls.length ≤ 1 ∧ Dia.IsT ls Dia.bigL w w' e := by
  go_enter Tryd.func18, Tryd.ntmps18
  go_wp2_with fail
  refine (Tryd.c_List _ _ _).mono ?_
  rintro e w1 ⟨s1, h1, rfl, hb⟩
  have hB : Below w.heap.size w w1 := (Aid.b1 _ _).trans (hb.mono (by simp))
  have k0 := Aid.blk hb (heap_alloc_new w _)
  clear hb
  go_wp2_with fail
  refine (Tryd.c_List _ _ _).mono ?_
  rintro e w2 ⟨s2, h2, rfl, hb⟩
  replace hB := Aid.bt hB hb
  replace k0 := Aid.blk hb k0
  clear hb
  go_wp2_with fail
  refine (Tryd.c_List _ _ _).mono ?_
  rintro e w3 ⟨s3, h3, rfl, hb⟩
  replace hB := Aid.bt hB hb
  replace k0 := Aid.blk hb k0
  clear hb
  go_wp2_with fail
  refine (Tryd.c_List _ _ _).mono ?_
  rintro e w4 ⟨s4, h4, rfl, hb⟩
  replace hB := Aid.bt hB hb
  replace k0 := Aid.blk hb k0
  clear hb
  go_wp2_with fail
  refine (Tryd.c_List _ _ _).mono ?_
  rintro e w5 ⟨s5, h5, rfl, hb⟩
  replace hB := Aid.bt hB hb
  replace k0 := Aid.blk hb k0
  clear hb
  go_wp2_with fail
  refine (Tryd.c_brow _ _ (by decide)).mono ?_
  rintro e w6 ⟨rfl, rfl⟩
  go_wp2_with fail
  refine (Tryd.c_List _ _ _).mono ?_
  rintro e w7 ⟨s6, h6, rfl, hb⟩
  replace hB := Aid.bt hB hb
  replace k0 := Aid.blk hb k0
  clear hb
  go_wp2_with fail
  refine (Tryd.c_brow _ _ (by decide)).mono ?_
  rintro e w8 ⟨rfl, rfl⟩
  go_wp2_with fail
  refine (Tryd.c_List _ _ _).mono ?_
  rintro e w9 ⟨s7, h7, rfl, hb⟩
  replace hB := Aid.bt hB hb
  replace k0 := Aid.blk hb k0
  clear hb
  go_wp2_with fail
  refine (Tryd.c_brow _ _ (by decide)).mono ?_
  rintro e w10 ⟨rfl, rfl⟩
  go_wp2_with fail
  refine (Tryd.c_List _ _ _).mono ?_
  rintro e w11 ⟨s8, h8, rfl, hb⟩
  replace hB := Aid.bt hB hb
  replace k0 := Aid.blk hb k0
  clear hb
  go_wp2_with fail
  refine (Tryd.c_brow _ _ (by decide)).mono ?_
  rintro e w12 ⟨rfl, rfl⟩
  go_wp2_with fail
  refine (Tryd.c_List _ _ _).mono ?_
  rintro e w13 ⟨s9, h9, rfl, hb⟩
  replace hB := Aid.bt hB hb
  replace k0 := Aid.blk hb k0
  clear hb
  go_wp2_with fail
  have HN : Aid.Hid2 (∀ C, C.toList = Dia.bigPs.flatMap Dia.Piece.cells → Calls Tryd.prog 35 #[.slice (some ⟨w13.heap.size, 0, none⟩) 9 9] (w13.alloc (.cells C 76)) fun e w' =>
      ∃ (a : Option Addr) (cap : Nat) (ls : List (List Dia.Row)), e = .returned (.tuple #[.agg #[.slice a ls.length cap], .agg #[.int .i64 0, .int .i64 0]]) ∧ ls.length ≤ 1 ∧ Dia.T w' a cap ls Dia.bigL ∧ Below w13.heap.size w13 w') := ⟨fun C hC => Tryd.c_NewB C w13 hC (hT.below hB)⟩
  refine (HN.out _ ?_).mono ?_
  · rw [h1.out, h2.out, h3.out, h4.out, h5.out, h6.out, h7.out, h8.out, h9.out]
    kernel_rfl
  rintro e w14 ⟨x, c, ls, rfl, hl1, ht, hb14⟩
  have k := Aid.blk_alloc (o' := .cells #[.int .i64 0, .int .i64 0] 72) (Aid.blk_alloc (o' := .cells #[.slice x ls.length c] 54) (Aid.blk hb14 k0))
  obtain ⟨p0, p0f⟩ := Aid.one k
  go_wp2
  have hb2 : Below w.heap.size w ((w14.alloc (.cells #[.slice x ls.length c] 54)).alloc (.cells #[.int .i64 0, .int .i64 0] 72)) := Aid.bt (Aid.bt hB hb14) (Aid.b2 _ _ _)
  exact bodyPost_ret (v := .agg #[.slice x ls.length c]) (by simp [results, Tryd.results18, go_sem, p0]) rfl (by
    exact ⟨ls, hl1, x, c, rfl, (ht.below (Aid.b2 w14 (.cells #[.slice x ls.length c] 54) (.cells #[.int .i64 0, .int .i64 0] 72))).set ⟨_, _, k⟩ (by decide) (by decide) (by decide), hb2.setCell (Nat.le_refl _) _⟩)
end Go.Proofs
