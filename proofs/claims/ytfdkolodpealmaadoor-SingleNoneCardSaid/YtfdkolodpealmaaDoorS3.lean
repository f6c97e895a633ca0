/- walks of single: plain, set, ukrainian -/
import Derived.Test.YtfdkolodpealmaaDoorS2
import Derived.Test.YtfdkolodpealmaaDoorT2
namespace Go.Proofs
open Go.RowKit

set_option maxRecDepth 100000 in
theorem Tryd.c_ListH (f : Int) (s : ByteArray) (w : World) : Calls Tryd.prog 23 #[.int .i64 f, .string s] w fun e w' => ∃ s', Aid.Hid2 (s' = s) ∧ e = .returned (.agg #[.int .i64 f, .int .i32 0, .int .i64 0, .string s']) ∧ Below w.heap.size w w' :=
  (Tryd.c_List f s w).mono fun _ _ ⟨h, hb⟩ => ⟨s, ⟨rfl⟩, h, hb⟩
set_option maxRecDepth 100000 in
theorem Tryd.c_plain1 (w : World) : Calls Tryd.prog 22 #[] w fun e w' => e = .returned (.agg #[.int .i64 0, .int .i32 0, .int .i64 128, .string ⟨#[]⟩]) ∧ Below w.heap.size w w' := by
  go_enter Tryd.func22, Tryd.ntmps22
  go_wp2_with fail
  refine (Tryd.c_Seq _ _ _ _).mono ?_
  rintro e w1 ⟨rfl, hb1⟩
  have k0 := Aid.blk hb1 (heap_alloc_new w _)
  obtain ⟨p0, p1, p2, p3, q0, q1, q2, q3⟩ := Aid.four k0
  have hB := Aid.bt (Aid.b1 _ _) hb1
  go_wp2
  exact bodyPost_ret (v := .agg #[.int .i64 0, .int .i32 0, .int .i64 128, .string ⟨#[]⟩]) (by simp [results, Tryd.results22, go_sem, p0, p1, p2, p3]) rfl (by
    exact ⟨rfl, (((hB.setCell (Nat.le_refl _) _).setCell (Nat.le_refl _) _).setCell (Nat.le_refl _) _).setCell (Nat.le_refl _) _⟩)
/-- a charset is handed back -/
def Dia.IsSet (c : Int) (l : List (Int × Int)) (w w' : World) (e : Ending) : Prop :=
  ∃ (a : Option Addr) (cap : Nat) (ls : List (List Dia.Row)), e = .returned (.agg #[.slice a ls.length cap, .int .i64 c]) ∧ ls.length ≤ 2 ∧ Dia.T w' a cap ls l ∧ Below w.heap.size w w'
set_option maxRecDepth 100000 in
set_option maxHeartbeats 1000000 in
theorem Tryd.c_set1 (n : Nat) (c : Int) (ps : List Dia.Piece) (l : List (Int × Int)) (C : Array Value) (w0 : World) (hC : C.toList = ps.flatMap Dia.Piece.cells) (hn : ps.length = n) (h12 : n ≤ 12) (hin : ∀ p ∈ ps, p.In) (hg : l.length ≤ 100000) (hl : Dia.madeL [] 0 ps = (l, -1)) (hT : Tryd.Tabs w0) :
    Calls Tryd.prog 20 #[.int .i64 c, .slice (some ⟨w0.heap.size, 0, none⟩) n n] (w0.alloc (.cells C 55)) fun e w' => Dia.IsSet c l w0 w' e := by
  subst hn
  have hpw := Dia.pieces_new w0 C 55 ps hC
  have hTw := hT.below (Aid.b1 w0 (.cells C 55))
  have hB0 := Aid.b1 w0 (.cells C 55)
  have HB0 := Aid.Hid2.mk hB0
  clear hT hC hB0
  generalize w0.alloc (.cells C 55) = w at *
  generalize (some ⟨w0.heap.size, 0, none⟩ : Option Addr) = a at *
  have HN : Aid.Hid2 (∀ w1, Below w.heap.size w w1 → Calls Tryd.prog 38 #[.slice a ps.length ps.length] w1 fun e w' => Dia.IsNK l w1 w' e) := ⟨fun w1 hb => by
    refine (Tryd.t_New a ps ps.length w1 (hpw.below hb) hin (by rw [hl]; exact hg) (by omega) (hTw.below hb)).mono fun e w' ⟨a, cap, A, B, he, ht, h1, _, hb⟩ => ?_
    obtain ⟨rfl, rfl⟩ := h1 (by rw [hl]; show (-1 : Int) < 0; decide)
    rw [hl] at ht
    exact ⟨a, cap, _, he, Dia.lv_len _, ht, hb⟩⟩
  clear hpw hTw hl hin
  go_enter Tryd.func20, Tryd.ntmps20
  go_wp2_with fail
  refine (HN.out _ (Aid.b1 _ _)).mono ?_
  rintro e w1 ⟨x, cap, ls, rfl, hn1, ht, hb1⟩
  have k0 := Aid.blk hb1 (heap_alloc_new w _)
  have hB1 := Aid.bt (Aid.b1 _ _) hb1
  have k1 := Aid.blk_alloc (o' := .cells #[.int .i64 0, .int .i64 0] 40) (Aid.blk_alloc (o' := .cells #[.slice x ls.length cap] 24) k0)
  obtain ⟨p0, p1, q0, q1⟩ := Aid.two k1
  go_wp2
  have hb2 : Below w.heap.size w ((w1.alloc (.cells #[.slice x ls.length cap] 24)).alloc (.cells #[.int .i64 0, .int .i64 0] 40)) := Aid.bt hB1 (Aid.b2 _ _ _)
  exact bodyPost_ret (v := .agg #[.slice x ls.length cap, .int .i64 c]) (by simp [results, Tryd.results20, go_sem, p0, p1]) rfl (by
    exact ⟨x, cap, ls, rfl, by omega, ((ht.below (Aid.b2 w1 (.cells #[.slice x ls.length cap] 24) (.cells #[.int .i64 0, .int .i64 0] 40))).set ⟨_, _, k1⟩ (by decide) (by decide) (by decide)).set (Aid.Tag.set ⟨_, _, k1⟩) (by decide) (by decide) (by decide), Aid.bt HB0.out ((hb2.setCell (Nat.le_refl _) _).setCell (Nat.le_refl _) _)⟩)
theorem Dia.sinLU_len : Dia.sinLU.length = 8 := rfl
theorem Dia.sinL_len {c : Int} (h : 0 ≤ c ∧ c ≤ 3) : (Dia.sinL c).length = 256 := by unfold Dia.sinL; rw [Dia.pairsF_len, Dia.sinS_len c h]
set_option maxRecDepth 100000 in
theorem Dia.sinPU_in : ∀ p ∈ Dia.sinPU, p.In := by
  intro p hp
  simp only [Dia.sinPU, List.mem_cons, List.not_mem_nil, or_false] at hp
  rcases hp with rfl | rfl | rfl | rfl | rfl | rfl <;> exact ⟨by decide, by decide, by decide, by decide, by decide, by decide, by decide⟩
set_option maxRecDepth 100000 in
set_option maxHeartbeats 1000000 in
theorem Tryd.c_ukr (w : World) (hT : Tryd.Tabs w) :
    Calls Tryd.prog 24 #[] w fun e w' => ∃ ls : List (List Dia.Row), ls.length ≤ 1 ∧ Dia.IsT ls Dia.sinLU w w' e := by
  have HT := Aid.Hid2.mk hT
  clear hT
  go_enter Tryd.func24, Tryd.ntmps24
  go_wp2_with fail
  refine (Tryd.c_List _ _ _).mono ?_
  rintro e w1 ⟨rfl, hb⟩
  have hB : Below w.heap.size w w1 := (Aid.b1 _ _).trans (hb.mono (by simp))
  have k0 := Aid.blk hb (heap_alloc_new w _)
  clear hb
  go_wp2_with fail
  refine (Tryd.c_List _ _ _).mono ?_
  rintro e w2 ⟨rfl, hb⟩
  replace hB := Aid.bt hB hb
  replace k0 := Aid.blk hb k0
  clear hb
  go_wp2_with fail
  refine (Tryd.c_List _ _ _).mono ?_
  rintro e w3 ⟨rfl, hb⟩
  replace hB := Aid.bt hB hb
  replace k0 := Aid.blk hb k0
  clear hb
  go_wp2_with fail
  refine (Tryd.c_List _ _ _).mono ?_
  rintro e w4 ⟨rfl, hb⟩
  replace hB := Aid.bt hB hb
  replace k0 := Aid.blk hb k0
  clear hb
  go_wp2_with fail
  refine (Tryd.c_List _ _ _).mono ?_
  rintro e w5 ⟨rfl, hb⟩
  replace hB := Aid.bt hB hb
  replace k0 := Aid.blk hb k0
  clear hb
  go_wp2_with fail
  refine (Tryd.c_List _ _ _).mono ?_
  rintro e w6 ⟨rfl, hb⟩
  replace hB := Aid.bt hB hb
  replace k0 := Aid.blk hb k0
  clear hb
  have HN : Aid.Hid2 (∀ C, C.toList = Dia.sinPU.flatMap Dia.Piece.cells → Calls Tryd.prog 38 #[.slice (some ⟨w6.heap.size, 0, none⟩) 6 6] (w6.alloc (.cells C 55)) fun e w' => Dia.IsNK Dia.sinLU w6 w' e) :=
    ⟨fun C hC => Tryd.c_NewK 6 Dia.sinPU Dia.sinLU C w6 hC rfl (by decide) Dia.sinPU_in (by rw [Dia.sinLU_len]; decide) Dia.sin_madeU (HT.out.below hB)⟩
  go_wp2_with fail
  refine (HN.out _ rfl).mono ?_
  rintro e w7 ⟨x, c, ls, rfl, hl1, ht, hb7⟩
  have k := Aid.blk_alloc (o' := .cells #[.int .i64 0, .int .i64 0] 40) (Aid.blk_alloc (o' := .cells #[.slice x ls.length c] 24) (Aid.blk hb7 k0))
  obtain ⟨p0, p0f⟩ := Aid.one k
  go_wp2
  have hb2 : Below w.heap.size w ((w7.alloc (.cells #[.slice x ls.length c] 24)).alloc (.cells #[.int .i64 0, .int .i64 0] 40)) := Aid.bt (Aid.bt hB hb7) (Aid.b2 _ _ _)
  exact bodyPost_ret (v := .agg #[.slice x ls.length c]) (by simp [results, Tryd.results24, go_sem, p0]) rfl (by
    exact ⟨ls, hl1, x, c, rfl, (ht.below (Aid.b2 w7 (.cells #[.slice x ls.length c] 24) (.cells #[.int .i64 0, .int .i64 0] 40))).set ⟨_, _, k⟩ (by decide) (by decide) (by decide), hb2.setCell (Nat.le_refl _) _⟩)
end Go.Proofs
