/- walks of wansung: its table; walks of wansung's reference: Nth, span, Row -/
import Derived.Test.YtoaojojapebamaaGreatDoorM23
import Derived.Test.YtoaojojapebamaaGreatDoorM33
import Derived.Test.YtoaojojapebamaaGreatDoorM25
namespace Go.Proofs
open Go.RowKit

set_option maxRecDepth 100000 in
theorem Tryz.c_ListW (f : Int) (s : ByteArray) (w : World) : Calls Tryz.prog 42 #[.int .i64 f, .string s] w fun e w' => ∃ s', Aid.Hid2 (s' = s) ∧ e = .returned (.agg #[.int .i64 f, .int .i32 0, .int .i64 0, .string s']) ∧ Below w.heap.size w w' := by
  go_enter Tryz.func42, Tryz.ntmps42
  go_wp2
  exact bodyPost_ret (v := .agg #[.int .i64 f, .int .i32 0, .int .i64 0, .string s]) (by simp [results, Tryz.results42, go_sem]) rfl ⟨s, ⟨rfl⟩, rfl, Aid.b1 _ _⟩
set_option maxRecDepth 100000 in
theorem Dia.wan_in : ∀ p ∈ Dia.wanPs, p.In := by
  intro p hp
  simp only [Dia.wanPs, List.mem_cons, List.not_mem_nil, or_false] at hp
  rcases hp with rfl | rfl | rfl | rfl | rfl | rfl | rfl | rfl | rfl | rfl | rfl | rfl | rfl | rfl | rfl | rfl | rfl | rfl | rfl | rfl | rfl | rfl <;> exact ⟨by decide, by decide, by decide, by decide, by decide, by decide, by decide +kernel⟩
/-- New of wansung's pieces -/
theorem Tryz.c_NewW (C : Array Value) (w0 : World) (hC : C.toList = Dia.wanPs.flatMap Dia.Piece.cells) (hT : Tryz.Tabs w0) :
    Calls Tryz.prog 67 #[.slice (some ⟨w0.heap.size, 0, none⟩) 22 22] (w0.alloc (.cells C 68)) fun e w' =>
      ∃ (a : Option Addr) (cap : Nat) (ls : List (List Dia.Row)), e = .returned (.tuple #[.agg #[.slice a ls.length cap], .agg #[.int .i64 0, .int .i64 0]]) ∧ ls.length ≤ 1 ∧ Dia.T w' a cap ls Dia.wanL ∧ Below w0.heap.size w0 w' := by
  refine (Tryz.t_New (some ⟨w0.heap.size, 0, none⟩) Dia.wanPs 22 (w0.alloc (.cells C 68)) (Dia.pieces_new w0 C _ _ hC) Dia.wan_in (by rw [Dia.wan_made]; show Dia.wanL.length ≤ 100000; rw [Dia.wan_len]; decide) (by decide) (hT.below (Aid.b1 _ _))).mono fun e w' ⟨a, cap, A, B, he, ht, h1, _, hb⟩ => ?_
  obtain ⟨rfl, rfl⟩ := h1 (by rw [Dia.wan_made]; show (-1 : Int) < 0; decide)
  rw [Dia.wan_made] at ht
  exact ⟨a, cap, _, he, Dia.lv_len _, ht, Aid.bt (Aid.b1 _ _) hb⟩
set_option maxRecDepth 100000 in
set_option maxHeartbeats 4000000 in
theorem Tryz.c_wtable (w : World) (hT : Tryz.Tabs w) :
    Calls Tryz.prog 57 #[] w fun e w' => ∃ ls : List (List Dia.Row), ls.length ≤ 1 ∧ Dia.IsT ls Dia.wanL w w' e := by
  go_enter Tryz.func57, Tryz.ntmps57
  go_wp2_with fail
  refine (Tryz.c_ListW _ _ _).mono ?_
  rintro e w1 ⟨s1, h1, rfl, hb⟩
  have hB : Below w.heap.size w w1 := (Aid.b1 _ _).trans (hb.mono (by simp))
  have k0 := Aid.blk hb (heap_alloc_new w _)
  clear hb
  go_wp2_with fail
  refine (Tryz.c_ListW _ _ _).mono ?_
  rintro e w2 ⟨s2, h2, rfl, hb⟩
  replace hB := Aid.bt hB hb
  replace k0 := Aid.blk hb k0
  clear hb
  go_wp2_with fail
  refine (Tryz.c_Seq _ _ _ _).mono ?_
  rintro e w3 ⟨rfl, hb⟩
  replace hB := Aid.bt hB hb
  replace k0 := Aid.blk hb k0
  clear hb
  go_wp2_with fail
  refine (Tryz.c_Seq _ _ _ _).mono ?_
  rintro e w4 ⟨rfl, hb⟩
  replace hB := Aid.bt hB hb
  replace k0 := Aid.blk hb k0
  clear hb
  go_wp2_with fail
  refine (Tryz.c_Seq _ _ _ _).mono ?_
  rintro e w5 ⟨rfl, hb⟩
  replace hB := Aid.bt hB hb
  replace k0 := Aid.blk hb k0
  clear hb
  go_wp2_with fail
  refine (Tryz.c_Seq _ _ _ _).mono ?_
  rintro e w6 ⟨rfl, hb⟩
  replace hB := Aid.bt hB hb
  replace k0 := Aid.blk hb k0
  clear hb
  go_wp2_with fail
  refine (Tryz.c_Seq _ _ _ _).mono ?_
  rintro e w7 ⟨rfl, hb⟩
  replace hB := Aid.bt hB hb
  replace k0 := Aid.blk hb k0
  clear hb
  go_wp2_with fail
  refine (Tryz.c_Seq _ _ _ _).mono ?_
  rintro e w8 ⟨rfl, hb⟩
  replace hB := Aid.bt hB hb
  replace k0 := Aid.blk hb k0
  clear hb
  go_wp2_with fail
  refine (Tryz.c_Seq _ _ _ _).mono ?_
  rintro e w9 ⟨rfl, hb⟩
  replace hB := Aid.bt hB hb
  replace k0 := Aid.blk hb k0
  clear hb
  go_wp2_with fail
  refine (Tryz.c_Seq _ _ _ _).mono ?_
  rintro e w10 ⟨rfl, hb⟩
  replace hB := Aid.bt hB hb
  replace k0 := Aid.blk hb k0
  clear hb
  go_wp2_with fail
  refine (Tryz.c_Seq _ _ _ _).mono ?_
  rintro e w11 ⟨rfl, hb⟩
  replace hB := Aid.bt hB hb
  replace k0 := Aid.blk hb k0
  clear hb
  go_wp2_with fail
  refine (Tryz.c_Seq _ _ _ _).mono ?_
  rintro e w12 ⟨rfl, hb⟩
  replace hB := Aid.bt hB hb
  replace k0 := Aid.blk hb k0
  clear hb
  go_wp2_with fail
  refine (Tryz.c_Seq _ _ _ _).mono ?_
  rintro e w13 ⟨rfl, hb⟩
  replace hB := Aid.bt hB hb
  replace k0 := Aid.blk hb k0
  clear hb
  go_wp2_with fail
  refine (Tryz.c_ListW _ _ _).mono ?_
  rintro e w14 ⟨s14, h14, rfl, hb⟩
  replace hB := Aid.bt hB hb
  replace k0 := Aid.blk hb k0
  clear hb
  go_wp2_with fail
  refine (Tryz.c_Seq _ _ _ _).mono ?_
  rintro e w15 ⟨rfl, hb⟩
  replace hB := Aid.bt hB hb
  replace k0 := Aid.blk hb k0
  clear hb
  go_wp2_with fail
  refine (Tryz.c_Seq _ _ _ _).mono ?_
  rintro e w16 ⟨rfl, hb⟩
  replace hB := Aid.bt hB hb
  replace k0 := Aid.blk hb k0
  clear hb
  go_wp2_with fail
  refine (Tryz.c_Seq _ _ _ _).mono ?_
  rintro e w17 ⟨rfl, hb⟩
  replace hB := Aid.bt hB hb
  replace k0 := Aid.blk hb k0
  clear hb
  go_wp2_with fail
  refine (Tryz.c_Seq _ _ _ _).mono ?_
  rintro e w18 ⟨rfl, hb⟩
  replace hB := Aid.bt hB hb
  replace k0 := Aid.blk hb k0
  clear hb
  go_wp2_with fail
  refine (Tryz.c_Seq _ _ _ _).mono ?_
  rintro e w19 ⟨rfl, hb⟩
  replace hB := Aid.bt hB hb
  replace k0 := Aid.blk hb k0
  clear hb
  go_wp2_with fail
  refine (Tryz.c_Seq _ _ _ _).mono ?_
  rintro e w20 ⟨rfl, hb⟩
  replace hB := Aid.bt hB hb
  replace k0 := Aid.blk hb k0
  clear hb
  go_wp2_with fail
  refine (Tryz.c_Seq _ _ _ _).mono ?_
  rintro e w21 ⟨rfl, hb⟩
  replace hB := Aid.bt hB hb
  replace k0 := Aid.blk hb k0
  clear hb
  go_wp2_with fail
  refine (Tryz.c_Seq _ _ _ _).mono ?_
  rintro e w22 ⟨rfl, hb⟩
  replace hB := Aid.bt hB hb
  replace k0 := Aid.blk hb k0
  clear hb
  go_wp2_with fail
  have HN : Aid.Hid2 (∀ C, C.toList = Dia.wanPs.flatMap Dia.Piece.cells → Calls Tryz.prog 67 #[.slice (some ⟨w22.heap.size, 0, none⟩) 22 22] (w22.alloc (.cells C 68)) fun e w' =>
      ∃ (a : Option Addr) (cap : Nat) (ls : List (List Dia.Row)), e = .returned (.tuple #[.agg #[.slice a ls.length cap], .agg #[.int .i64 0, .int .i64 0]]) ∧ ls.length ≤ 1 ∧ Dia.T w' a cap ls Dia.wanL ∧ Below w22.heap.size w22 w') := ⟨fun C hC => Tryz.c_NewW C w22 hC (hT.below hB)⟩
  refine (HN.out _ ?_).mono ?_
  · rw [h1.out, h2.out, h14.out]
    kernel_rfl
  rintro e w23 ⟨x, c, ls, rfl, hl1, ht, hb23⟩
  have k := Aid.blk_alloc (o' := .cells #[.int .i64 0, .int .i64 0] 26) (Aid.blk_alloc (o' := .cells #[.slice x ls.length c] 43) (Aid.blk hb23 k0))
  obtain ⟨p0, p0f⟩ := Aid.one k
  go_wp2
  have hb2 : Below w.heap.size w ((w23.alloc (.cells #[.slice x ls.length c] 43)).alloc (.cells #[.int .i64 0, .int .i64 0] 26)) := Aid.bt (Aid.bt hB hb23) (Aid.b2 _ _ _)
  exact bodyPost_ret (v := .agg #[.slice x ls.length c]) (by simp [results, Tryz.results57, go_sem, p0]) rfl (by
    exact ⟨ls, hl1, x, c, rfl, (ht.below (Aid.b2 w23 (.cells #[.slice x ls.length c] 43) (.cells #[.int .i64 0, .int .i64 0] 26))).set ⟨_, _, k⟩ (by decide) (by decide) (by decide), hb2.setCell (Nat.le_refl _) _⟩)
end Go.Proofs
namespace Go.Proofs
open Go.RowKit

def Dia.span (b f l p : Int) : Int := if b < f ∨ l < b then 0 else p + (b - f)
namespace Dia
set_option maxRecDepth 100000
theorem row0 : ∀ j : Nat, j < 94 → wanPS.getD j 0 = wAt 0 j := by decide +kernel
theorem row1 : ∀ j : Nat, j < 94 → (if j < 71 then wanMS.getD j 0 else 0) = wAt 1 j := by decide +kernel
theorem row2 : ∀ j : Nat, j < 94 → (if j = 59 then 65510 else if j = 93 then 65507 else 65281 + (j : Int)) = wAt 2 j := by decide +kernel
theorem row3 : ∀ j : Nat, j < 94 → 12593 + (j : Int) = wAt 3 j := by decide +kernel
theorem row4 : ∀ j : Nat, j < 94 → Dia.span (161 + (j : Int)) 161 170 8560 + Dia.span (161 + (j : Int)) 176 185 8544 + Dia.span (161 + (j : Int)) 193 209 913 + Dia.span (161 + (j : Int)) 210 216 931 + Dia.span (161 + (j : Int)) 225 241 945 + Dia.span (161 + (j : Int)) 242 248 963 = wAt 4 j := by decide +kernel
theorem row5 : ∀ j : Nat, j < 94 → (if j < 68 then wanFS.getD j 0 else 0) = wAt 5 j := by decide +kernel
theorem row9 : ∀ j : Nat, j < 94 → Dia.span (161 + (j : Int)) 161 243 12353 = wAt 9 j := by decide +kernel
theorem row10 : ∀ j : Nat, j < 94 → Dia.span (161 + (j : Int)) 161 246 12449 = wAt 10 j := by decide +kernel
theorem row11 : ∀ j : Nat, j < 94 → Dia.span (161 + (j : Int)) 161 166 1040 + Dia.span (161 + (j : Int)) 167 167 1025 + Dia.span (161 + (j : Int)) 168 193 1046 + Dia.span (161 + (j : Int)) 209 214 1072 + Dia.span (161 + (j : Int)) 215 215 1105 + Dia.span (161 + (j : Int)) 216 241 1078 = wAt 11 j := by decide +kernel
theorem row678 : ∀ j : Nat, j < 94 → wAt 6 j = 0 ∧ wAt 7 j = 0 ∧ wAt 8 j = 0 := by decide +kernel
theorem row12 (m j : Nat) (h : 12 ≤ m) : wAt m j = 0 := by
  unfold wAt
  rw [List.getD_eq_getElem?_getD (l := wanW), List.getElem?_eq_none (by rw [wanW_len.1]; exact h)]
  rfl
theorem wan_lens : wanPS.length = 94 ∧ wanMS.length = 71 ∧ wanFS.length = 68 ∧ wanP.length ≤ 1000 ∧ wanM.length ≤ 1000 ∧ wanF.length ≤ 1000 := by decide +kernel
theorem span_bd (b f l p : Int) (hb : 0 ≤ b ∧ b ≤ 255) (hf : 0 ≤ f ∧ f ≤ 255) (hp : 0 ≤ p ∧ p ≤ 100000) : 0 ≤ span b f l p ∧ span b f l p ≤ 100255 := by
  unfold span; split <;> omega
end Dia
end Go.Proofs
