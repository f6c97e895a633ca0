/- walks of big5: row, cell, code; walks of big5: its table -/
import Derived.Test.YtoaojojapebamaaGreatDoorM16
import Derived.Test.YtoaojojapebamaaGreatDoorM21
import Derived.Test.YtoaojojapebamaaGreatDoorM23
namespace Go.Proofs
open Go.RowKit

def Dia.bcell (b : Int) : Int × Bool := if 64 ≤ b ∧ b ≤ 126 then (b - 64, true) else if 161 ≤ b ∧ b ≤ 254 then (b - 161 + 63, true) else (0, false)
def Dia.bcode (k : Int) : Int := (129 + k / 157) * 256 + (if k % 157 < 63 then k % 157 + 64 else k % 157 + 98)

set_option maxRecDepth 100000 in
theorem Tryz.c_brow (l : Int) (w : World) (h : 0 ≤ l ∧ l ≤ 255) :
    Calls Tryz.prog 84 #[.int .i64 l] w fun e w' => e = .returned (.int .i64 ((l - 129) * 157)) ∧ w = w' := by
  obtain ⟨h0, h1⟩ := h
  have e1 : IntKind.i64.wrap (l - 129) = l - 129 := IntWalk.i64_in _ (by omega)
  have e2 : IntKind.i64.wrap ((l - 129) * 157) = (l - 129) * 157 := IntWalk.i64_in _ (by omega)
  go_enter Tryz.func84, Tryz.ntmps84
  go_wp2
  go_ret
  exact ⟨by go_num, rfl⟩
set_option maxRecDepth 100000 in
theorem Tryz.c_bcell (b : Int) (w : World) (h : 0 ≤ b ∧ b ≤ 255) :
    Calls Tryz.prog 82 #[.int .u8 b] w fun e w' => e = .returned (.tuple #[.int .i64 (Dia.bcell b).1, .bool (Dia.bcell b).2]) ∧ w = w' := by
  obtain ⟨h0, h1⟩ := h
  have e1 : IntKind.i64.wrap (b - 64) = b - 64 := IntWalk.i64_in _ (by omega)
  have e2 : IntKind.i64.wrap (b - 161) = b - 161 := IntWalk.i64_in _ (by omega)
  have e3 : IntKind.i64.wrap (b - 161 + 63) = b - 161 + 63 := IntWalk.i64_in _ (by omega)
  by_cases c1 : 64 ≤ b
  · by_cases c2 : b ≤ 126
    · have HB : Aid.Hid2 (Dia.bcell b = (b - 64, true)) := ⟨by unfold Dia.bcell; rw [if_pos ⟨c1, c2⟩]⟩
      rw [HB.out]
      go_enter Tryz.func82, Tryz.ntmps82
      go_wp2
      go_ret2
      exact ⟨by go_num, rfl⟩
    · by_cases c3 : 161 ≤ b
      · by_cases c4 : b ≤ 254
        · have HB : Aid.Hid2 (Dia.bcell b = (b - 161 + 63, true)) := ⟨by unfold Dia.bcell; rw [if_neg (by omega), if_pos ⟨c3, c4⟩]⟩
          rw [HB.out]
          go_enter Tryz.func82, Tryz.ntmps82
          go_wp2
          go_ret2
          exact ⟨by go_num, rfl⟩
        · have HB : Aid.Hid2 (Dia.bcell b = (0, false)) := ⟨by unfold Dia.bcell; rw [if_neg (by omega), if_neg (by omega)]⟩
          rw [HB.out]
          go_enter Tryz.func82, Tryz.ntmps82
          go_wp2
          go_ret2
          exact ⟨rfl, rfl⟩
      · have HB : Aid.Hid2 (Dia.bcell b = (0, false)) := ⟨by unfold Dia.bcell; rw [if_neg (by omega), if_neg (by omega)]⟩
        rw [HB.out]
        go_enter Tryz.func82, Tryz.ntmps82
        go_wp2
        go_ret2
        exact ⟨rfl, rfl⟩
  · have HB : Aid.Hid2 (Dia.bcell b = (0, false)) := ⟨by unfold Dia.bcell; rw [if_neg (by omega), if_neg (by omega)]⟩
    rw [HB.out]
    go_enter Tryz.func82, Tryz.ntmps82
    go_wp2
    go_ret2
    exact ⟨rfl, rfl⟩
theorem Dia.or256 (a c : Int) (h0 : 0 ≤ a) (h1 : a ≤ 100000) (c0 : 0 ≤ c) (c1 : c < 256) : bits .or .i64 (a * 256) c = a * 256 + c := by
  obtain ⟨n, rfl⟩ := Int.eq_ofNat_of_zero_le h0
  obtain ⟨m, rfl⟩ := Int.eq_ofNat_of_zero_le c0
  show IntKind.i64.wrap ((BitVec.ofInt 64 ((n : Int) * 256) ||| BitVec.ofInt 64 (m : Int)).toNat : Int) = _
  have hm : m < 2 ^ 8 := by omega
  have e1 : ((n : Int) * 256) = ((256 * n : Nat) : Int) := by omega
  have e2 : (2 ^ 8 * n ||| m) = 2 ^ 8 * n + m := (Nat.two_pow_add_eq_or_of_lt hm n).symm
  rw [e1, BitVec.ofInt_natCast, BitVec.ofInt_natCast, BitVec.toNat_or, BitVec.toNat_ofNat, BitVec.toNat_ofNat, Nat.mod_eq_of_lt (by omega), Nat.mod_eq_of_lt (by omega)]
  rw [show 256 * n = 2 ^ 8 * n from rfl, e2, IntWalk.i64_in _ (by omega)]
  omega
set_option maxRecDepth 100000 in
theorem Tryz.c_bcode (k : Int) (w : World) (h : 0 ≤ k ∧ k ≤ 1048576) :
    Calls Tryz.prog 62 #[.int .i64 k] w fun e w' => e = .returned (.int .i64 (Dia.bcode k)) ∧ w = w' := by
  obtain ⟨h0, h1⟩ := h
  have m0 : 0 ≤ k % 157 := Int.emod_nonneg _ (by decide)
  have m1 : k % 157 < 157 := Int.emod_lt_of_pos _ (by decide)
  have d0 : 0 ≤ k / 157 := Int.ediv_nonneg h0 (by decide)
  have d1 : k / 157 ≤ 10000 := by omega
  have t1 : Int.tmod k 157 = k % 157 := Int.tmod_eq_emod_of_nonneg h0
  have t2 : Int.tdiv k 157 = k / 157 := Int.tdiv_eq_ediv_of_nonneg h0
  have HO := fun c (c0 : 0 ≤ c) (c1 : c < 256) => Dia.or256 (129 + k / 157) c (by omega) (by omega) c0 c1
  by_cases c : k % 157 < 63
  · have HB : Aid.Hid2 (Dia.bcode k = (129 + k / 157) * 256 + (k % 157 + 64)) := ⟨by unfold Dia.bcode; rw [if_pos c]⟩
    have ho := HO (k % 157 + 64) (by omega) (by omega)
    rw [HB.out]
    clear HB HO
    generalize k % 157 = m at *
    generalize k / 157 = d at *
    go_enter Tryz.func62, Tryz.ntmps62
    go_wp2
    go_ret
    exact ⟨by go_num, rfl⟩
  · have HB : Aid.Hid2 (Dia.bcode k = (129 + k / 157) * 256 + (k % 157 + 98)) := ⟨by unfold Dia.bcode; rw [if_neg c]⟩
    have ho := HO (k % 157 + 98) (by omega) (by omega)
    rw [HB.out]
    clear HB HO
    generalize k % 157 = m at *
    generalize k / 157 = d at *
    go_enter Tryz.func62, Tryz.ntmps62
    go_wp2
    go_ret
    exact ⟨by go_num, rfl⟩
end Go.Proofs
namespace Go.Proofs
open Go.RowKit

set_option maxRecDepth 100000 in
theorem Tryz.c_ListB (f : Int) (s : ByteArray) (w : World) : Calls Tryz.prog 42 #[.int .i64 f, .string s] w fun e w' => ∃ s', Aid.Hid2 (s' = s) ∧ e = .returned (.agg #[.int .i64 f, .int .i32 0, .int .i64 0, .string s']) ∧ Below w.heap.size w w' := by
  go_enter Tryz.func42, Tryz.ntmps42
  go_wp2
  exact bodyPost_ret (v := .agg #[.int .i64 f, .int .i32 0, .int .i64 0, .string s]) (by simp [results, Tryz.results42, go_sem]) rfl ⟨s, ⟨rfl⟩, rfl, Aid.b1 _ _⟩
set_option maxRecDepth 100000 in
theorem Dia.big_in : ∀ p ∈ Dia.bigPs, p.In := by
  intro p hp
  simp only [Dia.bigPs, List.mem_cons, List.not_mem_nil, or_false] at hp
  rcases hp with rfl | rfl | rfl | rfl | rfl | rfl | rfl | rfl | rfl <;> exact ⟨by decide, by decide, by decide, by decide, by decide, by decide, by decide +kernel⟩
theorem Dia.big_len : Dia.bigL.length ≤ 100000 := by decide +kernel
/-- New of big5's pieces -/
theorem Tryz.c_NewB (C : Array Value) (w0 : World) (hC : C.toList = Dia.bigPs.flatMap Dia.Piece.cells) (hT : Tryz.Tabs w0) :
    Calls Tryz.prog 67 #[.slice (some ⟨w0.heap.size, 0, none⟩) 9 9] (w0.alloc (.cells C 68)) fun e w' =>
      ∃ (a : Option Addr) (cap : Nat) (ls : List (List Dia.Row)), e = .returned (.tuple #[.agg #[.slice a ls.length cap], .agg #[.int .i64 0, .int .i64 0]]) ∧ ls.length ≤ 1 ∧ Dia.T w' a cap ls Dia.bigL ∧ Below w0.heap.size w0 w' := by
  refine (Tryz.t_New (some ⟨w0.heap.size, 0, none⟩) Dia.bigPs 9 (w0.alloc (.cells C 68)) (Dia.pieces_new w0 C _ _ hC) Dia.big_in (by rw [Dia.big_made]; exact Dia.big_len) (by decide) (hT.below (Aid.b1 _ _))).mono fun e w' ⟨a, cap, A, B, he, ht, h1, _, hb⟩ => ?_
  obtain ⟨rfl, rfl⟩ := h1 (by rw [Dia.big_made]; show (-1 : Int) < 0; decide)
  rw [Dia.big_made] at ht
  exact ⟨a, cap, _, he, Dia.lv_len _, ht, Aid.bt (Aid.b1 _ _) hb⟩
set_option maxRecDepth 100000 in
set_option maxHeartbeats 2000000 in
theorem Tryz.c_btable (w : World) (hT : Tryz.Tabs w) :
    Calls Tryz.prog 61 #[] w fun e w' => ∃ ls : List (List Dia.Row), ls.length ≤ 1 ∧ Dia.IsT ls Dia.bigL w w' e := by
  go_enter Tryz.func61, Tryz.ntmps61
  go_wp2_with fail
  refine (Tryz.c_ListB _ _ _).mono ?_
  rintro e w1 ⟨s1, h1, rfl, hb⟩
  have hB : Below w.heap.size w w1 := (Aid.b1 _ _).trans (hb.mono (by simp))
  have k0 := Aid.blk hb (heap_alloc_new w _)
  clear hb
  go_wp2_with fail
  refine (Tryz.c_ListB _ _ _).mono ?_
  rintro e w2 ⟨s2, h2, rfl, hb⟩
  replace hB := Aid.bt hB hb
  replace k0 := Aid.blk hb k0
  clear hb
  go_wp2_with fail
  refine (Tryz.c_ListB _ _ _).mono ?_
  rintro e w3 ⟨s3, h3, rfl, hb⟩
  replace hB := Aid.bt hB hb
  replace k0 := Aid.blk hb k0
  clear hb
  go_wp2_with fail
  refine (Tryz.c_ListB _ _ _).mono ?_
  rintro e w4 ⟨s4, h4, rfl, hb⟩
  replace hB := Aid.bt hB hb
  replace k0 := Aid.blk hb k0
  clear hb
  go_wp2_with fail
  refine (Tryz.c_ListB _ _ _).mono ?_
  rintro e w5 ⟨s5, h5, rfl, hb⟩
  replace hB := Aid.bt hB hb
  replace k0 := Aid.blk hb k0
  clear hb
  go_wp2_with fail
  refine (Tryz.c_brow _ _ (by decide)).mono ?_
  rintro e w6 ⟨rfl, rfl⟩
  go_wp2_with fail
  refine (Tryz.c_ListB _ _ _).mono ?_
  rintro e w7 ⟨s6, h6, rfl, hb⟩
  replace hB := Aid.bt hB hb
  replace k0 := Aid.blk hb k0
  clear hb
  go_wp2_with fail
  refine (Tryz.c_brow _ _ (by decide)).mono ?_
  rintro e w8 ⟨rfl, rfl⟩
  go_wp2_with fail
  refine (Tryz.c_ListB _ _ _).mono ?_
  rintro e w9 ⟨s7, h7, rfl, hb⟩
  replace hB := Aid.bt hB hb
  replace k0 := Aid.blk hb k0
  clear hb
  go_wp2_with fail
  refine (Tryz.c_brow _ _ (by decide)).mono ?_
  rintro e w10 ⟨rfl, rfl⟩
  go_wp2_with fail
  refine (Tryz.c_ListB _ _ _).mono ?_
  rintro e w11 ⟨s8, h8, rfl, hb⟩
  replace hB := Aid.bt hB hb
  replace k0 := Aid.blk hb k0
  clear hb
  go_wp2_with fail
  refine (Tryz.c_brow _ _ (by decide)).mono ?_
  rintro e w12 ⟨rfl, rfl⟩
  go_wp2_with fail
  refine (Tryz.c_ListB _ _ _).mono ?_
  rintro e w13 ⟨s9, h9, rfl, hb⟩
  replace hB := Aid.bt hB hb
  replace k0 := Aid.blk hb k0
  clear hb
  go_wp2_with fail
  have HN : Aid.Hid2 (∀ C, C.toList = Dia.bigPs.flatMap Dia.Piece.cells → Calls Tryz.prog 67 #[.slice (some ⟨w13.heap.size, 0, none⟩) 9 9] (w13.alloc (.cells C 68)) fun e w' =>
      ∃ (a : Option Addr) (cap : Nat) (ls : List (List Dia.Row)), e = .returned (.tuple #[.agg #[.slice a ls.length cap], .agg #[.int .i64 0, .int .i64 0]]) ∧ ls.length ≤ 1 ∧ Dia.T w' a cap ls Dia.bigL ∧ Below w13.heap.size w13 w') := ⟨fun C hC => Tryz.c_NewB C w13 hC (hT.below hB)⟩
  refine (HN.out _ ?_).mono ?_
  · rw [h1.out, h2.out, h3.out, h4.out, h5.out, h6.out, h7.out, h8.out, h9.out]
    kernel_rfl
  rintro e w14 ⟨x, c, ls, rfl, hl1, ht, hb14⟩
  have k := Aid.blk_alloc (o' := .cells #[.int .i64 0, .int .i64 0] 26) (Aid.blk_alloc (o' := .cells #[.slice x ls.length c] 43) (Aid.blk hb14 k0))
  obtain ⟨p0, p0f⟩ := Aid.one k
  go_wp2
  have hb2 : Below w.heap.size w ((w14.alloc (.cells #[.slice x ls.length c] 43)).alloc (.cells #[.int .i64 0, .int .i64 0] 26)) := Aid.bt (Aid.bt hB hb14) (Aid.b2 _ _ _)
  exact bodyPost_ret (v := .agg #[.slice x ls.length c]) (by simp [results, Tryz.results61, go_sem, p0]) rfl (by
    exact ⟨ls, hl1, x, c, rfl, (ht.below (Aid.b2 w14 (.cells #[.slice x ls.length c] 43) (.cells #[.int .i64 0, .int .i64 0] 26))).set ⟨_, _, k⟩ (by decide) (by decide) (by decide), hb2.setCell (Nat.le_refl _) _⟩)
end Go.Proofs
