/- tables: Is, Seq, List, New of known pairs, layer 4's example (for the seats without layer 4's laws) -/
import Derived.Test.YtoaojojapebamaaGreatDoorM16
import Derived.BigQuiet
import Derived.Deep.QuietTactic
namespace Go.Proofs
open Go.RowKit

/-- pairs in memory -/
def Dia.PairsAt (w : World) (a : Option Addr) (l : List (Int × Int)) : Prop :=
  l = [] ∨ ∃ b off, a = some ⟨b, off, none⟩ ∧ ∀ k q, l[k]? = some q → w.cell? ⟨b, off + k * 2, none⟩ = some (.int .i64 q.1) ∧ w.cell? ⟨b, off + k * 2 + 1, none⟩ = some (.int .i32 q.2)
theorem Dia.PairsAt.below {w w' : World} {a : Option Addr} {l : List (Int × Int)} (h : Dia.PairsAt w a l) (hb : Below w.heap.size w w') : Dia.PairsAt w' a l := by
  rcases h with h | ⟨b, off, ha, h⟩
  · exact .inl h
  · exact .inr ⟨b, off, ha, fun k q hk => ⟨Aid.cell_ext hb (h k q hk).1, Aid.cell_ext hb (h k q hk).2⟩⟩
theorem Dia.PairsAt.get {w : World} {a : Option Addr} {l : List (Int × Int)} (h : Dia.PairsAt w a l) {k : Nat} (hk : k < l.length) :
    ∃ b off, a = some ⟨b, off, none⟩ ∧ w.cell? ⟨b, off + k * 2, none⟩ = some (.int .i64 l[k].1) ∧ w.cell? ⟨b, off + k * 2 + 1, none⟩ = some (.int .i32 l[k].2) := by
  rcases h with h | ⟨b, off, ha, h⟩
  · subst h; simp at hk
  · exact ⟨b, off, ha, h k _ (List.getElem?_eq_getElem hk)⟩
theorem Dia.pairsAt_own {w : World} {B : Nat} {e : TypeId} {a : Option Addr} {m cap n : Nat} {l : List (Int × Int)} (h : w.ownsRow B e 2 (.slice a m cap) n (l.flatMap Dia.pcells)) : Dia.PairsAt w a l := by
  rcases h.2 with ⟨h1, h0⟩ | ⟨g, cap', cur, h1, _⟩
  · left
    have hl := h.1
    rw [Aid.flat_len Dia.pcells 2 Dia.pcells_len, h0] at hl
    exact List.length_eq_zero_iff.1 (by omega)
  · cases h1
    refine .inr ⟨g, 0, rfl, fun k q hk => ?_⟩
    have c := fun j v hj => h.cells (g := g) rfl (k * 2 + j) v (Aid.flat_get Dia.pcells 2 Dia.pcells_len l k j q v hk hj)
    have hp : ∀ j, (⟨g, 0, none⟩ : Addr).add j = ⟨g, 0 + j, none⟩ := by intro j; unfold Addr.add; split <;> simp_all
    have c0 := c 0 (.int .i64 q.1) rfl
    have c1 := c 1 (.int .i32 q.2) rfl
    rw [hp] at c0 c1
    exact ⟨c0, c1⟩
/-- a piece's cells -/
def Dia.Piece.cells (p : Dia.Piece) : List Value := [.int .i64 p.from', .int .i32 p.to, .int .i64 p.count, .string ⟨p.text.toArray⟩]
theorem Dia.pieces_new (w : World) (C : Array Value) (T : TypeId) (ps : List Dia.Piece) (h : C.toList = ps.flatMap Dia.Piece.cells) : Dia.PiecesAt (w.alloc (.cells C T)) (some ⟨w.heap.size, 0, none⟩) ps := by
  refine .inr ⟨w.heap.size, 0, rfl, fun k p hk => ?_⟩
  have c := fun j v hj => Aid.cells_new w C T (0, 0) _ h (k * 4 + j) v (Aid.flat_get Dia.Piece.cells 4 (fun _ => rfl) ps k j p v hk hj)
  have hp : ∀ j, (⟨w.heap.size, 0, none⟩ : Addr).add j = ⟨w.heap.size, 0 + j, none⟩ := by intro j; unfold Addr.add; split <;> simp_all
  have c0 := c 0 _ rfl
  have c1 := c 1 _ rfl
  have c2 := c 2 _ rfl
  have c3 := c 3 _ rfl
  rw [hp] at c0 c1 c2 c3
  exact ⟨c0, c1, c2, c3⟩
set_option maxRecDepth 100000 in
theorem Tryz.c_Seq (f t c : Int) (w : World) : Calls Tryz.prog 40 #[.int .i64 f, .int .i32 t, .int .i64 c] w fun e w' => e = .returned (.agg #[.int .i64 f, .int .i32 t, .int .i64 c, .string ⟨#[]⟩]) ∧ Below w.heap.size w w' := by
  go_enter Tryz.func40, Tryz.ntmps40
  go_wp2
  exact bodyPost_ret (v := .agg #[.int .i64 f, .int .i32 t, .int .i64 c, .string ⟨#[]⟩]) (by simp [results, Tryz.results40, go_sem]) rfl ⟨rfl, Aid.b1 _ _⟩
set_option maxRecDepth 100000 in
theorem Tryz.c_List (f : Int) (s : ByteArray) (w : World) : Calls Tryz.prog 42 #[.int .i64 f, .string s] w fun e w' => e = .returned (.agg #[.int .i64 f, .int .i32 0, .int .i64 0, .string s]) ∧ Below w.heap.size w w' := by
  go_enter Tryz.func42, Tryz.ntmps42
  go_wp2
  exact bodyPost_ret (v := .agg #[.int .i64 f, .int .i32 0, .int .i64 0, .string s]) (by simp [results, Tryz.results42, go_sem]) rfl ⟨rfl, Aid.b1 _ _⟩
/-- New of pieces that the call has laid hands back a table of known pairs -/
def Dia.IsNK (l : List (Int × Int)) (w w' : World) (e : Ending) : Prop :=
  ∃ (a : Option Addr) (cap : Nat) (ls : List (List Dia.Row)), e = .returned (.tuple #[.agg #[.slice a ls.length cap], .agg #[.int .i64 0, .int .i64 0]]) ∧ ls.length ≤ 1 ∧ Dia.T w' a cap ls l ∧ Below w.heap.size w w'
theorem Dia.lv_len (o : List Dia.Row × Int) : (Dia.lv o).length ≤ 1 := by unfold Dia.lv; split <;> simp
theorem Tryz.c_NewK (n : Nat) (ps : List Dia.Piece) (l : List (Int × Int)) (C : Array Value) (w0 : World) (hC : C.toList = ps.flatMap Dia.Piece.cells) (hn : ps.length = n) (h12 : n ≤ 12) (hin : ∀ p ∈ ps, p.In) (hg : l.length ≤ 100000) (hl : Dia.madeL [] 0 ps = (l, -1)) (hT : Tryz.Tabs w0) :
    Calls Tryz.prog 67 #[.slice (some ⟨w0.heap.size, 0, none⟩) n n] (w0.alloc (.cells C 68)) fun e w' => Dia.IsNK l w0 w' e := by
  subst hn
  refine (Tryz.t_New (some ⟨w0.heap.size, 0, none⟩) ps ps.length (w0.alloc (.cells C 68)) (Dia.pieces_new w0 C _ ps hC) hin (by rw [hl]; exact hg) (by omega) (hT.below (Aid.b1 _ _))).mono fun e w' ⟨a, cap, A, B, he, ht, h1, _, hb⟩ => ?_
  obtain ⟨rfl, rfl⟩ := h1 (by rw [hl]; show (-1 : Int) < 0; decide)
  rw [hl] at ht
  exact ⟨a, cap, _, he, Dia.lv_len _, ht, Aid.bt (Aid.b1 _ _) hb⟩
theorem Dia.aw04_1 : Dia.madeL [] 0 [⟨0, 65, 3, []⟩, ⟨10, 0, 0, [120, 121]⟩] = ([(0, 65), (1, 66), (2, 67), (10, 120), (11, 121)], -1) := by decide +kernel
theorem Dia.aw04_2 : Dia.madeL [] 0 [⟨1, 65, 1, []⟩] = ([(1, 65)], -1) := by decide +kernel
theorem Dia.aw04_3 : Dia.rover [(1, 65)] [(0, 65), (1, 66), (2, 67), (10, 120), (11, 121)] = [(0, 65), (1, 65), (2, 67), (10, 120), (11, 121)] := by decide +kernel
theorem Dia.aw04_4 : Dia.revl [(0, 65), (1, 65), (2, 67), (10, 120), (11, 121)] 65 = (0, true) := by decide +kernel
theorem Dia.aw04_5 : Dia.revl [(0, 65), (1, 65), (2, 67), (10, 120), (11, 121)] 66 = (0, false) := by decide +kernel
theorem Dia.aw04_6 : Dia.fwdl [(0, 65), (1, 65), (2, 67), (10, 120), (11, 121)] 11 = (121, true) := by decide +kernel

set_option maxRecDepth 100000 in
set_option maxHeartbeats 2000000 in
theorem Tryz.c_Awake04 (w : World) (hT : Tryz.Tabs w) :
    Calls Tryz.prog 32 #[] w fun e w' => e = .returned (.bool true) ∧ Below w.heap.size w w' := by
  have HN1 : Aid.Hid2 (∀ w0, Below w.heap.size w w0 → Calls Tryz.prog 67 #[.slice (some ⟨w0.heap.size, 0, none⟩) 2 2] (w0.alloc (.cells #[.int .i64 0, .int .i32 65, .int .i64 3, .string ⟨#[]⟩, .int .i64 10, .int .i32 0, .int .i64 0, .string ⟨#[120, 121]⟩] 68)) fun e w' => Dia.IsNK [(0, 65), (1, 66), (2, 67), (10, 120), (11, 121)] w0 w' e) :=
    ⟨fun w0 hb => Tryz.c_NewK 2 [⟨0, 65, 3, []⟩, ⟨10, 0, 0, [120, 121]⟩] _ _ w0 rfl rfl (by decide) (by
      intro p hp
      simp only [List.mem_cons, List.not_mem_nil, or_false] at hp
      rcases hp with rfl | rfl <;> exact ⟨by decide, by decide, by decide, by decide, by decide, by decide, by decide⟩) (by decide) Dia.aw04_1 (hT.below hb)⟩
  have HN2 : Aid.Hid2 (∀ w0, Below w.heap.size w w0 → Calls Tryz.prog 67 #[.slice (some ⟨w0.heap.size, 0, none⟩) 1 1] (w0.alloc (.cells #[.int .i64 1, .int .i32 65, .int .i64 1, .string ⟨#[]⟩] 68)) fun e w' => Dia.IsNK [(1, 65)] w0 w' e) :=
    ⟨fun w0 hb => Tryz.c_NewK 1 [⟨1, 65, 1, []⟩] _ _ w0 rfl rfl (by decide) (by
      intro p hp
      simp only [List.mem_cons, List.not_mem_nil, or_false] at hp
      rcases hp with rfl
      exact ⟨by decide, by decide, by decide, by decide, by decide, by decide, by decide⟩) (by decide) Dia.aw04_2 (hT.below hb)⟩
  go_enter Tryz.func32, Tryz.ntmps32
  go_wp2_with fail
  refine (Tryz.c_Seq _ _ _ _).mono ?_
  rintro e w1 ⟨rfl, hb1⟩
  go_wp2_with fail
  refine (Tryz.c_List _ _ _).mono ?_
  rintro e w2 ⟨rfl, hb2⟩
  have hB2 := Aid.bt hb1 hb2
  go_wp2_with fail
  refine (HN1.out _ hB2).mono ?_
  rintro e w3 ⟨a1, c1, ls, rfl, hn1, ht1, hb3⟩
  have hB3 := Aid.bt hB2 hb3
  go_wp2_with fail
  refine (Tryz.c_Seq _ _ _ _).mono ?_
  rintro e w4 ⟨rfl, hb4⟩
  have hB4 : Below w.heap.size w w4 := ((hB3.alloc hB3.size _).alloc (by have := hB3.size; simp; omega) _).trans (hb4.mono (by have := hB3.size; simp; omega))
  have k1 := Aid.blk hb4 (Aid.heap2 _ _ _).1
  have k2 := Aid.blk hb4 (Aid.heap2 _ _ _).2
  have ht1' := ht1.below ((Aid.b2 _ _ _).trans (hb4.mono (by simp; omega)))
  go_wp2_with fail
  refine (HN2.out _ hB4).mono ?_
  rintro e w5 ⟨a2, c2, us, rfl, hn2, ht2, hb5⟩
  have hB5 := Aid.bt hB4 hb5
  have k1a := Aid.blk hb5 k1
  have k2a := Aid.blk hb5 k2
  have ht1a := ht1'.below hb5
  clear k1 k2 ht1 ht1'
  have k1b := Aid.blk_alloc (o' := .cells #[.int .i64 0, .int .i64 0] 26) (Aid.blk_alloc (o' := .cells #[.slice a2 us.length c2] 43) k1a)
  have k2b := Aid.blk_alloc (o' := .cells #[.int .i64 0, .int .i64 0] 26) (Aid.blk_alloc (o' := .cells #[.slice a2 us.length c2] 43) k2a)
  obtain ⟨k1c, _⟩ := Aid.one k1b
  go_wp2_with fail
  refine (Tryz.t_Over _ (ht2.below (Aid.b2 _ _ _)) (ht1a.below (Aid.b2 _ _ _)) (by omega) (by decide)).mono ?_
  rw [Dia.aw04_3]
  rintro e w6 ⟨a3, c3, rfl, ht3, hb6⟩
  generalize us ++ ls = vs at *
  have hB6 : Below w.heap.size w w6 := ((hB5.alloc hB5.size _).alloc (by have := hB5.size; simp; omega) _).trans (hb6.mono (by have := hB5.size; simp; omega))
  have k1d := Aid.blk_alloc (o' := .cells #[.slice a3 vs.length c3] 43) (Aid.blk hb6 k1b)
  have k2d := Aid.blk_alloc (o' := .cells #[.slice a3 vs.length c3] 43) (Aid.blk hb6 k2b)
  have k4d := Aid.blk_alloc (o' := .cells #[.slice a3 vs.length c3] 43) (Aid.blk hb6 (Aid.heap2 _ _ _).2)
  have k5d := heap_alloc_new w6 (.cells #[.slice a3 vs.length c3] 43)
  have ht1d := (ht1a.below (Aid.b2 _ (.cells #[.slice a2 us.length c2] 43) (.cells #[.int .i64 0, .int .i64 0] 26))).below (Aid.bt hb6 (Aid.b1 w6 (.cells #[.slice a3 vs.length c3] 43)))
  have ht3d := ht3.below (Aid.b1 w6 (.cells #[.slice a3 vs.length c3] 43))
  have hB6d := Aid.bt hB6 (Aid.b1 w6 (.cells #[.slice a3 vs.length c3] 43))
  clear k1a k2a k1b k2b k1c ht1a ht3 HN1 HN2 hb1 hb2 hb3 hb4 hb5 hb6 ht2 hB2 hB3 hB4 hB5
  go_wp2_with fail
  refine (Tryz.t_Reverse 65 _ ht3d (by decide)).mono ?_
  rw [Dia.aw04_4]
  rintro e w7 ⟨rfl, hb7⟩
  obtain ⟨m7, _⟩ := Aid.one (Aid.blk hb7 k5d)
  go_wp2_with fail
  refine (Tryz.t_Reverse 66 _ (ht3d.below hb7) (by decide)).mono ?_
  rw [Dia.aw04_5]
  rintro e w8 ⟨rfl, hb8⟩
  have h8 := Aid.bt hb7 hb8
  obtain ⟨m8, _⟩ := Aid.one (Aid.blk h8 k5d)
  go_wp2_with fail
  refine (Tryz.t_Forward 11 _ (ht3d.below h8) (by decide)).mono ?_
  rw [Dia.aw04_6]
  rintro e w9 ⟨rfl, hb9⟩
  have h9 := Aid.bt h8 hb9
  obtain ⟨m9, n9, _, _⟩ := Aid.two (Aid.blk h9 k2d)
  go_wp2_with fail
  refine (Tryz.c_Bad_no _ _).mono ?_
  rintro e wa ⟨rfl, hba⟩
  have ha := Aid.bt h9 hba
  obtain ⟨ma, na, _, _⟩ := Aid.two (Aid.blk ha k4d)
  go_wp2_with fail
  refine (Tryz.c_Bad_no _ _).mono ?_
  rintro e wb ⟨rfl, hbb⟩
  have hb := Aid.bt ha hbb
  obtain ⟨mb, _⟩ := Aid.one (Aid.blk hb k1d)
  go_wp2_with fail
  refine (Tryz.t_Size _ (ht1d.below hb)).mono ?_
  rintro e wc ⟨rfl, hbc⟩
  go_wp2
  go_ret
  exact ⟨rfl, Aid.bt (Aid.bt hB6d hb) hbc⟩
end Go.Proofs
