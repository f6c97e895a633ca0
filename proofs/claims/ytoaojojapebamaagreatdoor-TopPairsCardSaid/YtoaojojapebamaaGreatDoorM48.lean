/- the laws through the layers, walked: layer 9's example; TopThrough; the laws through the layers, walked: layer 9's example, TopThrough -/
import Derived.Test.YtoaojojapebamaaGreatDoorM46
import Derived.Test.YtoaojojapebamaaGreatDoorM32
import Derived.Deep.RegionHeld
namespace Go.Proofs
open Go.RowKit

set_option maxRecDepth 100000 in
set_option maxHeartbeats 2000000 in
theorem Tryz.c_cDec4 (t : ByteArray) (a b : Int) (x : ByteArray) (w : World)
    (HS : ∀ (w1 : World), Below w.heap.size w w1 → Calls Tryz.prog 22 #[.int .i64 4, .string t] w1 fun e w' => e = .returned (.tuple #[.string x, .agg #[.int .i64 a, .int .i64 b]]) ∧ Below w1.heap.size w1 w') :
    Calls Tryz.prog 8 #[.int .i64 4, .string t] w fun e w' => e = .returned (.tuple #[.string x, .agg #[.int .i64 a, .int .i64 b]]) ∧ Below w.heap.size w w' := by
  have HO : Aid.Hid2 (∀ w1, Calls Tryz.prog 17 #[.int .i64 4] w1 fun e w' => e = .returned (.tuple #[.agg #[.slice none 0 0, .int .i64 0], .bool false]) ∧ Below w1.heap.size w1 w') := ⟨fun w1 => Tryz.c_OfNone 4 w1 (by omega) (by omega) (by omega) (by omega)⟩
  have HSS := Aid.Hid2.mk HS
  clear HS
  go_enter Tryz.func8, Tryz.ntmps8
  go_wp2_with fail
  refine (HO.out _).mono ?_
  rintro e w1 ⟨rfl, hb1⟩
  have kF := Aid.blk_alloc (o' := .cells #[.slice none 0 0, .int .i64 0] 45) (Aid.blk hb1 (heap_alloc_new w (.cells #[.int .i64 0, .int .i64 0] 26)))
  have hB1 := Aid.bt (Aid.bt (Aid.b1 w (.cells #[.int .i64 0, .int .i64 0] 26)) hb1) (Aid.b1 w1 (.cells #[.slice none 0 0, .int .i64 0] 45))
  clear hb1
  go_wp2_with fail
  refine (HSS.out _ hB1).mono ?_
  rintro e w2 ⟨rfl, hb2⟩
  obtain ⟨r0, r1, g0, g1⟩ := Aid.two (Aid.blk hb2 kF)
  have hB2 := Aid.bt hB1 hb2
  go_wp2
  exact bodyPost_ret (v := .tuple #[.string x, .agg #[.int .i64 a, .int .i64 b]]) (by simp [results, Tryz.results8, go_sem, r0, r1]) rfl (by
    exact ⟨rfl, (hB2.setCell (Nat.le_refl _) _).setCell (Nat.le_refl _) _⟩)
set_option maxRecDepth 100000 in
set_option maxHeartbeats 2000000 in
theorem Tryz.c_cdbl_short (w : World) : Calls Tryz.prog 22 #[.int .i64 4, .string ⟨#[97, 176]⟩] w fun e w' => e = .returned (.tuple #[.string ⟨#[]⟩, .agg #[.int .i64 2, .int .i64 1]]) ∧ Below w.heap.size w w' := by
  obtain ⟨i0, hi, hz0, hz1, hz2⟩ := info_parts Tryz.s_info_str
  obtain ⟨s, hs⟩ : ∃ s : ByteArray, s = ⟨#[97, 176]⟩ := ⟨_, rfl⟩
  rw [← hs]
  have hsz : s.size = 2 := by rw [hs]; rfl
  have hx0 : (s[0]'(by omega)).toNat = 97 := by subst hs; rfl
  have hx1 : (s[1]'(by omega)).toNat = 176 := by subst hs; rfl
  have HZ := Aid.Hid2.mk hsz
  have hs1 : (s.size : Int) = 2 := by omega
  have q0 : 0 < s.size := by omega
  have q1 : 1 < s.size := by omega
  have d0 : decide (((s[0]'(by omega)).toNat : Int) < 128) = true := decide_eq_true (by omega)
  have d1 : decide (((s[1]'(by omega)).toNat : Int) < 128) = false := decide_eq_false (by omega)
  clear hs hsz hx0 hx1
  go_enter Tryz.func22, Tryz.ntmps22
  go_wp2
  go_loopw [6, 7, 8, 9, 10] (fun v i _ _ _ wr => ∃ (k : Nat) (xs : List Value), k ≤ 1 ∧ i = .int .i64 k ∧ xs.length ≤ 1 ∧ wr.ownsRow (w.heap.size + 1) 9 1 v xs.length xs ∧ Below (w.heap.size + 1) (w.alloc (.cells #[.int .i64 0, .int .i64 0] 26)) wr ∧ xs.length ≤ k)
    (fun _ i _ _ _ _ => 2 - (intOf i).toNat)
  case atStart => exact ⟨0, [], by omega, rfl, by simp, World.ownsRow_nil _ _ _ _, Below.refl _ _, Nat.le_refl _⟩
  case round =>
    obtain ⟨k, xs, hk, rfl, hxl, hown, hb, hxk⟩ := hrel
    have hbw : Below w.heap.size w wr := Aid.below_new hb (Nat.le_refl _)
    have hBr := Aid.new_lt hb
    obtain ⟨c0, c1, f0, f1⟩ := Aid.cells2 hb
    have : k = 0 ∨ k = 1 := by omega
    rcases this with rfl | rfl
    · obtain rfl : xs = [] := List.length_eq_zero_iff.1 (by omega)
      go_wp2_with (at_builtin; refine Aid.wpList_app1 (w0 := w.alloc (.cells #[.int .i64 0, .int .i64 0] 26)) _ rfl _ _ 74 9 1 16 rfl Tryz.underlying74 i0 _ hi hz0 hz1 hz2 rfl (by decide) (w.heap.size + 1) _ _ _ #[.string (s.extract 0 1)] _ rfl _ rfl hown hb ?_ rfl rfl ?_ ?_ ?_ ?_)
      · omega
      · simp [Value.oneCell']
      · omega
      · omega
      · intro v' w5 hown2 hb5 hsz5 _
        go_wp2
        go_roundw
        case rel => exact ⟨1, [.string (s.extract 0 1)], by omega, by go_num, by simp, by simpa using hown2, hb5, by simp⟩
        case measure => simp [intOf]
    · have kF := Aid.blk_alloc (o' := .cells #[.int .i64 2, .int .i64 1] 26) (show wr.heap[w.heap.size]? = some (.cells #[.int .i64 0, .int .i64 0] 26) by
        have := hb.block w.heap.size (by omega)
        rw [this]
        exact heap_alloc_new w _)
      have kG := heap_alloc_new wr (.cells #[.int .i64 2, .int .i64 1] 26)
      obtain ⟨e0, e1, g0, g1⟩ := Aid.two kF
      obtain ⟨h0, h1, j0, j1⟩ := Aid.two kG
      clear kF kG
      have A0 : ∀ o : Obj, (((wr.setCell ⟨w.heap.size, 0, none⟩ (.int .i64 2)).setCell ⟨w.heap.size, 1, none⟩ (.int .i64 1)).alloc o).drew.cell? ⟨w.heap.size, 0, none⟩ = some (.int .i64 2) := fun o => by
        show (((wr.setCell ⟨w.heap.size, 0, none⟩ (.int .i64 2)).setCell ⟨w.heap.size, 1, none⟩ (.int .i64 1)).alloc o).cell? ⟨w.heap.size, 0, none⟩ = _
        rw [World.cell?_alloc_lt _ _ _ (by simpa using hBr)]
        rw [World.cell?_setCell_other _ _ _ _ (by simp)]
        exact World.cell?_setCell_same _ _ _ c0
      have A1 : ∀ o : Obj, (((wr.setCell ⟨w.heap.size, 0, none⟩ (.int .i64 2)).setCell ⟨w.heap.size, 1, none⟩ (.int .i64 1)).alloc o).drew.cell? ⟨w.heap.size, 1, none⟩ = some (.int .i64 1) := fun o => by
        show (((wr.setCell ⟨w.heap.size, 0, none⟩ (.int .i64 2)).setCell ⟨w.heap.size, 1, none⟩ (.int .i64 1)).alloc o).cell? ⟨w.heap.size, 1, none⟩ = _
        rw [World.cell?_alloc_lt _ _ _ (by simpa using hBr)]
        exact World.cell?_setCell_same _ _ _ (by rw [World.cell?_setCell_other _ _ _ _ (by simp)]; exact c1)
      go_wp2_with fail
      go_region
      go_wp2
      exact bodyPost_ret (v := .tuple #[.string ⟨#[]⟩, .agg #[.int .i64 2, .int .i64 1]]) (by simp [results, Tryz.results22, go_sem, A0, A1]) rfl (by
        exact ⟨rfl, (((hbw.setCell (Nat.le_refl _) _).setCell (Nat.le_refl _) _).alloc (by simp; omega) _).drew⟩)
end Go.Proofs
namespace Go.Proofs
open Go.RowKit

theorem Dia.aw09_1 : Dia.wsyl 0 = (176, 161) := by decide +kernel
theorem Dia.aw09_2 : Dia.encs [44032] = [234, 176, 128] := by decide +kernel
theorem Dia.aw09_3 : Dia.SgR 176 161 44032 := by
  have h := (Dia.wsyl_sgr 0 (by decide)).1
  rw [Dia.aw09_1] at h
  exact h
theorem Tryz.c_aw9d (w : World) (hT : Tryz.Tabs w) (hT2 : Tryz.Tab32 w) : Calls Tryz.prog 22 #[.int .i64 4, .string ⟨#[97, 176, 161]⟩] w fun e w' => e = .returned (.tuple #[.string ⟨#[97, 234, 176, 128]⟩, .agg #[.int .i64 0, .int .i64 0]]) ∧ Below w.heap.size w w' := by
  have h := Tryz.c_cdoubles 4 [([97], [97]), ([176, 161], Dia.encs [44032])] ⟨#[97, 176, 161]⟩ w hT hT2 (by
    intro u hu
    simp only [List.mem_cons, List.not_mem_nil, or_false] at hu
    rcases hu with rfl | rfl
    · exact .inl ⟨97, rfl, by decide, rfl⟩
    · exact .inr ⟨176, 161, rfl, by decide, .inl ⟨rfl, 44032, Dia.aw09_3, by decide, by decide, rfl⟩⟩) rfl (by decide) (by rw [Dia.aw09_2]; decide)
  rw [Dia.aw09_2] at h
  exact h
set_option maxRecDepth 100000 in
set_option maxHeartbeats 2000000 in
theorem Tryz.c_Awake09 (w : World) (hT : Tryz.Tabs w) (hT2 : Tryz.Tab32 w) (hN : Tryz.Names w) :
    Calls Tryz.prog 5 #[] w fun e w' => e = .returned (.bool true) ∧ Below w.heap.size w w' := by
  have HD1 : Aid.Hid2 (Calls Tryz.prog 8 #[.int .i64 4, .string ⟨#[97, 176, 161]⟩] w fun e w' => e = .returned (.tuple #[.string ⟨#[97, 234, 176, 128]⟩, .agg #[.int .i64 0, .int .i64 0]]) ∧ Below w.heap.size w w') := ⟨Tryz.c_cDec4 _ 0 0 _ w fun w1 hb => Tryz.c_aw9d w1 (hT.below hb) (hT2.below hb)⟩
  have HD2 : Aid.Hid2 (∀ w1, Calls Tryz.prog 8 #[.int .i64 4, .string ⟨#[97, 176]⟩] w1 fun e w' => e = .returned (.tuple #[.string ⟨#[]⟩, .agg #[.int .i64 2, .int .i64 1]]) ∧ Below w1.heap.size w1 w') := ⟨fun w1 => Tryz.c_cDec4 _ 2 1 _ w1 fun w2 _ => Tryz.c_cdbl_short w2⟩
  have HNM : Aid.Hid2 (∀ w1, Below w.heap.size w w1 → Calls Tryz.prog 11 #[.string ⟨#[85, 84, 70, 56]⟩] w1 fun e w' => e = .returned (.tuple #[.int .i64 7, .bool true]) ∧ Below w1.heap.size w1 w') := ⟨fun w1 hb => Tryz.c_named8 w1 (hN.below hb)⟩
  have HA2 : Aid.Hid2 (∀ w1, Below w.heap.size w w1 → Calls Tryz.prog 12 #[] w1 fun e w' => e = .returned (.bool true) ∧ Below w1.heap.size w1 w') := ⟨fun w1 hb => Tryz.c_Awake02 w1 (hT.below hb)⟩
  have HA5 : Aid.Hid2 (∀ w1, Below w.heap.size w w1 → Calls Tryz.prog 13 #[] w1 fun e w' => e = .returned (.bool true) ∧ Below w1.heap.size w1 w') := ⟨fun w1 hb => Tryz.c_Awake05 w1 (hT.below hb)⟩
  have HA7 : Aid.Hid2 (∀ w1, Below w.heap.size w w1 → Calls Tryz.prog 15 #[] w1 fun e w' => e = .returned (.bool true) ∧ Below w1.heap.size w1 w') := ⟨fun w1 hb => Tryz.c_Awake07 w1 (hT2.below hb)⟩
  have HA8 : Aid.Hid2 (∀ w1, Below w.heap.size w w1 → Calls Tryz.prog 16 #[] w1 fun e w' => e = .returned (.bool true) ∧ Below w1.heap.size w1 w') := ⟨fun w1 hb => Tryz.c_Awake08 w1 (hT.below hb)⟩
  clear hT hT2 hN
  go_enter Tryz.func5, Tryz.ntmps5
  go_wp2_with fail
  refine HD1.out.mono ?_
  rintro e w1 ⟨rfl, hb1⟩
  have kF := heap_alloc_new w1 (.cells #[.int .i64 0, .int .i64 0] 26)
  have hB1 := Aid.bt hb1 (Aid.b1 w1 (.cells #[.int .i64 0, .int .i64 0] 26))
  clear hb1
  go_wp2_with fail
  refine (HD2.out _).mono ?_
  rintro e w2 ⟨rfl, hb2⟩
  have kF2 := Aid.blk_alloc (o' := .cells #[.int .i64 2, .int .i64 1] 26) (Aid.blk hb2 kF)
  have kG2 := heap_alloc_new w2 (.cells #[.int .i64 2, .int .i64 1] 26)
  have hB2 := Aid.bt (Aid.bt hB1 hb2) (Aid.b1 w2 (.cells #[.int .i64 2, .int .i64 1] 26))
  clear hb2 hB1 kF
  go_wp2_with fail
  refine (HNM.out _ hB2).mono ?_
  rintro e w3 ⟨rfl, hb3⟩
  have kF3 := Aid.blk hb3 kF2
  have kG3 := Aid.blk hb3 kG2
  have hB3 := Aid.bt hB2 hb3
  clear hb3 hB2 kF2 kG2
  go_wp2_with fail
  refine (HA2.out _ hB3).mono ?_
  rintro e w4 ⟨rfl, hb4⟩
  have kF4 := Aid.blk hb4 kF3
  have kG4 := Aid.blk hb4 kG3
  have hB4 := Aid.bt hB3 hb4
  clear hb4 hB3 kF3 kG3
  go_wp2_with fail
  refine (HA5.out _ hB4).mono ?_
  rintro e w5 ⟨rfl, hb5⟩
  have kF5 := Aid.blk hb5 kF4
  have kG5 := Aid.blk hb5 kG4
  have hB5 := Aid.bt hB4 hb5
  clear hb5 hB4 kF4 kG4
  go_wp2_with fail
  refine (Tryz.c_Awake06 _).mono ?_
  rintro e w6 ⟨rfl, hb6⟩
  have kF6 := Aid.blk hb6 kF5
  have kG6 := Aid.blk hb6 kG5
  have hB6 := Aid.bt hB5 hb6
  clear hb6 hB5 kF5 kG5
  go_wp2_with fail
  refine (HA7.out _ hB6).mono ?_
  rintro e w7 ⟨rfl, hb7⟩
  have kF7 := Aid.blk hb7 kF6
  have kG7 := Aid.blk hb7 kG6
  have hB7 := Aid.bt hB6 hb7
  clear hb7 hB6 kF6 kG6
  go_wp2_with fail
  refine (HA8.out _ hB7).mono ?_
  rintro e w8 ⟨rfl, hb8⟩
  have kG8 := Aid.blk hb8 kG7
  have hB8 := Aid.bt hB7 hb8
  obtain ⟨p0, p1, q0, q1⟩ := Aid.two (Aid.blk hb8 kF7)
  clear hb8 hB7 kF7 kG7
  go_wp2_with fail
  refine (Tryz.c_Bad_no _ _).mono ?_
  rintro e w9 ⟨rfl, hb9⟩
  obtain ⟨r0, r1, s0, s1⟩ := Aid.two (Aid.blk hb9 kG8)
  have hB9 := Aid.bt hB8 hb9
  go_wp2
  go_ret
  exact ⟨rfl, hB9⟩
set_option maxRecDepth 100000 in
set_option maxHeartbeats 2000000 in
theorem Tryz.w_TopThrough (t : ByteArray) (a b : Int) (w : World) (hT : Tryz.Tabs w ∧ Tryz.Tab32 w ∧ Tryz.Names w) (_hs : t.size ≤ 9223372036854775807) (ha : 0 ≤ a ∧ a ≤ 255) (hb : 0 ≤ b ∧ b ≤ 255) :
    Calls Tryz.prog 3 #[.string t, .int .u8 a, .int .u8 b] w fun e w' => e = .returned (.bool true) ∧ Below w.heap.size w w' := by
  obtain ⟨hT, hT2, hN⟩ := hT
  have HAW := Aid.Hid2.mk (Tryz.c_Awake09 w hT hT2 hN)
  by_cases hl : t.size ≤ 60
  · have dl : decide (60 < (t.size : Int)) = false := decide_eq_false (by omega)
    obtain ⟨a0, a1⟩ := ha
    obtain ⟨b0, b1⟩ := hb
    have HEC : Aid.Hid2 (∀ (w1 : World), Below w.heap.size w w1 → Calls Tryz.prog 6 #[.int .i64 (a % 10), .string t] w1 fun e w' => Dia.IsCE (Dia.cEnc (a % 10) t.data.toList) w1 w' e) := ⟨fun w1 h => Tryz.c_cEncode _ t w1 (hT.below h) (by omega) (by omega)⟩
    have HED : Aid.Hid2 (∀ (w1 : World), Below w.heap.size w w1 → Calls Tryz.prog 6 #[.int .i64 (b % 10), .string t] w1 fun e w' => Dia.IsCE (Dia.cEnc (b % 10) t.data.toList) w1 w' e) := ⟨fun w1 h => Tryz.c_cEncode _ t w1 (hT.below h) (by omega) (by omega)⟩
    have HDC : Aid.Hid2 (∀ (x : List UInt8) (w1 : World), Dia.cEnc (a % 10) t.data.toList = some x → Below w.heap.size w w1 → Calls Tryz.prog 8 #[.int .i64 (a % 10), .string ⟨x.toArray⟩] w1 fun e w' => e = .returned (.tuple #[.string t, .agg #[.int .i64 0, .int .i64 0]]) ∧ Below w1.heap.size w1 w') := ⟨fun x w1 hx h => (Tryz.c_cDecode _ t x w1 (hT.below h) (hT2.below h) (by omega) (by omega) hx).mono fun e w' ⟨a, b, y, g1, g2, _, g4⟩ => by
      obtain ⟨rfl, rfl, rfl⟩ := g2 _ rfl
      exact ⟨g1, g4⟩⟩
    have HDD : Aid.Hid2 (∀ (x : List UInt8) (w1 : World), Dia.cEnc (b % 10) t.data.toList = some x → Below w.heap.size w w1 → Calls Tryz.prog 8 #[.int .i64 (b % 10), .string ⟨x.toArray⟩] w1 fun e w' => e = .returned (.tuple #[.string t, .agg #[.int .i64 0, .int .i64 0]]) ∧ Below w1.heap.size w1 w') := ⟨fun x w1 hx h => (Tryz.c_cDecode _ t x w1 (hT.below h) (hT2.below h) (by omega) (by omega) hx).mono fun e w' ⟨a, b, y, g1, g2, _, g4⟩ => by
      obtain ⟨rfl, rfl, rfl⟩ := g2 _ rfl
      exact ⟨g1, g4⟩⟩
    have ka : IntKind.i64.wrap (a % 10) = a % 10 := IntWalk.i64_in _ (by omega)
    have kb : IntKind.i64.wrap (b % 10) = b % 10 := IntWalk.i64_in _ (by omega)
    have ka2 : IntKind.u8.wrap (a % 10) = a % 10 := IntWalk.u8_in _ (by omega)
    have kb2 : IntKind.u8.wrap (b % 10) = b % 10 := IntWalk.u8_in _ (by omega)
    clear hT hT2 hN
    generalize hOC : Dia.cEnc (a % 10) t.data.toList = OC at *
    generalize hOD : Dia.cEnc (b % 10) t.data.toList = OD at *
    clear hOC hOD
    go_enter Tryz.func3, Tryz.ntmps3
    go_wp2_with fail
    refine HAW.out.mono ?_
    rintro e w1 ⟨rfl, hb1⟩
    go_wp2_with fail
    refine (HEC.out _ hb1).mono ?_
    rintro e w2 ⟨x1, x2, x, rfl, g1, g2, hb2⟩
    have G := Aid.Hid2.mk (And.intro g1 g2)
    clear g1 g2
    have kF := heap_alloc_new w2 (.cells #[.int .i64 x1, .int .i64 x2] 26)
    have hB2 := Aid.bt (Aid.bt hb1 hb2) (Aid.b1 w2 (.cells #[.int .i64 x1, .int .i64 x2] 26))
    clear hb1 hb2
    go_wp2_with fail
    refine (HED.out _ hB2).mono ?_
    rintro e w3 ⟨y1, y2, y, rfl, g1, g2, hb3⟩
    have G2 := Aid.Hid2.mk (And.intro g1 g2)
    clear g1 g2
    have kF3 := Aid.blk_alloc (o' := .cells #[.int .i64 y1, .int .i64 y2] 26) (Aid.blk hb3 kF)
    have kG3 := heap_alloc_new w3 (.cells #[.int .i64 y1, .int .i64 y2] 26)
    have hB3 := Aid.bt (Aid.bt hB2 hb3) (Aid.b1 w3 (.cells #[.int .i64 y1, .int .i64 y2] 26))
    clear hB2 hb3 kF
    obtain ⟨p0, p1, q0, q1⟩ := Aid.two kF3
    cases OC with
    | none =>
      have hx1 : (x1 != 0) = true := by have := G.out.2 rfl; simpa using this
      clear G G2
      go_wp2_with fail
      refine (Tryz.c_Bad x1 x2 _).mono ?_
      rw [hx1]
      rintro e w4 ⟨rfl, hb4⟩
      go_wp2
      go_ret
      exact ⟨rfl, Aid.bt hB3 hb4⟩
    | some X =>
      obtain ⟨rfl, rfl, rfl⟩ := G.out.1 X rfl
      clear G
      go_wp2_with fail
      refine (Tryz.c_Bad_no _ _).mono ?_
      rintro e w4 ⟨rfl, hb4⟩
      have kG4 := Aid.blk hb4 kG3
      have hB4 := Aid.bt hB3 hb4
      obtain ⟨r0, r1, s0, s1⟩ := Aid.two kG4
      cases OD with
      | none =>
        have hy1 : (y1 != 0) = true := by have := G2.out.2 rfl; simpa using this
        clear G2
        go_wp2_with fail
        refine (Tryz.c_Bad y1 y2 _).mono ?_
        rw [hy1]
        rintro e w5 ⟨rfl, hb5⟩
        go_wp2
        go_ret
        exact ⟨rfl, Aid.bt hB4 hb5⟩
      | some Y =>
        obtain ⟨rfl, rfl, rfl⟩ := G2.out.1 Y rfl
        clear G2
        go_wp2_with fail
        refine (Tryz.c_Bad_no _ _).mono ?_
        rintro e w5 ⟨rfl, hb5⟩
        have hB5 := Aid.bt hB4 hb5
        clear hb4 hb5 kG3 kG4 kF3 r0 r1 s0 s1 p0 p1 q0 q1 hB3 hB4
        go_wp2_with fail
        refine (HDC.out _ _ rfl hB5).mono ?_
        rintro e w6 ⟨rfl, hb6⟩
        have kA := heap_alloc_new w6 (.cells #[.int .i64 0, .int .i64 0] 26)
        have hB6 := Aid.bt (Aid.bt hB5 hb6) (Aid.b1 w6 (.cells #[.int .i64 0, .int .i64 0] 26))
        clear hB5 hb6
        go_wp2_with fail
        refine (HED.out _ hB6).mono ?_
        rintro e w7 ⟨z1, z2, z, rfl, g1, g2, hb7⟩
        obtain ⟨rfl, rfl, rfl⟩ := g1 _ rfl
        clear g1 g2
        have kA7 := Aid.blk_alloc (o' := .cells #[.int .i64 0, .int .i64 0] 26) (Aid.blk hb7 kA)
        have kC7 := heap_alloc_new w7 (.cells #[.int .i64 0, .int .i64 0] 26)
        have hB7 := Aid.bt (Aid.bt hB6 hb7) (Aid.b1 w7 (.cells #[.int .i64 0, .int .i64 0] 26))
        clear hB6 hb7 kA
        go_wp2_with fail
        refine (HDD.out _ _ rfl hB7).mono ?_
        rintro e w8 ⟨rfl, hb8⟩
        have kA8 := Aid.blk_alloc (o' := .cells #[.int .i64 0, .int .i64 0] 26) (Aid.blk hb8 kA7)
        have kC8 := Aid.blk_alloc (o' := .cells #[.int .i64 0, .int .i64 0] 26) (Aid.blk hb8 kC7)
        have kD8 := heap_alloc_new w8 (.cells #[.int .i64 0, .int .i64 0] 26)
        have hB8 := Aid.bt (Aid.bt hB7 hb8) (Aid.b1 w8 (.cells #[.int .i64 0, .int .i64 0] 26))
        clear hB7 hb8 kA7 kC7
        obtain ⟨p0, p1, q0, q1⟩ := Aid.two kA8
        go_wp2_with fail
        refine (Tryz.c_Bad_no _ _).mono ?_
        rintro e w9 ⟨rfl, hb9⟩
        have hB9 := Aid.bt hB8 hb9
        have kD9 := Aid.blk hb9 kD8
        obtain ⟨r0, r1, s0, s1⟩ := Aid.two (Aid.blk hb9 kC8)
        go_wp2_with fail
        refine (Tryz.c_Bad_no _ _).mono ?_
        rintro e wa ⟨rfl, hba⟩
        have hBa := Aid.bt hB9 hba
        obtain ⟨m0, m1, n0, n1⟩ := Aid.two (Aid.blk hba kD9)
        go_wp2_with fail
        refine (Tryz.c_Bad_no _ _).mono ?_
        rintro e wb ⟨rfl, hbb⟩
        go_wp2
        go_ret
        exact ⟨rfl, Aid.bt hBa hbb⟩
  · have dl : decide (60 < (t.size : Int)) = true := decide_eq_true (by omega)
    clear hT hT2 hN
    go_enter Tryz.func3, Tryz.ntmps3
    go_wp2_with fail
    refine HAW.out.mono ?_
    rintro e w1 ⟨rfl, hb1⟩
    go_wp2
    go_ret
    exact ⟨rfl, hb1⟩
end Go.Proofs
