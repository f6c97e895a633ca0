/- the laws of layer 8, walked: the document's example, BigSigns, BigBytes -/
import Derived.Test.YtdbpliheggbmdaaDoorBj
import Derived.Test.YtdbpliheggbmdaaDoorBd
namespace Go.Proofs
open Go.RowKit

theorem Tryd.c_bsigns (l b : Int) (w : World) (hT : Tryd.Tabs w) (hl : 0 ≤ l ∧ l ≤ 255) (hb : 0 ≤ b ∧ b ≤ 255) :
    Calls Tryd.prog 7 #[.int .u8 l, .int .u8 b] w fun e w' => e = .returned (.tuple #[.string ⟨(Dia.bsigns l b).1.toArray⟩, .bool (Dia.bsigns l b).2]) ∧ Below w.heap.size w w' := by
  by_cases h : (Dia.bcell b).2 = false ∨ l < 129 ∨ l = 255
  · have e : Dia.bsigns l b = ([], false) := by unfold Dia.bsigns; rw [if_pos h]
    rw [e]
    exact Tryd.c_bsigns_no l b w hl hb h
  · have h1 : (Dia.bcell b).2 = true := by
      cases hc : (Dia.bcell b).2 with
      | true => rfl
      | false => exact absurd (.inl hc) h
    exact Tryd.c_bsigns_yes l b w hT ⟨by omega, by omega⟩ hb h1
set_option maxRecDepth 100000 in
set_option maxHeartbeats 1000000 in
theorem Tryd.c_Awake08 (w : World) (hT : Tryd.Tabs w) :
    Calls Tryd.prog 23 #[] w fun e w' => e = .returned (.bool true) ∧ Below w.heap.size w w' := by
  have HS : Aid.Hid2 (Calls Tryd.prog 7 #[.int .u8 136, .int .u8 98] w fun e w' => e = .returned (.tuple #[.string ⟨#[195, 138, 204, 132]⟩, .bool true]) ∧ Below w.heap.size w w') := ⟨by
    have h := Tryd.c_bsigns 136 98 w hT (by decide) (by decide)
    rw [Dia.awake_1] at h
    exact h⟩
  have HB : Aid.Hid2 (∀ w1, Below w.heap.size w w1 → Calls Tryd.prog 11 #[.slice (some ⟨w1.heap.size, 0, none⟩) 2 2] (w1.alloc (.cells #[.int .i32 202, .int .i32 65] 21)) fun e w' => e = .returned (.tuple #[.string ⟨#[136, 102]⟩, .int .i64 1]) ∧ Below w1.heap.size w1 w') := ⟨fun w1 hb => by
    have h := Tryd.c_bbytes _ [202, 65] 2 _ (hT.below (Aid.bt hb (Aid.b1 _ _))) (Aid.row_new w1 #[.int .i32 202, .int .i32 65] 21 _ rfl) (by decide)
    rw [Dia.awake_2] at h
    exact h.mono fun e w' ⟨he, hb⟩ => ⟨he, Aid.bt (Aid.b1 _ _) hb⟩⟩
  go_enter Tryd.func23, Tryd.ntmps23
  go_wp2_with fail
  refine HS.out.mono ?_
  rintro e w1 ⟨rfl, hb1⟩
  go_wp2_with fail
  refine (HB.out _ hb1).mono ?_
  rintro e w2 ⟨rfl, hb2⟩
  go_wp2
  go_ret
  exact ⟨rfl, Aid.bt hb1 hb2⟩
set_option maxRecDepth 100000 in
theorem Tryd.c_awake08 (w : World) (hT : Tryd.Tabs w) :
    Calls Tryd.prog 9 #[] w fun e w' => e = .returned (.bool true) ∧ Below w.heap.size w w' := by
  go_enter Tryd.func9, Tryd.ntmps9
  go_wp2_with (go_at_call 23; refine (Tryd.c_Awake08 w hT).mono ?_; rintro e w1 ⟨rfl, hb1⟩)
  go_ret
  exact ⟨rfl, hb1⟩
set_option maxRecDepth 100000 in
set_option maxHeartbeats 1000000 in
theorem Tryd.w_BigSigns (l b : Int) (w : World) (hT : Tryd.Tabs w) (hl : 0 ≤ l ∧ l ≤ 255) (hb : 0 ≤ b ∧ b ≤ 255) :
    Calls Tryd.prog 3 #[.int .u8 l, .int .u8 b] w fun e w' => e = .returned (.bool true) ∧ Below w.heap.size w w' := by
  have HS := Aid.Hid2.mk (Tryd.c_bsigns l b w hT hl hb)
  have HR : Aid.Hid2 (∀ w1, Calls Tryd.prog 8 #[.int .i64 l, .int .i64 b] w1 fun e w' => e = .returned (.string ⟨(Dia.rsigns l b).toArray⟩) ∧ Below w1.heap.size w1 w') := ⟨fun w1 => Tryd.c_rsigns l b w1 hl hb⟩
  have h2 := Dia.two_bytes l b hl hb
  obtain ⟨l0, l1⟩ := hl
  obtain ⟨b0, b1⟩ := hb
  rcases Dia.bs_cases l b ⟨l0, l1⟩ ⟨b0, b1⟩ with ⟨h, g⟩ | ⟨sl, h, g, hne, hsc, hlen, hbk⟩
  · rw [h] at HS
    rw [g] at HR
    clear h g h2
    go_enter Tryd.func3, Tryd.ntmps3
    go_wp2_with fail
    refine HS.out.mono ?_
    rintro e w1 ⟨rfl, hb1⟩
    go_wp2_with fail
    refine (HR.out _).mono ?_
    rintro e w2 ⟨rfl, hb2⟩
    go_wp2_with fail
    refine (Tryd.c_awake08 _ (hT.below (Aid.bt hb1 hb2))).mono ?_
    rintro e w3 ⟨rfl, hb3⟩
    go_wp2
    go_ret
    exact ⟨rfl, Aid.bt (Aid.bt hb1 hb2) hb3⟩
  · rw [h] at HS
    rw [g] at HR
    have HP : Aid.Hid2 (∀ w1, Calls Tryd.prog 10 #[.string ⟨(Dia.encs sl).toArray⟩] w1 fun e w' => ∃ (aa : Option Addr) (cap : Nat), e = .returned (.tuple #[.slice aa sl.length cap, .int .i64 (-1)]) ∧ Aid.RowAt w' aa (sl.map Dia.rv) ∧ Below w1.heap.size w1 w') := ⟨fun w1 => by
      have hs : (ByteArray.mk (Dia.encs sl).toArray).size ≤ 1000000 := by
        have := Dia.encs_le sl
        simp [ByteArray.size]; omega
      have := Tryd.c_refPoints ⟨(Dia.encs sl).toArray⟩ w1 hs
      unfold Dia.IsRefPoints at this
      simp only [Dia.pts_ok sl hsc] at this
      exact this⟩
    have HB : Aid.Hid2 (∀ w1 aa cap, Tryd.Tabs w1 → Aid.RowAt w1 aa (sl.map Dia.rv) → Calls Tryd.prog 11 #[.slice aa sl.length cap] w1 fun e w' => e = .returned (.tuple #[.string (strOfNums [l, b]), .int .i64 sl.length]) ∧ Below w1.heap.size w1 w') := ⟨fun w1 aa cap hT1 hr => by
      have := Tryd.c_bbytes aa sl cap w1 hT1 hr (by omega)
      rw [hbk] at this
      rw [h2]
      exact this⟩
    clear h g hbk h2 hsc
    have hse : (ByteArray.mk (Dia.encs sl).toArray).toList.isEmpty = false := by
      rw [Lib.toList_data]
      cases he : Dia.encs sl with
      | nil => exact absurd he hne
      | cons x y => rfl
    clear hne
    generalize (ByteArray.mk (Dia.encs sl).toArray) = s at *
    go_enter Tryd.func3, Tryd.ntmps3
    go_wp2_with fail
    refine HS.out.mono ?_
    rintro e w1 ⟨rfl, hb1⟩
    go_wp2_with fail
    refine (HR.out _).mono ?_
    rintro e w2 ⟨rfl, hb2⟩
    go_wp2_with fail
    refine (HP.out _).mono ?_
    rintro e w3 ⟨aa, cap, rfl, hr, hb3⟩
    have hB3 := Aid.bt (Aid.bt hb1 hb2) hb3
    go_wp2_with fail
    refine (HB.out _ _ _ (hT.below hB3) hr).mono ?_
    rintro e w4 ⟨rfl, hb4⟩
    have hB4 := Aid.bt hB3 hb4
    go_wp2_with fail
    refine (Tryd.c_awake08 _ (hT.below hB4)).mono ?_
    rintro e w5 ⟨rfl, hb5⟩
    have hB5 := Aid.bt hB4 hb5
    have hcv : (convert 31 9 (.slice (some ⟨w5.heap.size, 0, none⟩) 2 2)).run Tryd.prog (w5.alloc (.cells #[.int .u8 l, .int .u8 b] 5)) = .ok (.string (strOfNums [l, b])) (w5.alloc (.cells #[.int .u8 l, .int .u8 b] 5)) :=
      Aid.run_conv_ints _ _ _ 5 ⟨w5.heap.size, 0, none⟩ 2 [l, b] Tryd.underlying31 Tryd.underlying5 Tryd.underlying9 (Aid.cells_new _ _ _ _ _ rfl)
    go_wp2
    go_ret
    exact ⟨rfl, Aid.bt hB5 (Aid.b1 _ _)⟩
end Go.Proofs
