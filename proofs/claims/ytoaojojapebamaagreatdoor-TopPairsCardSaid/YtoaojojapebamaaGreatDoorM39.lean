/- the laws of layer 8, walked: the document's example, BigSigns, BigBytes -/
import Derived.Test.YtoaojojapebamaaGreatDoorM29
import Derived.Test.YtoaojojapebamaaGreatDoorM27
namespace Go.Proofs
open Go.RowKit

theorem Tryz.c_bsigns (l b : Int) (w : World) (hT : Tryz.Tabs w) (hl : 0 ≤ l ∧ l ≤ 255) (hb : 0 ≤ b ∧ b ≤ 255) :
    Calls Tryz.prog 37 #[.int .u8 l, .int .u8 b] w fun e w' => e = .returned (.tuple #[.string ⟨(Dia.bsigns l b).1.toArray⟩, .bool (Dia.bsigns l b).2]) ∧ Below w.heap.size w w' := by
  by_cases h : (Dia.bcell b).2 = false ∨ l < 129 ∨ l = 255
  · have e : Dia.bsigns l b = ([], false) := by unfold Dia.bsigns; rw [if_pos h]
    rw [e]
    exact Tryz.c_bsigns_no l b w hl hb h
  · have h1 : (Dia.bcell b).2 = true := by
      cases hc : (Dia.bcell b).2 with
      | true => rfl
      | false => exact absurd (.inl hc) h
    exact Tryz.c_bsigns_yes l b w hT ⟨by omega, by omega⟩ hb h1
set_option maxRecDepth 100000 in
set_option maxHeartbeats 1000000 in
theorem Tryz.c_Awake08 (w : World) (hT : Tryz.Tabs w) :
    Calls Tryz.prog 16 #[] w fun e w' => e = .returned (.bool true) ∧ Below w.heap.size w w' := by
  have HS : Aid.Hid2 (Calls Tryz.prog 37 #[.int .u8 136, .int .u8 98] w fun e w' => e = .returned (.tuple #[.string ⟨#[195, 138, 204, 132]⟩, .bool true]) ∧ Below w.heap.size w w') := ⟨by
    have h := Tryz.c_bsigns 136 98 w hT (by decide) (by decide)
    rw [Dia.awake_1] at h
    exact h⟩
  have HB : Aid.Hid2 (∀ w1, Below w.heap.size w w1 → Calls Tryz.prog 38 #[.slice (some ⟨w1.heap.size, 0, none⟩) 2 2] (w1.alloc (.cells #[.int .i32 202, .int .i32 65] 21)) fun e w' => e = .returned (.tuple #[.string ⟨#[136, 102]⟩, .int .i64 1]) ∧ Below w1.heap.size w1 w') := ⟨fun w1 hb => by
    have h := Tryz.c_bbytes _ [202, 65] 2 _ (hT.below (Aid.bt hb (Aid.b1 _ _))) (Aid.row_new w1 #[.int .i32 202, .int .i32 65] 21 _ rfl) (by decide)
    rw [Dia.awake_2] at h
    exact h.mono fun e w' ⟨he, hb⟩ => ⟨he, Aid.bt (Aid.b1 _ _) hb⟩⟩
  go_enter Tryz.func16, Tryz.ntmps16
  go_wp2_with fail
  refine HS.out.mono ?_
  rintro e w1 ⟨rfl, hb1⟩
  go_wp2_with fail
  refine (HB.out _ hb1).mono ?_
  rintro e w2 ⟨rfl, hb2⟩
  go_wp2
  go_ret
  exact ⟨rfl, Aid.bt hb1 hb2⟩
end Go.Proofs
