/- the laws of layer 3, walked: Awake, WideReads, WideWrites -/
import Derived.Test.YteacefgmpkpkpaaDoorR3
import Derived.Deep.RegionHeld3
namespace Go.Proofs
open Go.RowKit

theorem Dia.cl_withMark : Dia.withMark [97] = [255, 254, 97, 0] := by decide +kernel
theorem Dia.cl_pts97 : (Dia.pts [97]).2 = -1 := by decide +kernel
theorem Dia.cl_marked : (Dia.encs (Dia.marked [254, 255, 216, 61, 222, 0]).1) = [240, 159, 152, 128] := by decide +kernel
theorem Dia.cl_marked2 : (Dia.marked [254, 255, 216, 61, 222, 0]).2 = -1 := by decide +kernel
theorem Dia.cl_wpts : Dia.wpts true [216, 0, 0, 65] = ([], 0) := by decide +kernel

theorem Tryd.c_aw1 (w : World) (hT : Tryd.Tabs w) : Calls Tryd.prog 17 #[.string ⟨#[97]⟩] w fun e w' => e = .returned (.tuple #[.string ⟨#[255, 254, 97, 0]⟩, .agg #[.int .i64 0, .int .i64 0]]) ∧ Below w.heap.size w w' :=
  (Tryd.c_WithMark ⟨#[97]⟩ w (by decide) hT).mono fun e w' h => by
    unfold Dia.IsWithMark at h
    have e1 : (⟨#[97]⟩ : ByteArray).data.toList = [97] := rfl
    rw [e1, Dia.cl_withMark, Dia.cl_pts97] at h
    obtain ⟨a, b, h1, ⟨h3, h4⟩, h5⟩ := h
    exact ⟨by rw [h1, h3, h4]; rfl, h5⟩
theorem Tryd.c_aw2 (w : World) : Calls Tryd.prog 16 #[.string ⟨#[254, 255, 216, 61, 222, 0]⟩] w fun e w' => e = .returned (.tuple #[.string ⟨#[240, 159, 152, 128]⟩, .agg #[.int .i64 0, .int .i64 0]]) ∧ Below w.heap.size w w' :=
  (Tryd.c_Marked ⟨#[254, 255, 216, 61, 222, 0]⟩ w (by decide)).mono fun e w' h => by
    unfold Dia.IsMarked at h
    have e1 : (⟨#[254, 255, 216, 61, 222, 0]⟩ : ByteArray).data.toList = [254, 255, 216, 61, 222, 0] := rfl
    rw [e1, Dia.cl_marked, Dia.cl_marked2] at h
    obtain ⟨a, b, h1, ⟨h3, h4⟩, h5⟩ := h
    exact ⟨by rw [h1, h3, h4]; rfl, h5⟩
theorem Tryd.c_aw3 (w : World) : Calls Tryd.prog 8 #[.string ⟨#[216, 0, 0, 65]⟩, .bool true] w fun e w' => e = .returned (.tuple #[.string ⟨#[]⟩, .agg #[.int .i64 2, .int .i64 0]]) ∧ Below w.heap.size w w' :=
  (Tryd.c_Decode ⟨#[216, 0, 0, 65]⟩ true w (by decide)).mono fun e w' h => by
    unfold Dia.IsDecode at h
    have e1 : (⟨#[216, 0, 0, 65]⟩ : ByteArray).data.toList = [216, 0, 0, 65] := rfl
    rw [e1, Dia.cl_wpts] at h
    obtain ⟨a, b, h1, ⟨h3, h4⟩, h5⟩ := h
    exact ⟨by rw [h1, h3, h4]; rfl, h5⟩

set_option maxRecDepth 100000 in
set_option maxHeartbeats 1000000 in
theorem Tryd.c_Awake03 (w : World) (hT : Tryd.Tabs w) :
    Calls Tryd.prog 18 #[] w fun e w' => e = .returned (.bool true) ∧ Below w.heap.size w w' := by
  go_enter Tryd.func18, Tryd.ntmps18
  go_wp2_with (first
    | (go_at_call 17; refine (Tryd.c_aw1 _ hT).mono ?_; rintro e w1 ⟨rfl, hb1⟩)
    | (go_at_call 16; refine (Tryd.c_aw2 _).mono ?_; rintro e w2 ⟨rfl, hb2⟩; have hb2' := hb2.mono (show w1.heap.size + 1 ≤ _ by simp))
    | (go_at_call 8; refine (Tryd.c_aw3 _).mono ?_; rintro e w3 ⟨rfl, hb3⟩; have hb3' := hb3.mono (show w2.heap.size + 1 ≤ _ by simp); have hb13 := hb2'.trans (Aid.below_new hb3' (Aid.new_lt hb2')); have hb03 := hb1.trans (Aid.below_new hb13 hb1.size))
    | (go_at_call 31; refine (Tryd.c_Awake02 _ (hT.below (hb03.trans ((Below.refl _ _).alloc (by have := hb03.size; omega) _)))).mono ?_; rintro e w4 ⟨rfl, hb4⟩; have hb4' := hb4.mono (show w3.heap.size + 1 ≤ _ by simp); obtain ⟨e0, e1, _, _⟩ := Aid.cells2 hb4'; have hb24 := hb3'.trans (Aid.below_new hb4' (Aid.new_lt hb3')); obtain ⟨d0, d1, _, _⟩ := Aid.cells2 hb24; have hb14 := hb13.trans (Aid.below_new hb4' (Aid.new_lt hb13)); obtain ⟨c0, c1, _, _⟩ := Aid.cells2 hb14; have hb04 := hb1.trans (Aid.below_new hb14 hb1.size))
    | (go_at_call 12; with_reducible refine (Tryd.c_Bad_no _ w4).mono ?_; rintro e w5 ⟨rfl, hb5⟩; have d0' := Aid.cell_ext hb5 d0; have d1' := Aid.cell_ext hb5 d1; have e0' := Aid.cell_ext hb5 e0; have e1' := Aid.cell_ext hb5 e1)
    | (go_at_call 12; refine (Tryd.c_Bad_no _ _).mono ?_; rintro e w6 ⟨rfl, hb6⟩; have e0'' := Aid.cell_ext hb6 e0'; have e1'' := Aid.cell_ext hb6 e1'))
  go_ret
  exact ⟨rfl, Aid.bt (Aid.bt hb04 hb5) hb6⟩
theorem Tryd.c_awake03 (w : World) (hT : Tryd.Tabs w) :
    Calls Tryd.prog 7 #[] w fun e w' => e = .returned (.bool true) ∧ Below w.heap.size w w' := by
  go_enter Tryd.func7, Tryd.ntmps7
  go_wp2_with (go_at_call 18; refine (Tryd.c_Awake03 w hT).mono ?_; rintro e w1 ⟨rfl, hb1⟩)
  go_ret
  exact ⟨rfl, hb1⟩
end Go.Proofs
