/- walks of point: Points -/
import Derived.Test.YtfdkolodpealmaaDoorW3
namespace Go.Proofs
open Go.RowKit

/-- what Points hands back -/
def Dia.IsPoints (l : List UInt8) (w w' : World) (e : Ending) : Prop :=
  ∃ (aa : Option Addr) (cap : Nat) (a b : Int), e = .returned (.tuple #[.slice aa (Dia.pts l).1.length cap, .agg #[.int .i64 a, .int .i64 b]]) ∧
    Aid.RowAt w' aa ((Dia.pts l).1.map Dia.rv) ∧ Dia.IsFault (Dia.pts l).2 a b ∧ Below w.heap.size w w'

set_option maxRecDepth 100000 in
set_option maxHeartbeats 400000 in
theorem Tryd.c_Points (s : ByteArray) (w : World) (hs : s.size ≤ 1000000) (hT : Tryd.Tabs w) :
    Calls Tryd.prog 31 #[.string s] w fun e w' => Dia.IsPoints s.data.toList w w' e := by
  obtain ⟨i0, hi, hz0, hz1, hz2⟩ := info_parts Tryd.info_i32
  go_enter Tryd.func31, Tryd.ntmps31
  go_wp2
  go_loopw [4, 5, 6, 7] (fun v i _ _ wr => ∃ (k : Nat) (ps : List Int), i = .int .i64 k ∧ Dia.UpTo s.data.toList k ps ∧
      wr.ownsRow (w.heap.size + 1) 21 1 v ps.length (ps.map Dia.rv) ∧ Below (w.heap.size + 1) (w.alloc (.cells #[.int .i64 0, .int .i64 0] 40)) wr)
    (fun _ i _ _ _ => s.size - (intOf i).toNat)
  case atStart => exact ⟨0, [], rfl, Dia.upTo_zero _, World.ownsRow_nil _ _ _ _, Below.refl _ _⟩
  case round =>
    obtain ⟨k, ps, rfl, hu, hown, hb⟩ := hrel
    have hk : k ≤ s.size := Dia.upTo_le hu
    have hpl := Dia.upTo_len hu
    have hbw : Below w.heap.size w wr := Aid.below_new hb (Nat.le_refl _)
    have hBr := Aid.new_lt hb
    have hTr : Tryd.Tabs wr := hT.below hbw
    have h4 := Dia.hd_le (s.data.toList.drop k)
    by_cases hlt : k < s.size
    · go_wp2_with (first
        | (go_at_call 50; refine (Tryd.c_next s k _ hk (by omega) hTr).mono ?_; rintro e w1 ⟨rfl, hb1⟩; obtain ⟨c0, c1, f0, f1⟩ := Aid.cells2 (hb.trans (hb1.mono hBr)))
        | (at_builtin; refine Aid.wpList_app1 (w0 := w.alloc (.cells #[.int .i64 0, .int .i64 0] 40)) _ rfl _ _ 45 21 1 4 rfl Tryd.underlying45 i0 _ hi hz0 hz1 hz2 rfl (by decide) (w.heap.size + 1) _ _ _ #[.int .i32 (Dia.hd (List.drop k s.data.toList)).1] _ rfl _ rfl (Aid.ownsRow_below hown hb1) (hb.trans (hb1.mono hBr)) ?_ rfl rfl ?_ ?_ ?_ ?_))
      · have hz : (((Dia.hd (List.drop k s.data.toList)).2 : Int) == 0) = true := by assumption
        exact bodyPost_ret (v := .tuple #[.slice none 0 0, .agg #[.int .i64 2, .int .i64 k]]) (by simp [results, Tryd.results31, go_sem, c0, c1]) rfl (by
          unfold Dia.IsPoints
          rw [Dia.upTo_bad hu hlt (by simpa using hz)]
          exact ⟨none, 0, 2, k, rfl, .inl rfl, Dia.isFault_at k, ((hbw.trans (hb1.mono (by omega))).setCell (Nat.le_refl _) _).setCell (Nat.le_refl _) _⟩)
      · have := hb1.size; omega
      · rfl
      · omega
      · omega
      · intro v' w2 hown2 hb2 hsz2 _
        have hz : (((Dia.hd (List.drop k s.data.toList)).2 : Int) == 0) = false := by assumption
        have hz' : (Dia.hd (List.drop k s.data.toList)).2 ≠ 0 := by simpa using hz
        go_wp2
        go_roundw
        case rel => exact ⟨k + (Dia.hd (List.drop k s.data.toList)).2, _, by go_num, Dia.upTo_step hu hz', by simpa [Dia.rv] using hown2, hb2⟩
        case measure => simp [intOf]; omega
    · obtain ⟨c0, c1, f0, f1⟩ := Aid.cells2 hb
      have hend := Lib.hid (Dia.upTo_end hu hlt)
      obtain ⟨aa, cap, rfl, hrow⟩ := Aid.own_row hown
      go_wp2
      exact bodyPost_ret (v := .tuple #[.slice aa (ps.map Dia.rv).length cap, .agg #[.int .i64 0, .int .i64 0]]) (by simp [results, Tryd.results31, go_sem, c0, c1]) rfl (by
          unfold Dia.IsPoints
          rw [hend.out]
          have hbb : Below w.heap.size w ((wr.setCell ⟨w.heap.size, 0, none⟩ (.int .i64 0)).setCell ⟨w.heap.size, 1, none⟩ (.int .i64 0)) := (hbw.setCell (Nat.le_refl _) _).setCell (Nat.le_refl _) _
          refine ⟨aa, cap, 0, 0, by rw [List.length_map], ?_, Dia.isFault_none, hbb⟩
          exact Aid.own_at (ownsRow_setCell_below (ownsRow_setCell_below hown (by show w.heap.size < w.heap.size + 1; omega) _) (by show w.heap.size < w.heap.size + 1; omega) _))
end Go.Proofs
