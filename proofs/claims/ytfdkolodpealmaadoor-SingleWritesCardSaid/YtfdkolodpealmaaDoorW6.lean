/- walks of point and its reference: the rest -/
import Derived.Test.YtfdkolodpealmaaDoorW5
namespace Go.Proofs
open Go.RowKit

/-- what the reference's Points hands back -/
def Dia.IsRefPoints (l : List UInt8) (w w' : World) (e : Ending) : Prop :=
  ∃ (aa : Option Addr) (cap : Nat), e = .returned (.tuple #[.slice aa (Dia.pts l).1.length cap, .int .i64 (Dia.pts l).2]) ∧
    Aid.RowAt w' aa ((Dia.pts l).1.map Dia.rv) ∧ Below w.heap.size w w'

set_option maxRecDepth 100000 in
set_option maxHeartbeats 400000 in
theorem Tryd.c_refPoints (s : ByteArray) (w : World) (hs : s.size ≤ 1000000) :
    Calls Tryd.prog 17 #[.string s] w fun e w' => Dia.IsRefPoints s.data.toList w w' e := by
  obtain ⟨i0, hi, hz0, hz1, hz2⟩ := info_parts Tryd.info_i32
  go_enter Tryd.func17, Tryd.ntmps17
  go_wp2
  go_loopw [4, 5, 6, 7] (fun v i _ _ wr => ∃ (k : Nat) (ps : List Int), i = .int .i64 k ∧ Dia.UpTo s.data.toList k ps ∧
      wr.ownsRow w.heap.size 21 1 v ps.length (ps.map Dia.rv) ∧ Below w.heap.size w wr)
    (fun _ i _ _ _ => s.size - (intOf i).toNat)
  case atStart => exact ⟨0, [], rfl, Dia.upTo_zero _, World.ownsRow_nil _ _ _ _, Below.refl _ _⟩
  case round =>
    obtain ⟨k, ps, rfl, hu, hown, hb⟩ := hrel
    have hk : k ≤ s.size := Dia.upTo_le hu
    have hpl := Dia.upTo_len hu
    have hBr := hb.size
    have h4 := Dia.hd_le (s.data.toList.drop k)
    by_cases hlt : k < s.size
    · go_wp2_with (first
        | (go_at_call 36; refine (Tryd.c_At s k _ hlt hs).mono ?_; rintro e w1 ⟨rfl, hb1⟩)
        | (at_builtin; refine Aid.wpList_app1 (w0 := w) _ rfl _ _ 45 21 1 4 rfl Tryd.underlying45 i0 _ hi hz0 hz1 hz2 rfl (by decide) w.heap.size _ _ _ #[.int .i32 (Dia.hd (List.drop k s.data.toList)).1] _ rfl _ rfl (Aid.ownsRow_below hown hb1) (hb.trans (hb1.mono hBr)) ?_ rfl rfl ?_ ?_ ?_ ?_))
      · have hz : (((Dia.hd (List.drop k s.data.toList)).2 : Int) == 0) = true := by assumption
        go_ret2
        unfold Dia.IsRefPoints
        rw [Dia.upTo_bad hu hlt (by simpa using hz)]
        exact ⟨none, 0, rfl, .inl rfl, hb.trans (hb1.mono hBr)⟩
      · have := hb1.size; omega
      · rfl
      · omega
      · omega
      · intro v' w2 hown2 hb2 hsz2 _
        have hz : (((Dia.hd (List.drop k s.data.toList)).2 : Int) == 0) = false := by assumption
        have hz' : (Dia.hd (List.drop k s.data.toList)).2 ≠ 0 := by simpa using hz
        go_wp2
        go_roundw
        case rel => exact ⟨k + (Dia.hd (List.drop k s.data.toList)).2, _, by go_num, Dia.upTo_step hu hz', by simpa [Dia.rv] using hown2, hb2⟩
        case measure => simp [intOf]; omega
    · have hend := Lib.hid (Dia.upTo_end hu hlt)
      obtain ⟨aa, cap, rfl, hrow⟩ := Aid.own_row hown
      go_wp2
      go_ret2
      unfold Dia.IsRefPoints
      rw [hend.out]
      exact ⟨aa, cap, by simp, hrow, hb⟩

theorem Dia.str_app (x y : List UInt8) : (⟨x.toArray⟩ : ByteArray) ++ ⟨y.toArray⟩ = ⟨(x ++ y).toArray⟩ := by
  apply ByteArray.ext; simp

set_option maxRecDepth 100000 in
theorem Tryd.c_Bad (a b : Int) (w : World) :
    Calls Tryd.prog 16 #[.agg #[.int .i64 a, .int .i64 b]] w fun e w' => e = .returned (.bool (a != 0)) ∧ Below w.heap.size w w' := by
  go_enter Tryd.func16, Tryd.ntmps16
  go_wp2
  go_ret
  exact ⟨rfl, (Below.refl _ _).alloc (Nat.le_refl _) _⟩

set_option maxRecDepth 100000 in
theorem Tryd.c_Bad_no (b : Int) (w : World) : Calls Tryd.prog 16 #[.agg #[.int .i64 0, .int .i64 b]] w fun e w' => e = .returned (.bool false) ∧ Below w.heap.size w w' := Tryd.c_Bad 0 b w
set_option maxRecDepth 100000 in
theorem Tryd.c_Bad_yes (b : Int) (w : World) : Calls Tryd.prog 16 #[.agg #[.int .i64 2, .int .i64 b]] w fun e w' => e = .returned (.bool true) ∧ Below w.heap.size w w' := Tryd.c_Bad 2 b w

set_option maxRecDepth 100000 in
theorem Tryd.c_Fault (x : Int) (w : World) :
    Calls Tryd.prog 18 #[.int .i64 x] w fun e w' => ∃ a b : Int, e = .returned (.agg #[.int .i64 a, .int .i64 b]) ∧ Dia.IsFault x a b ∧ Below w.heap.size w w' := by
  by_cases h : x < 0
  · go_enter Tryd.func18, Tryd.ntmps18
    go_wp2
    exact bodyPost_ret (v := .agg #[.int .i64 0, .int .i64 0]) (by simp [results, Tryd.results18, go_sem]) rfl ⟨0, 0, rfl, ⟨by rw [if_pos h], by rw [if_pos h]⟩, (Below.refl _ _).alloc (Nat.le_refl _) _⟩
  · go_enter Tryd.func18, Tryd.ntmps18
    go_wp2
    exact bodyPost_ret (v := .agg #[.int .i64 2, .int .i64 x]) (by simp [results, Tryd.results18, go_sem]) rfl ⟨2, x, rfl, ⟨by rw [if_neg (by omega)], by rw [if_neg (by omega)]⟩, (Below.refl _ _).alloc (Nat.le_refl _) _⟩
end Go.Proofs
