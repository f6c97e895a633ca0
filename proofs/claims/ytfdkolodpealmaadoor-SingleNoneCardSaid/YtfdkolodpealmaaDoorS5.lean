/- walks of single: Decode -/
import Derived.Test.YtfdkolodpealmaaDoorS4
namespace Go.Proofs
open Go.RowKit

set_option maxRecDepth 100000 in
set_option maxHeartbeats 1000000 in
theorem Tryd.c_sDec (F : UInt8 → Int) {a : Option Addr} {cap : Nat} {ls : List (List Dia.Row)} {l : List (Int × Int)} (c : Int) (s : ByteArray) (w : World) (ht : Dia.T w a cap ls l) (hF : ∀ b : UInt8, Dia.fwdl l b.toNat = (F b, true)) (hsc : ∀ b, Dia.sc (F b) = true) (hs : s.size ≤ 100000) :
    Calls Tryd.prog 13 #[.agg #[.slice a ls.length cap, .int .i64 c], .string s] w fun e w' => e = .returned (.tuple #[.string ⟨(Dia.encs (s.data.toList.map F)).toArray⟩, .agg #[.int .i64 0, .int .i64 0]]) ∧ Below w.heap.size w w' := by
  obtain ⟨i0, hi, hz0, hz1, hz2⟩ := info_parts Tryd.info_i32
  have HF : Aid.Hid2 (∀ (b : UInt8) (w1 : World), Below w.heap.size w w1 → Calls Tryd.prog 29 #[.agg #[.slice a ls.length cap], .int .i64 (b.toNat : Int)] w1 fun e w' => e = .returned (.tuple #[.int .i32 (F b), .bool true]) ∧ Below w1.heap.size w1 w') := ⟨fun b w1 hb => by
    have h := Tryd.t_Forward (b.toNat : Int) w1 (ht.below hb) (by have := b.toNat_lt; omega)
    rw [hF b] at h
    exact h⟩
  clear ht hF
  go_enter Tryd.func13, Tryd.ntmps13
  go_wp2
  go_loopw [6, 7, 8, 9, 14] (fun v _ _ _ i wr => ∃ k : Nat, k ≤ s.size ∧ i = .int .i64 k ∧ wr.ownsRow (w.heap.size + 2) 21 1 v k (((s.data.toList.take k).map F).map Dia.rv) ∧ Below (w.heap.size + 2) ((w.alloc (.cells #[.slice a ls.length cap, .int .i64 c] 27)).alloc (.cells #[.int .i64 0, .int .i64 0] 40)) wr)
    (fun _ _ _ _ i _ => s.size - (intOf i).toNat)
  case atStart => exact ⟨0, Nat.zero_le _, rfl, World.ownsRow_nil _ _ _ _, Below.refl _ _⟩
  case round =>
    obtain ⟨k, hk, rfl, hown, hb⟩ := hrel
    have hsz : ((w.alloc (.cells #[.slice a ls.length cap, .int .i64 c] 27)).alloc (.cells #[.int .i64 0, .int .i64 0] 40)).heap.size = w.heap.size + 2 := by simp
    have hbF : Below w.heap.size w wr := (Aid.b2 _ _ _).trans (hb.mono (by omega))
    have hb' := hb
    rw [← hsz] at hb'
    have hszr := hb'.size
    rw [hsz] at hszr
    have kA := Aid.blk hb' (Aid.heap2 _ _ _).1
    have kB := Aid.blk hb' (Aid.heap2 _ _ _).2
    clear hb'
    obtain ⟨p0, p1, q0, q1⟩ := Aid.two kA
    by_cases hlt : k < s.size
    · have HFk := Aid.Hid2.mk (HF.out (s[k]))
      have hwx : IntKind.i64.wrap (s[k].toNat : Int) = s[k].toNat := IntWalk.i64_in _ (by have := s[k].toNat_lt; omega)
      have HX : Aid.Hid2 (s.data.toList.take (k + 1) = s.data.toList.take k ++ [s[k]]) := ⟨Dia.take_snoc s.data.toList k hlt⟩
      go_wp2_with fail
      go_region_with (go_at_call 29; refine (HFk.out _ (by first | exact hbF | exact hbF.drew)).mono ?_; rintro e w1 ⟨rfl, hb1⟩)
      all_goals
        have hr1 : Below wr.heap.size wr w1 := by first | exact hb1 | exact ((Below.refl _ _).drew).trans hb1
        clear hb1 HFk hwx
        have hown1 := Aid.ownsRow_below hown hr1
        have hb1 := hb.trans (hr1.mono hszr)
        have hs1 := hr1.size
        generalize s[k] = x at *
        go_wp2_with (at_builtin; refine Aid.wpList_app1 (w0 := (w.alloc (.cells #[.slice a ls.length cap, .int .i64 c] 27)).alloc (.cells #[.int .i64 0, .int .i64 0] 40)) _ rfl _ _ 45 21 1 4 rfl Tryd.underlying45 i0 _ hi hz0 hz1 hz2 rfl (by decide) (w.heap.size + 2) _ _ _ #[.int .i32 (F x)] _ rfl _ rfl hown1 hb1 ?_ rfl rfl ?_ ?_ ?_ ?_)
        · omega
        · simp [Value.oneCell']
        · omega
        · omega
        · intro v' w2 hown2 hb2 hsz2 _
          go_wp2
          go_roundw
          case rel => exact ⟨k + 1, by omega, by go_num, by rw [HX.out]; simpa [Dia.rv] using hown2, hb2⟩
          case measure => simp [intOf]; omega
    · obtain rfl : k = s.size := by omega
      have hall : s.data.toList.take s.size = s.data.toList := List.take_of_length_le (Nat.le_refl _)
      rw [hall] at hown
      obtain ⟨aa, cp, rfl, hrow⟩ := Aid.own_row hown
      have HTX : Aid.Hid2 (∀ w1, Aid.RowAt w1 aa ((s.data.toList.map F).map Dia.rv) → Calls Tryd.prog 30 #[.slice aa ((s.data.toList.map F).map Dia.rv).length cp] w1 fun e w' => e = .returned (.tuple #[.string ⟨(Dia.encs (s.data.toList.map F)).toArray⟩, .bool true]) ∧ Below w1.heap.size w1 w') := ⟨fun w1 hr => by
        have h := Tryd.c_Text aa (s.data.toList.map F) cp w1 hr (by rw [List.length_map]; exact Nat.le_trans hs (by decide))
        rw [Dia.txt_ok (by intro p hp; obtain ⟨x, _, rfl⟩ := List.mem_map.1 hp; exact hsc x)] at h
        rw [List.length_map]
        exact h⟩
      clear hown hall
      generalize hG : ((s.data.toList.map F).map Dia.rv).length = G at *
      clear hG
      go_wp2_with fail
      refine (HTX.out _ hrow).mono ?_
      rintro e w1 ⟨rfl, hb1⟩
      obtain ⟨r0, r1, g0, g1⟩ := Aid.two (Aid.blk hb1 kB)
      have hB1 := Aid.bt hbF hb1
      go_wp2
      exact bodyPost_ret (v := .tuple #[.string ⟨(Dia.encs (s.data.toList.map F)).toArray⟩, .agg #[.int .i64 0, .int .i64 0]]) (by simp [results, Tryd.results13, go_sem, r0, r1]) rfl (by
        exact ⟨rfl, (hB1.setCell (by show w.heap.size ≤ w.heap.size + 1; omega) _).setCell (by show w.heap.size ≤ w.heap.size + 1; omega) _⟩)
end Go.Proofs
