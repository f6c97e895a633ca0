/- the laws of layer 7, walked: WansungSigns, WansungBytes -/
import Derived.Test.YtfiinmidcmgphaaDoorCg
namespace Go.Proofs
open Go.RowKit

/-- a text of two bytes, as the walks read it -/
structure Tryd.Two (s : ByteArray) (l b : Int) : Prop where
  i0 : ∀ w : World, (Instr.index 9 (.string s) (.int .i64 0)).run Tryd.prog w = .ok (.int .u8 l) w
  i1 : ∀ w : World, (Instr.index 9 (.string s) (.int .i64 1)).run Tryd.prog w = .ok (.int .u8 b) w
  sz : ((s.size : Int) == 2) = true
  sz2 : ((s.size : Int) != 2) = false
theorem Tryd.two_of (l b : Int) (hl : 0 ≤ l ∧ l ≤ 255) (hb : 0 ≤ b ∧ b ≤ 255) : Tryd.Two ⟨(Dia.twoB l b).toArray⟩ l b := by
  obtain ⟨x, rfl⟩ := Int.eq_ofNat_of_zero_le hl.1
  obtain ⟨y, rfl⟩ := Int.eq_ofNat_of_zero_le hb.1
  have ex : (x.toUInt8).toNat = x := by
    have : x < 256 := by omega
    simp [Nat.mod_eq_of_lt this]
  have ey : (y.toUInt8).toNat = y := by
    have : y < 256 := by omega
    simp [Nat.mod_eq_of_lt this]
  have e : Dia.twoB (x : Int) (y : Int) = [x.toUInt8, y.toUInt8] := rfl
  rw [e]
  refine ⟨fun w => ?_, fun w => ?_, rfl, rfl⟩
  · have h := run_index_string (P := Tryd.prog) w 9 ⟨[x.toUInt8, y.toUInt8].toArray⟩ .i64 0 Tryd.underlying9
    rw [dif_pos ⟨by decide, by simp [ByteArray.size]⟩] at h
    rw [h]
    show Result.ok (Value.int .u8 ((x.toUInt8).toNat : Int)) w = _
    rw [ex]
  · have h := run_index_string (P := Tryd.prog) w 9 ⟨[x.toUInt8, y.toUInt8].toArray⟩ .i64 1 Tryd.underlying9
    rw [dif_pos ⟨by decide, by simp [ByteArray.size]⟩] at h
    rw [h]
    show Result.ok (Value.int .u8 ((y.toUInt8).toNat : Int)) w = _
    rw [ey]
def Dia.IsSign2 (l b : Int) (w w' : World) (e : Ending) : Prop := ∃ (p : Int) (ok : Bool), Dia.SgR l b p ∧ Aid.Hid2 (ok = decide (p ≠ 0)) ∧ e = .returned (.tuple #[.int .i32 p, .bool ok]) ∧ Below w.heap.size w w'
set_option maxRecDepth 100000 in
set_option maxHeartbeats 1000000 in
theorem Tryd.w_WansungSigns (l b : Int) (w : World) (hT : Tryd.Tabs w ∧ Tryd.Tab32 w) (hl : 0 ≤ l ∧ l ≤ 255) (hb : 0 ≤ b ∧ b ≤ 255) :
    Calls Tryd.prog 5 #[.int .u8 l, .int .u8 b] w fun e w' => e = .returned (.bool true) ∧ Below w.heap.size w w' := by
  have HS : Aid.Hid2 (Calls Tryd.prog 15 #[.int .u8 l, .int .u8 b] w fun e w' => Dia.IsSign2 l b w w' e) := ⟨(Tryd.c_wSign l b w hl hb hT.1 hT.2).mono fun e w' ⟨p, h1, h2, h3⟩ => ⟨p, _, h1, ⟨rfl⟩, h2, h3⟩⟩
  have HR : Aid.Hid2 (∀ w1, _) := ⟨fun w1 => Tryd.c_wRefSign l b w1 hl hb⟩
  have HBK : Aid.Hid2 (∀ p w1, Dia.SgR l b p → p ≠ 0 → Below w.heap.size w w1 → Calls Tryd.prog 17 #[.int .i32 p] w1 fun e w' => e = .returned (.tuple #[.string ⟨(Dia.twoB l b).toArray⟩, .bool true]) ∧ Below w1.heap.size w1 w') := ⟨fun p w1 h hp hb1 => by
    have := Tryd.c_wBytes p w1 (hT.1.below hb1)
    rw [h.back hp hl hb] at this
    exact this⟩
  have HT2 := Tryd.two_of l b hl hb
  have HAW : Aid.Hid2 (∀ w1, Below w.heap.size w w1 → _) := ⟨fun w1 hb => Tryd.c_awake07 w1 (hT.2.below hb)⟩
  obtain ⟨l0, l1⟩ := hl
  obtain ⟨b0, b1⟩ := hb
  clear hT
  generalize ByteArray.mk (Dia.twoB l b).toArray = s at *
  have i0 := HT2.i0
  have i1 := HT2.i1
  have sz := HT2.sz
  go_enter Tryd.func5, Tryd.ntmps5
  go_wp2_with fail
  refine HS.out.mono ?_
  rintro e w1 ⟨p, ok, hp, hok, rfl, hb1⟩
  cases ok with
  | false =>
    have hp0 : p = 0 := by have := hok.out; simpa using this
    subst hp0
    go_wp2_with fail
    refine (HR.out _).mono ?_
    rintro e w2 ⟨q, hq, rfl, hb2⟩
    obtain rfl := hp.uniq hq
    clear hp hq
    go_wp2_with fail
    refine (HAW.out _ (Aid.bt hb1 hb2)).mono ?_
    rintro e w3 ⟨rfl, hb3⟩
    go_wp2
    go_ret
    exact ⟨rfl, Aid.bt (Aid.bt hb1 hb2) hb3⟩
  | true =>
    have hp0 : p ≠ 0 := by have := hok.out; simpa using this
    have d0 : (p != 0) = true := by simpa using hp0
    have HB2 : Aid.Hid2 (∀ w1, Below w.heap.size w w1 → _) := ⟨fun w1 hb => HBK.out p w1 hp hp0 hb⟩
    have HPP := Aid.Hid2.mk hp
    clear hp0 hp
    go_wp2_with fail
    refine (HR.out _).mono ?_
    rintro e w2 ⟨q, hq, rfl, hb2⟩
    obtain rfl := HPP.out.uniq hq
    clear hq
    have hB2 := Aid.bt hb1 hb2
    go_wp2_with fail
    refine (HB2.out _ hB2).mono ?_
    rintro e w3 ⟨rfl, hb3⟩
    have hB3 := Aid.bt hB2 hb3
    go_wp2_with fail
    refine (HAW.out _ hB3).mono ?_
    rintro e w4 ⟨rfl, hb4⟩
    go_wp2
    go_ret
    exact ⟨rfl, Aid.bt hB3 hb4⟩
end Go.Proofs
