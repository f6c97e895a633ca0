/- walks of wansung and math/bits: OnesCount32, TrailingZeros32, before, nth -/
import Derived.Test.YtfiinmidcmgphaaDoorC2
namespace Go.Proofs
open Go.RowKit

namespace Aid
/-- 's[i]' of a constant text, in a region that draws and only reads -/
theorem quiet_index_str {P : Program} {ops : Array Oper} {C : World → Prop} {Q : Act → Prop} {o : Oper} {rest : List Oper} {a : Act}
    (hg : o.guard = none) (t : TypeId) (x i : Operand) (hop : o.op = Op.index t x i) (ht : P.underlying t = some .string)
    (s : ByteArray) (S : List UInt8) (hx : a.eval x = .string s) (hS : s = ⟨S.toArray⟩) (k : IntKind) (n : Int) (hi' : a.eval i = .int k n) (v : Nat) (hv : (S.getD n.toNat 0).toNat = v)
    (h0 : 0 ≤ n) (h1 : n < S.length) (hK : wpQuiet P ops C Q rest (a.put o.dst (.int .u8 v))) : wpQuiet P ops C Q (o :: rest) a := by
  subst hS
  have hw : Region.wanted o (yielded ops a.tmps) = true := by simp [Region.wanted, hg]
  have hs : ((ByteArray.mk S.toArray).size : Int) = S.length := by simp [ByteArray.size]
  have h1' : n.toNat < S.length := by omega
  have e : (ByteArray.mk S.toArray)[n.toNat]'(by simpa [ByteArray.size] using h1') = S.getD n.toNat 0 := by
    rw [List.getD_eq_getElem?_getD, List.getElem?_eq_getElem h1']
    rfl
  have hrun : ∀ w : World, (Instr.index t (.string ⟨S.toArray⟩) (.int k n)).run P w = .ok (.int .u8 v) w := fun w => by
    have hr := run_index_string (P := P) w t ⟨S.toArray⟩ k n ht
    rw [dif_pos ⟨by omega, by rw [hs]; omega⟩, e, hv] at hr
    exact hr
  unfold wpQuiet
  rw [if_pos hw]
  refine ⟨.int .u8 v, fun w _ => ?_, hK⟩
  unfold Oper.quietAt
  simp [execOp, hop, hx, hi', hrun, Result.andThen, Oper.quietUpon]
end Aid
def Dia.popT : List UInt8 := (List.range 256).map fun x => (Dia.cnt x 8).toUInt8
theorem Dia.popT_len : Dia.popT.length = 256 := by simp [Dia.popT]
theorem Dia.popT_at (x : Nat) (h : x < 256) : (Dia.popT.getD x 0).toNat = Dia.cnt x 8 := by
  unfold Dia.popT
  have := Dia.cnt_le x 8
  rw [List.getD_eq_getElem?_getD, List.getElem?_map, List.getElem?_range h]
  simp
  omega
theorem Dia.and255 (y : Nat) (h : y < 4294967296) : bits .and .u32 (y : Int) 255 = ((y % 2 ^ 8 : Nat) : Int) := by
  have := bits_and_u32_nat y 255 h (by decide)
  rw [show (255 : Nat) = 2 ^ 8 - 1 from rfl, Nat.and_two_pow_sub_one_eq_mod] at this
  exact this
set_option maxRecDepth 100000 in
set_option maxHeartbeats 1000000 in
theorem Tryd.c_Ones (x : Nat) (w : World) (hx : x < 4294967296) :
    Calls Tryd.prog 23 #[.int .u32 x] w fun e w' => e = .returned (.int .i64 (Dia.cnt x 32)) ∧ Below w.heap.size w w' := by
  have hb := Dia.cnt_bytes x
  have l1 := Dia.cnt_le (x / 2 ^ 24 % 2 ^ 8) 8
  have l2 := Dia.cnt_le (x / 2 ^ 16 % 2 ^ 8) 8
  have l3 := Dia.cnt_le (x / 2 ^ 8 % 2 ^ 8) 8
  have l4 := Dia.cnt_le (x % 2 ^ 8) 8
  have i1 : ((x : Int) / 16777216).toNat = x / 2 ^ 24 % 2 ^ 8 := by simp only [Nat.reducePow]; omega
  have b2 : bits .and .u32 ((x : Int) / 65536) 255 = ((x / 2 ^ 16 % 2 ^ 8 : Nat) : Int) := by
    rw [show (x : Int) / 65536 = ((x / 2 ^ 16 : Nat) : Int) by simp only [Nat.reducePow]; omega]
    exact Dia.and255 _ (by simp only [Nat.reducePow]; omega)
  have b3 : bits .and .u32 ((x : Int) / 256) 255 = ((x / 2 ^ 8 % 2 ^ 8 : Nat) : Int) := by
    rw [show (x : Int) / 256 = ((x / 2 ^ 8 : Nat) : Int) by simp only [Nat.reducePow]; omega]
    exact Dia.and255 _ (by simp only [Nat.reducePow]; omega)
  have b4 : bits .and .u32 (x : Int) 255 = ((x % 2 ^ 8 : Nat) : Int) := Dia.and255 _ hx
  have H : ∀ y : Nat, y % 2 ^ 8 < 256 := fun y => Nat.mod_lt _ (by decide)
  have HV1 : Aid.Hid2 ((Dia.popT.getD ((x : Int) / 16777216).toNat 0).toNat = Dia.cnt (x / 2 ^ 24 % 2 ^ 8) 8) := ⟨by rw [i1, Dia.popT_at _ (H _)]⟩
  have HV2 : Aid.Hid2 ((Dia.popT.getD (bits .and .u32 ((x : Int) / 65536) 255).toNat 0).toNat = Dia.cnt (x / 2 ^ 16 % 2 ^ 8) 8) := ⟨by rw [b2, Int.toNat_natCast, Dia.popT_at _ (H _)]⟩
  have HV3 : Aid.Hid2 ((Dia.popT.getD (bits .and .u32 ((x : Int) / 256) 255).toNat 0).toNat = Dia.cnt (x / 2 ^ 8 % 2 ^ 8) 8) := ⟨by rw [b3, Int.toNat_natCast, Dia.popT_at _ (H _)]⟩
  have HV4 : Aid.Hid2 ((Dia.popT.getD (bits .and .u32 (x : Int) 255).toNat 0).toNat = Dia.cnt (x % 2 ^ 8) 8) := ⟨by rw [b4, Int.toNat_natCast, Dia.popT_at _ (H _)]⟩
  have L2 : Aid.Hid2 (0 ≤ bits .and .u32 ((x : Int) / 65536) 255 ∧ bits .and .u32 ((x : Int) / 65536) 255 < Dia.popT.length) := ⟨by rw [b2, Dia.popT_len]; have := H (x / 2 ^ 16); omega⟩
  have L3 : Aid.Hid2 (0 ≤ bits .and .u32 ((x : Int) / 256) 255 ∧ bits .and .u32 ((x : Int) / 256) 255 < Dia.popT.length) := ⟨by rw [b3, Dia.popT_len]; have := H (x / 2 ^ 8); omega⟩
  have L4 : Aid.Hid2 (0 ≤ bits .and .u32 (x : Int) 255 ∧ bits .and .u32 (x : Int) 255 < Dia.popT.length) := ⟨by rw [b4, Dia.popT_len]; have := H x; omega⟩
  have HB := Aid.Hid2.mk hb
  clear hb i1 b2 b3 b4 H
  generalize Dia.cnt (x / 2 ^ 24 % 2 ^ 8) 8 = p1 at *
  generalize Dia.cnt (x / 2 ^ 16 % 2 ^ 8) 8 = p2 at *
  generalize Dia.cnt (x / 2 ^ 8 % 2 ^ 8) 8 = p3 at *
  generalize Dia.cnt (x % 2 ^ 8) 8 = p4 at *
  generalize Dia.cnt x 32 = p at *
  have HW : Aid.Hid2 (IntKind.i64.wrap (IntKind.u8.wrap (IntKind.u8.wrap (IntKind.u8.wrap ((p1 : Int) + p2) + p3) + p4)) = p) := ⟨by
    have e1 : IntKind.u8.wrap ((p1 : Int) + p2) = p1 + p2 := by rw [IntKind.wrap_u8]; omega
    have e2 : IntKind.u8.wrap ((p1 : Int) + p2 + p3) = p1 + p2 + p3 := by rw [IntKind.wrap_u8]; omega
    have e3 : IntKind.u8.wrap ((p1 : Int) + p2 + p3 + p4) = p1 + p2 + p3 + p4 := by rw [IntKind.wrap_u8]; omega
    rw [e1, e2, e3, IntWalk.i64_in _ (by omega), HB.out]
    omega⟩
  go_enter Tryd.func23, Tryd.ntmps23
  go_wp2_with fail
  refine wp_region_quiet_lit (by kernel_rfl) (by kernel_rfl) ?_
  quiet_step (fail)
  quiet_step (fail)
  refine Aid.quiet_index_str rfl _ _ _ rfl Tryd.underlying9 _ Dia.popT rfl (by kernel_rfl) _ _ rfl p1 HV1.out (by omega) (by rw [Dia.popT_len]; omega) ?_
  quiet_step (fail)
  quiet_step (fail)
  quiet_step (fail)
  refine Aid.quiet_index_str rfl _ _ _ rfl Tryd.underlying9 _ Dia.popT rfl (by kernel_rfl) _ _ rfl p2 HV2.out L2.out.1 L2.out.2 ?_
  quiet_step (fail)
  quiet_step (fail)
  quiet_step (fail)
  quiet_step (fail)
  refine Aid.quiet_index_str rfl _ _ _ rfl Tryd.underlying9 _ Dia.popT rfl (by kernel_rfl) _ _ rfl p3 HV3.out L3.out.1 L3.out.2 ?_
  quiet_step (fail)
  quiet_step (fail)
  quiet_step (fail)
  refine Aid.quiet_index_str rfl _ _ _ rfl Tryd.underlying9 _ Dia.popT rfl (by kernel_rfl) _ _ rfl p4 HV4.out L4.out.1 L4.out.2 ?_
  quiet_step (fail)
  quiet_step (fail)
  quiet_step (fail)
  refine wpQuiet_nil ?_
  intro _ hw'
  obtain ⟨nq, hw''⟩ := hw'
  subst hw''
  go_wp2
  go_ret
  exact ⟨congrArg (fun n => Ending.returned (.int .i64 n)) HW.out, below_drewN (Below.refl _ _) _⟩
/-- the library's table of places, as its text lays it -/
def Tryd.Tab32 (w : World) : Prop := TabAt 0 Lib.deBruijn32tab w
theorem Tryd.Tab32.below {w w' : World} (hT : Tryd.Tab32 w) (hb : Below w.heap.size w w') : Tryd.Tab32 w' :=
  fun j hj => Aid.cell_ext hb (hT j hj)
set_option maxRecDepth 100000 in
set_option maxHeartbeats 1000000 in
theorem Tryd.c_Trail_core (x k idx : Nat) (w : World) (hx0 : ((x : Int) == 0) = false)
    (key : bits BinOp.and IntKind.u32 (x : Int) (-(x : Int) % 4294967296) * 125613361 % 4294967296 / 134217728 = (idx : Int))
    (hi : idx < 32) (hk : k < 32) (hcell : w.cell? ⟨0, idx, none⟩ = some (.int .u8 k)) :
    Calls Tryd.prog 55 #[.int .u32 x] w fun e w' => e = .returned (.int .i64 k) ∧ w = w' := by
  go_enter Tryd.func55, Tryd.ntmps55
  go_wp2_with (simp only [key])
  go_ret
  exact ⟨rfl, rfl⟩
theorem Tryd.c_Trail (x : Nat) (w : World) (h0 : 0 < x) (hx : x < 4294967296) (hT : Tryd.Tab32 w) :
    Calls Tryd.prog 55 #[.int .u32 x] w fun e w' => e = .returned (.int .i64 (Lib.ctz 32 x)) ∧ w = w' := by
  obtain ⟨hlow, hk⟩ := Lib.lowest_bit 32 x (by omega) hx
  obtain ⟨hi, htab⟩ := Lib.deBruijn32_at _ hk
  have hcell := hT _ hi
  rw [htab] at hcell
  exact Tryd.c_Trail_core x _ _ w (by simp; omega) (tz32_key x _ hx (by omega) hlow) hi hk hcell
theorem Dia.clrK_bd : ∀ (k m : Nat), m < 2 ^ 28 → Dia.clrK m k < 2 ^ 28
  | 0, _, h => h
  | k + 1, _, h => Dia.clrK_bd k _ (Nat.lt_of_le_of_lt Nat.and_le_left h)
set_option maxRecDepth 100000 in
set_option maxHeartbeats 1000000 in
theorem Tryd.c_wnth (m n : Nat) (w : World) (hm : m < 2 ^ 28) (hn : n < Dia.cnt m 28) (hT : Tryd.Tab32 w) :
    Calls Tryd.prog 40 #[.int .u32 m, .int .i64 n] w fun e w' => e = .returned (.int .i64 (Lib.ctz 32 (Dia.clrK m n))) ∧ w = w' := by
  have h28 := Dia.cnt_le m 28
  have HN : Aid.Hid2 (∀ k, k ≤ n → 0 < Dia.clrK m k) := ⟨fun k hk => (Dia.nth_bit k m hm (by omega)).1⟩
  have hn28 : n ≤ 28 := by omega
  clear hn
  go_enter Tryd.func40, Tryd.ntmps40
  go_wp2_with fail
  go_loop [0, 6] (fun v i => ∃ k : Nat, k ≤ n ∧ i = .int .i64 k ∧ v = .int .u32 (Dia.clrK m k)) (fun _ i => n - (intOf i).toNat)
  case atStart => exact ⟨0, Nat.zero_le _, rfl, rfl⟩
  case round =>
    obtain ⟨k, hk, rfl, rfl⟩ := hrel
    have hp := HN.out k hk
    have hb := Dia.clrK_bd k m hm
    by_cases hlt : k < n
    · have HS : Aid.Hid2 (Dia.clrK m (k + 1) = Dia.clr (Dia.clrK m k)) := ⟨Dia.clrK_succ k m⟩
      generalize Dia.clrK m k = x at *
      have e1 : IntKind.u32.wrap ((x : Int) - 1) = ((x - 1 : Nat) : Int) := by rw [wrap_u32']; omega
      have e2 : bits .and .u32 (x : Int) ((x - 1 : Nat) : Int) = ((Dia.clr x : Nat) : Int) := bits_and_u32_nat x (x - 1) (by omega) (by omega)
      go_wp2
      go_round
      case rel => exact ⟨k + 1, by omega, by go_num, by rw [HS.out]⟩
      case measure => simp [intOf]; omega
    · obtain rfl : k = n := by omega
      have hb' : Dia.clrK m k < 4294967296 := by omega
      have HT := Aid.Hid2.mk (Tryd.c_Trail (Dia.clrK m k) w hp hb' hT)
      go_wp2_with fail
      refine HT.out.mono ?_
      rintro e w1 ⟨rfl, rfl⟩
      go_wp2
      go_ret
      exact ⟨rfl, rfl⟩
end Go.Proofs
