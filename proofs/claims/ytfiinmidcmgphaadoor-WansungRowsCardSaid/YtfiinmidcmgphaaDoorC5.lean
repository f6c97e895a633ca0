/- walks of wansung: kth, Place, Extra -/
import Derived.Test.YtfiinmidcmgphaaDoorC4
namespace Go.Proofs
open Go.RowKit

theorem Dia.KthIs.bd {k : Nat} {b : Bool} {p : Int} (h : Dia.KthIs k b p) : 0 ≤ p ∧ p ≤ 55203 := by
  rcases h with ⟨N, n0, _, _, rfl⟩ | ⟨_, rfl⟩
  · omega
  · omega
theorem Dia.compl_and (m : Nat) (h : m < 2 ^ 28) : (4294967295 ^^^ m) &&& 268435455 = Dia.compl m := by
  have e : Dia.compl m = 2 ^ 28 - (m + 1) := by unfold Dia.compl; omega
  apply Nat.eq_of_testBit_eq
  intro i
  rw [e, Nat.testBit_two_pow_sub_succ h, Nat.testBit_and, Nat.testBit_xor]
  rw [show (4294967295 : Nat) = 2 ^ 32 - 1 from rfl, show (268435455 : Nat) = 2 ^ 28 - 1 from rfl, Nat.testBit_two_pow_sub_one, Nat.testBit_two_pow_sub_one]
  by_cases hi : i < 28
  · have h2 : i < 32 := by omega
    simp [hi, h2]
  · simp [hi]
theorem Dia.xor_u32 (m : Nat) (h : m < 4294967296) : bits .xor .u32 IntKind.u32.max (m : Int) = ((4294967295 ^^^ m : Nat) : Int) := by
  have hx : 4294967295 ^^^ m < 2 ^ 32 := Nat.xor_lt_two_pow (by decide) (by omega)
  have h1 : (BitVec.ofInt 32 IntKind.u32.max).toNat = 4294967295 := by decide
  have h2 : (BitVec.ofInt 32 (m : Int)).toNat = m := by
    rw [BitVec.ofInt_natCast, BitVec.toNat_ofNat]; exact Nat.mod_eq_of_lt (by omega)
  show IntKind.u32.wrap ((BitVec.ofInt 32 IntKind.u32.max ^^^ BitVec.ofInt 32 (m : Int)).toNat : Int) = _
  rw [BitVec.toNat_xor, h1, h2, wrap_u32']
  omega
theorem Dia.compl_u32 (m : Nat) (h : m < 2 ^ 28) : bits .and .u32 (bits .xor .u32 IntKind.u32.max (m : Int)) 268435455 = ((Dia.compl m : Nat) : Int) := by
  rw [Dia.xor_u32 m (by omega)]
  have := bits_and_u32_nat (4294967295 ^^^ m) 268435455 (Nat.xor_lt_two_pow (n := 32) (by decide) (by omega)) (by decide)
  rw [Dia.compl_and m h] at this
  exact this
set_option maxRecDepth 100000 in
set_option maxHeartbeats 1000000 in
theorem Tryd.c_kth (k : Nat) (b : Bool) (w : World) (hk : k ≤ 100000) (hT : Tryd.Tab32 w) :
    Calls Tryd.prog 26 #[.int .i64 k, .bool b] w fun e w' => ∃ p : Int, Dia.KthIs k b p ∧ e = .returned (.int .i32 p) ∧ Below w.heap.size w w' := by
  have HM : Aid.Hid2 (∀ (g : Nat) (w1 : World), g < 399 → Calls Tryd.prog 21 #[.int .i64 g] w1 fun e w' => e = .returned (.int .u32 (Dia.maskN g)) ∧ Below w1.heap.size w1 w') := ⟨fun g w1 h => Tryd.c_mask g w1 h⟩
  have HO : Aid.Hid2 (∀ (m : Nat) (w1 : World), m < 2 ^ 28 → Calls Tryd.prog 23 #[.int .u32 m] w1 fun e w' => e = .returned (.int .i64 (Dia.cnt m 28)) ∧ Below w1.heap.size w1 w') := ⟨fun m w1 h => by
    have := Tryd.c_Ones m w1 (by omega)
    rw [Dia.cnt_all _ 28 32 h (by decide)] at this
    exact this⟩
  cases b with
  | false =>
    go_enter Tryd.func26, Tryd.ntmps26
    go_wp2_with fail
    go_loopw [0, 5, 6, 7, 8] (fun vk _ _ _ vg wr => ∃ (g j : Nat), g ≤ 399 ∧ j ≤ k ∧ vg = .int .i64 g ∧ vk = .int .i64 j ∧ Aid.Hid2 (j + Dia.CB false (28 * g) = k) ∧ Below w.heap.size w wr)
      (fun _ _ _ _ vg _ => 399 - (intOf vg).toNat)
    case atStart => exact ⟨0, k, by omega, Nat.le_refl _, rfl, rfl, ⟨rfl⟩, Below.refl _ _⟩
    case round =>
      obtain ⟨g, j, hg, hj, rfl, rfl, HJ, hb⟩ := hrel
      by_cases hlt : g < 399
      · have hml := Dia.maskB_lt false g hlt
        have h28 := Dia.cnt_le (Dia.maskB false g) 28
        have HM1 := Aid.Hid2.mk (HM.out g wr hlt)
        have HO1 : Aid.Hid2 (∀ w1, _) := ⟨fun w1 => HO.out (Dia.maskB false g) w1 hml⟩
        have HCB : Aid.Hid2 (Dia.CB false (28 * (g + 1)) = Dia.CB false (28 * g) + Dia.cnt (Dia.maskB false g) 28) := ⟨Dia.maskB_cnt false g 28 hlt (Nat.le_refl _)⟩
        have HN : Aid.Hid2 (∀ w1, Below w.heap.size w w1 → j < Dia.cnt (Dia.maskB false g) 28 → Calls Tryd.prog 40 #[.int .u32 (Dia.maskB false g), .int .i64 j] w1 fun e w' => e = .returned (.int .i64 (Lib.ctz 32 (Dia.clrK (Dia.maskB false g) j))) ∧ w1 = w') := ⟨fun w1 hb h => Tryd.c_wnth _ j w1 hml h (hT.below hb)⟩
        have HK : Aid.Hid2 (j < Dia.cnt (Dia.maskB false g) 28 → Lib.ctz 32 (Dia.clrK (Dia.maskB false g) j) < 28 ∧ Dia.KthIs k false (44032 + (g : Int) * 28 + (Lib.ctz 32 (Dia.clrK (Dia.maskB false g) j) : Nat))) := ⟨fun h => by
          obtain ⟨_, _, g2, g3, g4⟩ := Dia.nth_bit j _ hml h
          refine ⟨g2, .inl ⟨28 * g + Lib.ctz 32 (Dia.clrK (Dia.maskB false g) j), by omega, Dia.maskB_bit false g _ hlt g2 g3, ?_, by omega⟩⟩
          rw [Dia.maskB_cnt false g _ hlt (by omega), g4]
          have := HJ.out
          omega⟩
        generalize Lib.ctz 32 (Dia.clrK (Dia.maskB false g) j) = z at *
        generalize Dia.cnt (Dia.maskB false g) 28 = c at *
        have e1 := Dia.compl_u32 (Dia.maskN g) (Dia.maskN_lt g hlt)
        have e0 : Dia.compl (Dia.maskN g) = Dia.maskB false g := rfl
        rw [e0] at e1
        clear e0
        generalize Dia.maskB false g = m at *
        generalize Dia.maskN g = m0 at *
        by_cases hjc : j < c
        · obtain ⟨z28, hk2⟩ := HK.out hjc
          have HKK := Aid.Hid2.mk hk2
          have HNN := Aid.Hid2.mk (fun w1 hb => HN.out w1 hb hjc)
          clear hk2 HK HN
          go_wp2_with fail
          refine HM1.out.mono ?_
          rintro e w1 ⟨rfl, hb1⟩
          go_wp2_with fail
          refine (HO1.out _).mono ?_
          rintro e w2 ⟨rfl, hb2⟩
          go_wp2_with fail
          refine (HNN.out _ (Aid.bt (Aid.bt hb hb1) hb2)).mono ?_
          rintro e w3 ⟨rfl, rfl⟩
          go_wp2
          go_ret
          exact ⟨_, HKK.out, by go_num, Aid.bt (Aid.bt hb hb1) hb2⟩
        · have HJ2 : Aid.Hid2 (j - c + Dia.CB false (28 * (g + 1)) = k) := ⟨by rw [HCB.out]; have := HJ.out; omega⟩
          clear HK HN HJ HCB
          go_wp2_with fail
          refine HM1.out.mono ?_
          rintro e w1 ⟨rfl, hb1⟩
          go_wp2_with fail
          refine (HO1.out _).mono ?_
          rintro e w2 ⟨rfl, hb2⟩
          go_wp2
          go_roundw
          case rel => exact ⟨g + 1, j - c, by omega, by omega, by go_num, by go_num, HJ2, Aid.bt (Aid.bt hb hb1) hb2⟩
          case measure => simp [intOf]; omega
      · obtain rfl : g = 399 := by omega
        have HP : Aid.Hid2 (Dia.KthIs k false 0) := ⟨.inr ⟨by have h := HJ.out; rw [show 28 * 399 = 11172 from rfl] at h; omega, rfl⟩⟩
        clear HJ
        go_wp2
        go_ret
        exact ⟨0, HP.out, rfl, hb⟩
  | true =>
    go_enter Tryd.func26, Tryd.ntmps26
    go_wp2_with fail
    go_loopw [0, 5, 6, 7, 8] (fun vk _ _ _ vg wr => ∃ (g j : Nat), g ≤ 399 ∧ j ≤ k ∧ vg = .int .i64 g ∧ vk = .int .i64 j ∧ Aid.Hid2 (j + Dia.CB true (28 * g) = k) ∧ Below w.heap.size w wr)
      (fun _ _ _ _ vg _ => 399 - (intOf vg).toNat)
    case atStart => exact ⟨0, k, by omega, Nat.le_refl _, rfl, rfl, ⟨rfl⟩, Below.refl _ _⟩
    case round =>
      obtain ⟨g, j, hg, hj, rfl, rfl, HJ, hb⟩ := hrel
      by_cases hlt : g < 399
      · have hml := Dia.maskB_lt true g hlt
        have h28 := Dia.cnt_le (Dia.maskB true g) 28
        have HM1 := Aid.Hid2.mk (HM.out g wr hlt)
        have HO1 : Aid.Hid2 (∀ w1, _) := ⟨fun w1 => HO.out (Dia.maskB true g) w1 hml⟩
        have HCB : Aid.Hid2 (Dia.CB true (28 * (g + 1)) = Dia.CB true (28 * g) + Dia.cnt (Dia.maskB true g) 28) := ⟨Dia.maskB_cnt true g 28 hlt (Nat.le_refl _)⟩
        have HN : Aid.Hid2 (∀ w1, Below w.heap.size w w1 → j < Dia.cnt (Dia.maskB true g) 28 → Calls Tryd.prog 40 #[.int .u32 (Dia.maskB true g), .int .i64 j] w1 fun e w' => e = .returned (.int .i64 (Lib.ctz 32 (Dia.clrK (Dia.maskB true g) j))) ∧ w1 = w') := ⟨fun w1 hb h => Tryd.c_wnth _ j w1 hml h (hT.below hb)⟩
        have HK : Aid.Hid2 (j < Dia.cnt (Dia.maskB true g) 28 → Lib.ctz 32 (Dia.clrK (Dia.maskB true g) j) < 28 ∧ Dia.KthIs k true (44032 + (g : Int) * 28 + (Lib.ctz 32 (Dia.clrK (Dia.maskB true g) j) : Nat))) := ⟨fun h => by
          obtain ⟨_, _, g2, g3, g4⟩ := Dia.nth_bit j _ hml h
          refine ⟨g2, .inl ⟨28 * g + Lib.ctz 32 (Dia.clrK (Dia.maskB true g) j), by omega, Dia.maskB_bit true g _ hlt g2 g3, ?_, by omega⟩⟩
          rw [Dia.maskB_cnt true g _ hlt (by omega), g4]
          have := HJ.out
          omega⟩
        generalize Lib.ctz 32 (Dia.clrK (Dia.maskB true g) j) = z at *
        generalize Dia.cnt (Dia.maskB true g) 28 = c at *
        rw [show Dia.maskN g = Dia.maskB true g from rfl] at HM1
        generalize Dia.maskB true g = m at *
        by_cases hjc : j < c
        · obtain ⟨z28, hk2⟩ := HK.out hjc
          have HKK := Aid.Hid2.mk hk2
          have HNN := Aid.Hid2.mk (fun w1 hb => HN.out w1 hb hjc)
          clear hk2 HK HN
          go_wp2_with fail
          refine HM1.out.mono ?_
          rintro e w1 ⟨rfl, hb1⟩
          go_wp2_with fail
          refine (HO1.out _).mono ?_
          rintro e w2 ⟨rfl, hb2⟩
          go_wp2_with fail
          refine (HNN.out _ (Aid.bt (Aid.bt hb hb1) hb2)).mono ?_
          rintro e w3 ⟨rfl, rfl⟩
          go_wp2
          go_ret
          exact ⟨_, HKK.out, by go_num, Aid.bt (Aid.bt hb hb1) hb2⟩
        · have HJ2 : Aid.Hid2 (j - c + Dia.CB true (28 * (g + 1)) = k) := ⟨by rw [HCB.out]; have := HJ.out; omega⟩
          clear HK HN HJ HCB
          go_wp2_with fail
          refine HM1.out.mono ?_
          rintro e w1 ⟨rfl, hb1⟩
          go_wp2_with fail
          refine (HO1.out _).mono ?_
          rintro e w2 ⟨rfl, hb2⟩
          go_wp2
          go_roundw
          case rel => exact ⟨g + 1, j - c, by omega, by omega, by go_num, by go_num, HJ2, Aid.bt (Aid.bt hb hb1) hb2⟩
          case measure => simp [intOf]; omega
      · obtain rfl : g = 399 := by omega
        have HP : Aid.Hid2 (Dia.KthIs k true 0) := ⟨.inr ⟨by have h := HJ.out; rw [show 28 * 399 = 11172 from rfl] at h; omega, rfl⟩⟩
        clear HJ
        go_wp2
        go_ret
        exact ⟨0, HP.out, rfl, hb⟩
end Go.Proofs
