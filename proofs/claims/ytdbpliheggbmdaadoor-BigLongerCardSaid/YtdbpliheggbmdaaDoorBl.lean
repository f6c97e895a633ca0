/- the laws of layer 8, walked: BigBytes -/
import Derived.Test.YtdbpliheggbmdaaDoorBk
namespace Go.Proofs
open Go.RowKit

set_option maxRecDepth 100000 in
set_option maxHeartbeats 1000000 in
theorem Tryd.w_BigBytes (a : Option Addr) (l : List Int) (cap : Nat) (w : World) (hT : Tryd.Tabs w) (hrow : Aid.RowAt w a (l.map Dia.rv)) (_hn : a = none → cap = 0) (hmax : l.length ≤ 9223372036854775807) :
    Calls Tryd.prog 4 #[.slice a l.length cap] w fun e w' => e = .returned (.bool true) ∧ Below w.heap.size w w' := by
  by_cases h100 : l.length ≤ 100
  · have HB : Aid.Hid2 (Calls Tryd.prog 11 #[.slice a l.length cap] w fun e w' => e = .returned (.tuple #[.string ⟨(Dia.bbytes l).1.toArray⟩, .int .i64 (Dia.bbytes l).2]) ∧ Below w.heap.size w w') := ⟨Tryd.c_bbytes a l cap w hT hrow (by omega)⟩
    have HC : Aid.Hid2 (∀ w1, Below w.heap.size w w1 → Calls Tryd.prog 12 #[.slice a l.length cap] w1 fun e w' => e = .returned (.tuple #[.int .i64 (Dia.rcode l).1, .int .i64 (Dia.rcode l).2]) ∧ Below w1.heap.size w1 w') := ⟨fun w1 hb => Tryd.c_rcode a l cap w1 (hrow.below hb) (by omega)⟩
    rw [Dia.bbytes_eq] at HB
    have hbd := Dia.rcode_bd l
    clear hmax hrow
    generalize Dia.rcode l = D at *
    generalize l.length = n at *
    obtain ⟨c, k⟩ := D
    simp only [Prod.mk.injEq] at hbd HB HC
    rcases hbd with ⟨rfl, rfl⟩ | ⟨c0, c1, hk⟩
    · rw [if_pos rfl] at HB
      go_enter Tryd.func4, Tryd.ntmps4
      go_wp2_with fail
      refine HB.out.mono ?_
      rintro e w1 ⟨rfl, hb1⟩
      go_wp2_with fail
      refine (HC.out _ hb1).mono ?_
      rintro e w2 ⟨rfl, hb2⟩
      go_wp2_with fail
      refine (Tryd.c_awake08 _ (hT.below (Aid.bt hb1 hb2))).mono ?_
      rintro e w3 ⟨rfl, hb3⟩
      go_wp2
      go_ret
      exact ⟨rfl, Aid.bt (Aid.bt hb1 hb2) hb3⟩
    · have hk0 : (k == 0) = false := by simp; omega
      rw [if_neg (by omega)] at HB
      simp only at HB
      rw [← Dia.two_code c c0 c1] at HB
      have q0 : 0 ≤ c / 256 := by omega
      have q1 : c / 256 < 256 := by omega
      have r0 : 0 ≤ c % 256 := by omega
      have r1 : c % 256 < 256 := by omega
      clear hk
      go_enter Tryd.func4, Tryd.ntmps4
      go_wp2_with fail
      refine HB.out.mono ?_
      rintro e w1 ⟨rfl, hb1⟩
      go_wp2_with fail
      refine (HC.out _ hb1).mono ?_
      rintro e w2 ⟨rfl, hb2⟩
      go_wp2_with fail
      refine (Tryd.c_awake08 _ (hT.below (Aid.bt hb1 hb2))).mono ?_
      rintro e w3 ⟨rfl, hb3⟩
      have hcv : (convert 31 9 (.slice (some ⟨w3.heap.size, 0, none⟩) 2 2)).run Tryd.prog (w3.alloc (.cells #[.int .u8 (c / 256), .int .u8 (c % 256)] 5)) = .ok (.string (strOfNums [c / 256, c % 256])) (w3.alloc (.cells #[.int .u8 (c / 256), .int .u8 (c % 256)] 5)) :=
        Aid.run_conv_ints _ _ _ 5 ⟨w3.heap.size, 0, none⟩ 2 [c / 256, c % 256] Tryd.underlying31 Tryd.underlying5 Tryd.underlying9 (Aid.cells_new _ _ _ _ _ rfl)
      go_wp2
      go_ret
      exact ⟨rfl, Aid.bt (Aid.bt (Aid.bt hb1 hb2) hb3) (Aid.b1 _ _)⟩
  · generalize l.length = n at *
    have hn : ¬ (n : Int) ≤ 100 := by omega
    go_enter Tryd.func4, Tryd.ntmps4
    go_wp2_with fail
    refine (Tryd.c_awake08 _ hT).mono ?_
    rintro e w1 ⟨rfl, hb1⟩
    go_wp2
    go_ret
    exact ⟨rfl, hb1⟩
end Go.Proofs
