/- walks of big5: Bytes (printed by gbytes.py) -/
import Derived.Test.YtoaojojapebamaaGreatDoorM27
import Derived.Deep.RegionHeld3
namespace Go.Proofs
open Go.RowKit

theorem Dia.bigL_bd : ∀ q ∈ Dia.bigL, 0 ≤ q.1 ∧ q.1 < 5809 := by decide +kernel
theorem Dia.revl_bd {l : List (Int × Int)} {N : Int} (h : ∀ q ∈ l, 0 ≤ q.1 ∧ q.1 < N) (p : Int) (hp : (Dia.revl l p).2 = true) : 0 ≤ (Dia.revl l p).1 ∧ (Dia.revl l p).1 < N := by
  unfold Dia.revl at *
  split
  · rename_i q e
    exact h q (List.mem_of_find?_eq_some e)
  · rename_i e
    rw [e] at hp
    exact absurd hp (by simp)
theorem Dia.bcode_bd (k : Int) (h0 : 0 ≤ k) (h1 : k < 5809) : 0 ≤ Dia.bcode k ∧ Dia.bcode k < 65536 := by
  have d0 : 0 ≤ k / 157 := Int.ediv_nonneg h0 (by decide)
  have d1 : k / 157 ≤ 36 := by omega
  have m0 : 0 ≤ k % 157 := Int.emod_nonneg _ (by decide)
  have m1 : k % 157 < 157 := Int.emod_lt_of_pos _ (by decide)
  unfold Dia.bcode
  split <;> omega
/-- what the walk of one sign needs -/
structure Tryz.BR (p : Int) (k : Int) (ok : Bool) (D : List UInt8 × Int) (w : World) : Prop where
  rev : ∀ w1 a cap ls, Dia.T w1 a cap ls Dia.bigL → Calls Tryz.prog 45 #[.agg #[.slice a ls.length cap], .int .i32 p] w1 fun e w' => e = .returned (.tuple #[.int .i64 k, .bool ok]) ∧ Below w1.heap.size w1 w'
  code : ok = true → ∀ w1, Calls Tryz.prog 62 #[.int .i64 k] w1 fun e w' => e = .returned (.int .i64 (Dia.bcode k)) ∧ w1 = w'
  two : ok = true → ∀ w1, Calls Tryz.prog 85 #[.int .i64 (Dia.bcode k)] w1 fun e w' => e = .returned (.string ⟨D.1.toArray⟩) ∧ Below w1.heap.size w1 w'
  d1 : ok = true → D.2 = 1
  d0 : ok = false → D = ([], 0)
theorem Tryz.br (p : Int) (w : World) : Tryz.BR p (Dia.revl Dia.bigL p).1 (Dia.revl Dia.bigL p).2 (Dia.bone p) w where
  rev w1 a cap ls ht := Tryz.t_Reverse' p w1 ht
  code h w1 := by
    have := Dia.revl_bd Dia.bigL_bd p h
    exact Tryz.c_bcode _ w1 ⟨by omega, by omega⟩
  two h w1 := by
    have h1 := Dia.revl_bd Dia.bigL_bd p h
    have h2 := Dia.bcode_bd _ h1.1 h1.2
    have h3 := Tryz.c_btwo (Dia.bcode (Dia.revl Dia.bigL p).1).toNat w1 (by omega)
    rw [Int.toNat_of_nonneg h2.1] at h3
    unfold Dia.bone
    rw [if_pos h]
    exact h3
  d1 h := by unfold Dia.bone; rw [if_pos h]
  d0 h := by unfold Dia.bone; rw [if_neg (by rw [h]; decide)]

set_option maxRecDepth 100000 in
set_option maxHeartbeats 2000000 in
theorem Tryz.c_bbytes_1 (b off : Nat) (p : Int) (cap : Nat) (w : World) (hT : Tryz.Tabs w) (hc : w.cell? ⟨b, off, none⟩ = some (.int .i32 p)) :
    Calls Tryz.prog 38 #[.slice (some ⟨b, off, none⟩) 1 cap] w fun e w' => e = .returned (.tuple #[.string ⟨(Dia.bbytes [p]).1.toArray⟩, .int .i64 (Dia.bbytes [p]).2]) ∧ Below w.heap.size w w' := by
  generalize hD : Dia.bbytes [p] = D
  have HD : Aid.Hid2 (D = Dia.bone p) := ⟨hD.symm⟩
  clear hD
  have HBR := Tryz.br p w
  rw [← HD.out] at HBR
  generalize (Dia.revl Dia.bigL p).1 = k at *
  generalize (Dia.revl Dia.bigL p).2 = ok at *
  have HC : Aid.Hid2 (∀ w', Below w.heap.size w w' → w'.cell? ⟨b, off, none⟩ = some (.int .i32 p)) := ⟨fun w' h => Aid.cell_ext h hc⟩
  have HT : Aid.Hid2 (∀ w', Below w.heap.size w w' → Tryz.Tabs w') := ⟨fun w' h => hT.below h⟩
  have hB0 := Below.refl w.heap.size w
  clear hc
  go_enter Tryz.func38, Tryz.ntmps38
  have HT1 := HT.out _ hB0
  have hcp := HC.out _ hB0
  cases ok with
  | false =>
    have HD0 : Aid.Hid2 (D = ([], 0)) := ⟨HBR.d0 rfl⟩
    go_wp2_with fail
    go_region_with (first
      | (go_at_call 61; refine (Tryz.c_btable _ (HT.out _ (by first | exact hB0 | exact (hB0).drew))).mono ?_; rintro e w3 ⟨ls, hl1, x, cp, rfl, ht, hb3⟩; have hcq := Aid.cell_ext hb3 hcp)
      | (go_at_call 45; refine (HBR.rev _ _ _ _ ht).mono ?_; rintro e w4 ⟨rfl, hb4⟩))
    all_goals
      go_wp2
      go_ret2
      rw [HD0.out]
      exact ⟨rfl, by first | exact Aid.bt (Aid.bt hB0 hb3) hb4 | exact Aid.bt (Aid.bt (hB0).drew hb3) hb4⟩
  | true =>
    have HD1 : Aid.Hid2 (D.2 = 1) := ⟨HBR.d1 rfl⟩
    have HCD := Aid.Hid2.mk (HBR.code rfl)
    have HTW := Aid.Hid2.mk (HBR.two rfl)
    go_wp2_with fail
    go_region_with (first
      | (go_at_call 61; refine (Tryz.c_btable _ (HT.out _ (by first | exact hB0 | exact (hB0).drew))).mono ?_; rintro e w3 ⟨ls, hl1, x, cp, rfl, ht, hb3⟩; have hcq := Aid.cell_ext hb3 hcp)
      | (go_at_call 45; refine (HBR.rev _ _ _ _ ht).mono ?_; rintro e w4 ⟨rfl, hb4⟩))
    all_goals
      go_wp2_with fail
      refine (HCD.out _).mono ?_
      rintro e w5 ⟨rfl, rfl⟩
      go_wp2_with fail
      refine (HTW.out _).mono ?_
      rintro e w6 ⟨rfl, hb6⟩
      go_wp2
      go_ret2
      rw [HD1.out]
      exact ⟨rfl, by first | exact Aid.bt (Aid.bt (Aid.bt hB0 hb3) hb4) hb6 | exact Aid.bt (Aid.bt (Aid.bt (hB0).drew hb3) hb4) hb6⟩

/-- which of the four pairs of signs two signs aren't -/
def Dia.qpre (k p q : Int) : Prop := (0 < k → ¬ (p = 202 ∧ q = 772)) ∧ (1 < k → ¬ (p = 202 ∧ q = 780)) ∧ (2 < k → ¬ (p = 234 ∧ q = 772)) ∧ (3 < k → ¬ (p = 234 ∧ q = 780))
theorem Dia.qpre_0 (p q : Int) : Dia.qpre 0 p q := ⟨fun h => by omega, fun h => by omega, fun h => by omega, fun h => by omega⟩
theorem Dia.qpre_1 {p q : Int} (_h : Dia.qpre 0 p q) (hc : ¬ (p = 202 ∧ q = 772)) : Dia.qpre 1 p q := ⟨fun _ => hc, fun h => by omega, fun h => by omega, fun h => by omega⟩
theorem Dia.qpre_2 {p q : Int} (h : Dia.qpre 1 p q) (hc : ¬ (p = 202 ∧ q = 780)) : Dia.qpre 2 p q := ⟨fun _ => h.1 (by omega), fun _ => hc, fun h => by omega, fun h => by omega⟩
theorem Dia.qpre_3 {p q : Int} (h : Dia.qpre 2 p q) (hc : ¬ (p = 234 ∧ q = 772)) : Dia.qpre 3 p q := ⟨fun _ => h.1 (by omega), fun _ => h.2.1 (by omega), fun _ => hc, fun h => by omega⟩
theorem Dia.qpre_4 {p q : Int} (h : Dia.qpre 3 p q) (hc : ¬ (p = 234 ∧ q = 780)) : Dia.qpre 4 p q := ⟨fun _ => h.1 (by omega), fun _ => h.2.1 (by omega), fun _ => h.2.2.1 (by omega), fun _ => hc⟩
theorem Dia.qpre_two {p q : Int} (h : Dia.qpre 4 p q) : Dia.btwoC p q = 0 := by
  obtain ⟨h0, h1, h2, h3⟩ := h
  unfold Dia.btwoC
  rw [if_neg (h0 (by omega)), if_neg (h1 (by omega)), if_neg (h2 (by omega)), if_neg (h3 (by omega))]

set_option maxRecDepth 100000 in
set_option maxHeartbeats 4000000 in
theorem Tryz.c_bbytes_2 (b off : Nat) (p q : Int) (r : List Int) (cap : Nat) (w : World) (hT : Tryz.Tabs w) (hc : w.cell? ⟨b, off, none⟩ = some (.int .i32 p)) (hc1 : w.cell? ⟨b, off + 1, none⟩ = some (.int .i32 q)) (hl : (p :: q :: r).length ≤ 1000000) :
    Calls Tryz.prog 38 #[.slice (some ⟨b, off, none⟩) (p :: q :: r).length cap] w fun e w' => e = .returned (.tuple #[.string ⟨(Dia.bbytes (p :: q :: r)).1.toArray⟩, .int .i64 (Dia.bbytes (p :: q :: r)).2]) ∧ Below w.heap.size w w' := by
  have h2 : 2 ≤ (p :: q :: r).length := by simp
  have HD1 : Aid.Hid2 (Dia.btwoC p q = 0 → Dia.bbytes (p :: q :: r) = Dia.bone p) := ⟨fun h => by rw [Dia.bbytes_two, if_neg (by rw [h]; simp)]⟩
  have HD2 : Aid.Hid2 (∀ c, Dia.btwoC p q = c → c ≠ 0 → Dia.bbytes (p :: q :: r) = (Dia.bigB c.toNat 2, 2)) := ⟨fun c h hc => by rw [Dia.bbytes_two, h, if_pos hc]⟩
  have HBR := Tryz.br p w
  generalize Dia.bbytes (p :: q :: r) = D at *
  generalize (p :: q :: r).length = n at *
  generalize Dia.bone p = D1 at *
  generalize (Dia.revl Dia.bigL p).1 = k1 at *
  generalize (Dia.revl Dia.bigL p).2 = ok at *
  have HC : Aid.Hid2 (∀ w', Below w.heap.size w w' → w'.cell? ⟨b, off, none⟩ = some (.int .i32 p)) := ⟨fun w' h => Aid.cell_ext h hc⟩
  have HC1 : Aid.Hid2 (∀ w', Below w.heap.size w w' → w'.cell? ⟨b, off + 1, none⟩ = some (.int .i32 q)) := ⟨fun w' h => Aid.cell_ext h hc1⟩
  have HT : Aid.Hid2 (∀ w', Below w.heap.size w w' → Tryz.Tabs w') := ⟨fun w' h => hT.below h⟩
  have HW : Aid.Hid2 (∀ (c : Nat) (w1 : World), c < 65536 → Calls Tryz.prog 85 #[.int .i64 c] w1 fun e w' => e = .returned (.string ⟨(Dia.bigB c 2).toArray⟩) ∧ Below w1.heap.size w1 w') := ⟨fun c w1 h => Tryz.c_btwo c w1 h⟩
  have hB0 := Below.refl w.heap.size w
  have d1 : ((n : Int) == 0) = false := by simp; omega
  have d2 : decide (1 < (n : Int)) = true := decide_eq_true (by omega)
  have n0 : 0 < n := by omega
  have n1 : 1 < n := by omega
  have i0 : ∀ w, (Instr.index 112 (.agg #[.int .i64 34914, .int .i32 202, .int .i32 772, .int .i64 34916, .int .i32 202, .int .i32 780, .int .i64 34979, .int .i32 234, .int .i32 772, .int .i64 34981, .int .i32 234, .int .i32 780]) (.int .i64 0)).run Tryz.prog w = .ok (.agg #[.int .i64 34914, .int .i32 202, .int .i32 772]) w := fun _ => by kernel_rfl
  have i1 : ∀ w, (Instr.index 112 (.agg #[.int .i64 34914, .int .i32 202, .int .i32 772, .int .i64 34916, .int .i32 202, .int .i32 780, .int .i64 34979, .int .i32 234, .int .i32 772, .int .i64 34981, .int .i32 234, .int .i32 780]) (.int .i64 1)).run Tryz.prog w = .ok (.agg #[.int .i64 34916, .int .i32 202, .int .i32 780]) w := fun _ => by kernel_rfl
  have i2 : ∀ w, (Instr.index 112 (.agg #[.int .i64 34914, .int .i32 202, .int .i32 772, .int .i64 34916, .int .i32 202, .int .i32 780, .int .i64 34979, .int .i32 234, .int .i32 772, .int .i64 34981, .int .i32 234, .int .i32 780]) (.int .i64 2)).run Tryz.prog w = .ok (.agg #[.int .i64 34979, .int .i32 234, .int .i32 772]) w := fun _ => by kernel_rfl
  have i3 : ∀ w, (Instr.index 112 (.agg #[.int .i64 34914, .int .i32 202, .int .i32 772, .int .i64 34916, .int .i32 202, .int .i32 780, .int .i64 34979, .int .i32 234, .int .i32 772, .int .i64 34981, .int .i32 234, .int .i32 780]) (.int .i64 3)).run Tryz.prog w = .ok (.agg #[.int .i64 34981, .int .i32 234, .int .i32 780]) w := fun _ => by kernel_rfl
  clear hc hc1
  go_enter Tryz.func38, Tryz.ntmps38
  go_wp2_with fail
  refine (Tryz.c_bpairs _).mono ?_
  rintro e w1 ⟨rfl, hb1⟩
  go_wp2_with fail
  go_loopw [5, 15] (fun _ i wr => ∃ k : Int, 0 ≤ k ∧ k ≤ 4 ∧ i = .int .i64 k ∧ Aid.Hid2 (Dia.qpre k p q) ∧ Below w.heap.size w wr)
    (fun _ i _ => 4 - (intOf i).toNat)
  case atStart => exact ⟨0, by omega, by omega, rfl, ⟨Dia.qpre_0 _ _⟩, hb1⟩
  case round =>
    obtain ⟨k, hk0, hk4, rfl, HP, hb⟩ := hrel
    have hcp := HC.out _ hb
    have hcq := HC1.out _ hb
    have hbl : b < wr.heap.size := World.block_lt_of_cell? wr _ hcp
    have h5 : k = 0 ∨ k = 1 ∨ k = 2 ∨ k = 3 ∨ k = 4 := by omega
    rcases h5 with rfl | rfl | rfl | rfl | rfl
    · by_cases hx : p = 202
      · have hx' : ((202 : Int) == p) = true := by simp [hx]
        by_cases hy : q = 772
        · have hy' : ((772 : Int) == q) = true := by simp [hy]
          have H3 := Aid.Hid2.mk (HD2.out 34914 (by rw [hx, hy]; rfl) (by decide))
          have H4 := Aid.Hid2.mk (HW.out 34914)
          clear hx hy HD1 HD2 HP
          go_wp2_with fail
          go_quiet (fail)
          go_wp2_with fail
          refine (H4.out _ (by decide)).mono ?_
          rintro e w2 ⟨rfl, hb2⟩
          go_wp2
          go_ret2
          rw [H3.out]
          exact ⟨rfl, Aid.bt (below_drewN (hb.alloc hb.size _) _) hb2⟩
        · have hy' : ((772 : Int) == q) = false := by simp; omega
          have H2 := Aid.Hid2.mk (Dia.qpre_1 HP.out (fun h => hy h.2))
          clear hx hy HP
          go_wp2_with fail
          go_quiet (fail)
          go_wp2
          go_roundw
          case rel => exact ⟨1, by omega, by omega, rfl, H2, below_drewN (hb.alloc hb.size _) _⟩
          case measure => simp [intOf]
      · have hx' : ((202 : Int) == p) = false := by simp; omega
        have H2 := Aid.Hid2.mk (Dia.qpre_1 HP.out (fun h => hx h.1))
        clear hx HP
        go_wp2_with fail
        go_quiet (fail)
        go_wp2
        go_roundw
        case rel => exact ⟨1, by omega, by omega, rfl, H2, below_drewN (hb.alloc hb.size _) _⟩
        case measure => simp [intOf]
    · by_cases hx : p = 202
      · have hx' : ((202 : Int) == p) = true := by simp [hx]
        by_cases hy : q = 780
        · have hy' : ((780 : Int) == q) = true := by simp [hy]
          have H3 := Aid.Hid2.mk (HD2.out 34916 (by rw [hx, hy]; rfl) (by decide))
          have H4 := Aid.Hid2.mk (HW.out 34916)
          clear hx hy HD1 HD2 HP
          go_wp2_with fail
          go_quiet (fail)
          go_wp2_with fail
          refine (H4.out _ (by decide)).mono ?_
          rintro e w2 ⟨rfl, hb2⟩
          go_wp2
          go_ret2
          rw [H3.out]
          exact ⟨rfl, Aid.bt (below_drewN (hb.alloc hb.size _) _) hb2⟩
        · have hy' : ((780 : Int) == q) = false := by simp; omega
          have H2 := Aid.Hid2.mk (Dia.qpre_2 HP.out (fun h => hy h.2))
          clear hx hy HP
          go_wp2_with fail
          go_quiet (fail)
          go_wp2
          go_roundw
          case rel => exact ⟨2, by omega, by omega, rfl, H2, below_drewN (hb.alloc hb.size _) _⟩
          case measure => simp [intOf]
      · have hx' : ((202 : Int) == p) = false := by simp; omega
        have H2 := Aid.Hid2.mk (Dia.qpre_2 HP.out (fun h => hx h.1))
        clear hx HP
        go_wp2_with fail
        go_quiet (fail)
        go_wp2
        go_roundw
        case rel => exact ⟨2, by omega, by omega, rfl, H2, below_drewN (hb.alloc hb.size _) _⟩
        case measure => simp [intOf]
    · by_cases hx : p = 234
      · have hx' : ((234 : Int) == p) = true := by simp [hx]
        by_cases hy : q = 772
        · have hy' : ((772 : Int) == q) = true := by simp [hy]
          have H3 := Aid.Hid2.mk (HD2.out 34979 (by rw [hx, hy]; rfl) (by decide))
          have H4 := Aid.Hid2.mk (HW.out 34979)
          clear hx hy HD1 HD2 HP
          go_wp2_with fail
          go_quiet (fail)
          go_wp2_with fail
          refine (H4.out _ (by decide)).mono ?_
          rintro e w2 ⟨rfl, hb2⟩
          go_wp2
          go_ret2
          rw [H3.out]
          exact ⟨rfl, Aid.bt (below_drewN (hb.alloc hb.size _) _) hb2⟩
        · have hy' : ((772 : Int) == q) = false := by simp; omega
          have H2 := Aid.Hid2.mk (Dia.qpre_3 HP.out (fun h => hy h.2))
          clear hx hy HP
          go_wp2_with fail
          go_quiet (fail)
          go_wp2
          go_roundw
          case rel => exact ⟨3, by omega, by omega, rfl, H2, below_drewN (hb.alloc hb.size _) _⟩
          case measure => simp [intOf]
      · have hx' : ((234 : Int) == p) = false := by simp; omega
        have H2 := Aid.Hid2.mk (Dia.qpre_3 HP.out (fun h => hx h.1))
        clear hx HP
        go_wp2_with fail
        go_quiet (fail)
        go_wp2
        go_roundw
        case rel => exact ⟨3, by omega, by omega, rfl, H2, below_drewN (hb.alloc hb.size _) _⟩
        case measure => simp [intOf]
    · by_cases hx : p = 234
      · have hx' : ((234 : Int) == p) = true := by simp [hx]
        by_cases hy : q = 780
        · have hy' : ((780 : Int) == q) = true := by simp [hy]
          have H3 := Aid.Hid2.mk (HD2.out 34981 (by rw [hx, hy]; rfl) (by decide))
          have H4 := Aid.Hid2.mk (HW.out 34981)
          clear hx hy HD1 HD2 HP
          go_wp2_with fail
          go_quiet (fail)
          go_wp2_with fail
          refine (H4.out _ (by decide)).mono ?_
          rintro e w2 ⟨rfl, hb2⟩
          go_wp2
          go_ret2
          rw [H3.out]
          exact ⟨rfl, Aid.bt (below_drewN (hb.alloc hb.size _) _) hb2⟩
        · have hy' : ((780 : Int) == q) = false := by simp; omega
          have H2 := Aid.Hid2.mk (Dia.qpre_4 HP.out (fun h => hy h.2))
          clear hx hy HP
          go_wp2_with fail
          go_quiet (fail)
          go_wp2
          go_roundw
          case rel => exact ⟨4, by omega, by omega, rfl, H2, below_drewN (hb.alloc hb.size _) _⟩
          case measure => simp [intOf]
      · have hx' : ((234 : Int) == p) = false := by simp; omega
        have H2 := Aid.Hid2.mk (Dia.qpre_4 HP.out (fun h => hx h.1))
        clear hx HP
        go_wp2_with fail
        go_quiet (fail)
        go_wp2
        go_roundw
        case rel => exact ⟨4, by omega, by omega, rfl, H2, below_drewN (hb.alloc hb.size _) _⟩
        case measure => simp [intOf]
    · have HD : Aid.Hid2 (D = D1) := ⟨HD1.out (Dia.qpre_two HP.out)⟩
      have HDD := HD.out
      subst HDD
      clear HD HP HD1 HD2 hcq
      have HT1 := HT.out _ hb
      have hcp := HC.out _ hb
      cases ok with
      | false =>
        have HD0 : Aid.Hid2 (D = ([], 0)) := ⟨HBR.d0 rfl⟩
        go_wp2_with fail
        go_region_with (first
          | (go_at_call 61; refine (Tryz.c_btable _ (HT.out _ (by first | exact hb | exact (hb).drew))).mono ?_; rintro e w3 ⟨ls, hl1, x, cp, rfl, ht, hb3⟩; have hcq := Aid.cell_ext hb3 hcp)
          | (go_at_call 45; refine (HBR.rev _ _ _ _ ht).mono ?_; rintro e w4 ⟨rfl, hb4⟩))
        all_goals
          go_wp2
          go_ret2
          rw [HD0.out]
          exact ⟨rfl, by first | exact Aid.bt (Aid.bt hb hb3) hb4 | exact Aid.bt (Aid.bt (hb).drew hb3) hb4⟩
      | true =>
        have HD1 : Aid.Hid2 (D.2 = 1) := ⟨HBR.d1 rfl⟩
        have HCD := Aid.Hid2.mk (HBR.code rfl)
        have HTW := Aid.Hid2.mk (HBR.two rfl)
        go_wp2_with fail
        go_region_with (first
          | (go_at_call 61; refine (Tryz.c_btable _ (HT.out _ (by first | exact hb | exact (hb).drew))).mono ?_; rintro e w3 ⟨ls, hl1, x, cp, rfl, ht, hb3⟩; have hcq := Aid.cell_ext hb3 hcp)
          | (go_at_call 45; refine (HBR.rev _ _ _ _ ht).mono ?_; rintro e w4 ⟨rfl, hb4⟩))
        all_goals
          go_wp2_with fail
          refine (HCD.out _).mono ?_
          rintro e w5 ⟨rfl, rfl⟩
          go_wp2_with fail
          refine (HTW.out _).mono ?_
          rintro e w6 ⟨rfl, hb6⟩
          go_wp2
          go_ret2
          rw [HD1.out]
          exact ⟨rfl, by first | exact Aid.bt (Aid.bt (Aid.bt hb hb3) hb4) hb6 | exact Aid.bt (Aid.bt (Aid.bt (hb).drew hb3) hb4) hb6⟩

theorem Tryz.c_bbytes (a : Option Addr) (l : List Int) (cap : Nat) (w : World) (hT : Tryz.Tabs w) (hrow : Aid.RowAt w a (l.map Dia.rv)) (hl : l.length ≤ 1000000) :
    Calls Tryz.prog 38 #[.slice a l.length cap] w fun e w' => e = .returned (.tuple #[.string ⟨(Dia.bbytes l).1.toArray⟩, .int .i64 (Dia.bbytes l).2]) ∧ Below w.heap.size w w' := by
  match l, hrow, hl with
  | [], _, _ =>
    go_enter Tryz.func38, Tryz.ntmps38
    go_wp2
    go_ret2
    exact ⟨rfl, Below.refl _ _⟩
  | [p], hrow, _ =>
    rcases hrow with h | ⟨b, off, rfl, h⟩
    · cases h
    · exact Tryz.c_bbytes_1 b off p cap w hT (h 0 _ rfl)
  | p :: q :: r, hrow, hl =>
    rcases hrow with h | ⟨b, off, rfl, h⟩
    · cases h
    · exact Tryz.c_bbytes_2 b off p q r cap w hT (h 0 _ rfl) (h 1 _ rfl) hl
end Go.Proofs
