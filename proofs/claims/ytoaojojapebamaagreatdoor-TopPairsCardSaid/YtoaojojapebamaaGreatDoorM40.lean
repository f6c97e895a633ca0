/- walks of wansung: Rows -/
import Derived.Test.YtoaojojapebamaaGreatDoorM29
import Derived.Test.YtoaojojapebamaaGreatDoorM35
namespace Go.Proofs
open Go.RowKit Go.Sort

namespace Dia
def wcd (q : Int × Int) : Int × Int := ((161 + q.1 / 94) * 256 + 161 + q.1 % 94, q.2)
theorem wanL_bd : ∀ q ∈ wanL, 0 ≤ q.1 ∧ q.1 < 1128 := by decide +kernel
set_option maxRecDepth 100000 in
theorem wanC_rise : Rise (wanL.map wcd) := rise_of_b (by decide +kernel)
end Dia
set_option maxRecDepth 100000 in
theorem Tryz.c_cmpPair7 (x y : Int × Int) (W : World) : Calls Tryz.prog 59 #[.agg #[.int .i64 x.1, .int .i32 x.2], .agg #[.int .i64 y.1, .int .i32 y.2]] W fun e w' => e = .returned (.int .i64 (Dia.pcf x y)) ∧ ∃ q os', w' = grow (W.drewN q) os' := by
  have hcon := fun W' => Tryz.cmp_Compare_int x.1 y.1 W'
  unfold Dia.pcf
  generalize Lib.compareInt x.1 y.1 = r at hcon ⊢
  go_enter Tryz.func59, Tryz.ntmps59
  go_wp2_with (go_at_call 60; refine (hcon _).mono ?_; rintro e w' ⟨rfl, rfl⟩)
  go_ret
  exact ⟨rfl, 0, _, by rw [alloc_eq_grow, alloc_eq_grow, grow_grow]; rfl⟩
set_option maxHeartbeats 1000000 in
theorem Tryz.c_sort7 (g cap B : Nat) (l : List (Int × Int)) (w : World) (hl : l.length ≤ 10000000) (hown : w.ownsRow B 34 2 (.slice (some ⟨g, 0, none⟩) l.length cap) l.length (l.flatMap Dia.pcells)) :
    Calls Tryz.prog 58 #[.slice (some ⟨g, 0, none⟩) l.length cap, .func (.func 59) #[] #[]] w fun e w' => ∃ l' : List (Int × Int), e = .returned (.tuple #[]) ∧ l'.Perm l ∧ l'.Pairwise (fun a b => a.1 ≤ b.1) ∧
      w'.ownsRow B 34 2 (.slice (some ⟨g, 0, none⟩) l.length cap) l.length (l'.flatMap Dia.pcells) ∧ w.grownBy w' (some g) := by
  rcases hown.2 with ⟨h0, _⟩ | ⟨g', cap', cur, hv, hg, hh, hn, hcap, hsz, htake⟩
  · cases h0
  · cases hv
    have eg : ∀ args w, (callFunc 59 args).run Tryz.prog w = .ok (.enter 59 args) w := enters_of Tryz.func59 (by kernel_rfl) rfl
    have hH := Aid.holdsK_own Dia.pcells 2 Dia.pcells_len (by decide) hh htake
    have hgs : g < w.heap.size := (Array.getElem?_eq_some_iff.1 hh).1
    have hcon := AnyQ.slices_SortFunc Tryz.sortPair 2 Tryz.isAgg34 Tryz.sizeOf34 Dia.pcells Dia.pcells_len (fun x v hv => by simp [Dia.pcells] at hv; rcases hv with rfl | rfl <;> rfl) Dia.pcf Dia.swo_pcf 59 #[] g 0 cap l.toArray w eg
      (fun _ _ _ _ x y => Tryz.c_cmpPair7 x y _) hH hgs (by unfold maxLen at hcap; simp; omega)
    change Calls Tryz.prog 58 _ _ _ at hcon
    simp only [List.size_toArray] at hcon
    refine hcon.mono fun e w' ⟨he, d', n, os, hp, hs, hw⟩ => ?_
    obtain ⟨hsz', hperm⟩ := Aid.perm_of (d := l.toArray) (d' := d') (by simpa using hp)
    have hl' : d'.toList.length = l.length := by simpa using hsz'
    refine ⟨d'.toList, he, by simpa using hperm, Dia.sorted_pcf (by simpa using hsz'.symm) hs, ?_, by rw [hw]; exact Aid.grownBy_sortedK _ _ _⟩
    rw [hw]
    have := Aid.ownsRow_sortedK (n := n) (os := os) Dia.pcells 2 Dia.pcells_len (by decide) hl' hg hh hn hcap hsz
    simpa using this
set_option maxRecDepth 100000 in
set_option maxHeartbeats 4000000 in
theorem Tryz.c_wRows (w : World) (hT : Tryz.Tabs w) :
    Calls Tryz.prog 25 #[] w fun e w' => Tryz.IsPS (Dia.wanL.map Dia.wcd) w w' e := by
  obtain ⟨i0, hi, hz0, hz1, hz2⟩ := info_parts (show (Tryz.prog.info? 34).map (fun i => (i.zero, i.size, i.bytes)) = some (some (.agg #[.int .i64 0, .int .i32 0]), 2, 16) by kernel_rfl)
  have HTB := Aid.Hid2.mk (Tryz.c_wtable w hT)
  have HBD := Aid.Hid2.mk Dia.wanL_bd
  have HRI := Aid.Hid2.mk Dia.wanC_rise
  have hlen : Dia.wanL.length ≤ 1000 := by rw [Dia.wan_len]; decide
  have hpos : 0 < Dia.wanL.length := by rw [Dia.wan_len]; decide
  have HPS : Aid.Hid2 (∀ w1 a cap ls, Dia.T w1 a cap ls Dia.wanL → _) := ⟨fun w1 a cap ls ht => Tryz.t_Pairs (a := a) (cap := cap) (ls := ls) w1 ht⟩
  generalize Dia.wanL = L at *
  go_enter Tryz.func25, Tryz.ntmps25
  go_wp2_with fail
  refine HTB.out.mono ?_
  rintro e w1 ⟨ls, hl1, x, cp, rfl, ht, hb1⟩
  go_wp2_with fail
  refine (HPS.out _ _ _ _ ht).mono ?_
  rintro e w2 ⟨va, vc, rfl, hown, hb2⟩
  have hB2 := Aid.bt hb1 hb2
  rcases hown.2 with ⟨hv, _⟩ | ⟨g, cap, cur, hv, _, _, hnc, _⟩
  · exfalso
    simp only [Value.slice.injEq] at hv
    omega
  simp only [Value.slice.injEq] at hv
  obtain ⟨rfl, _, rfl⟩ := hv
  have hcells := hown.cells (g := g) rfl
  have HC : Aid.Hid2 (∀ (j : Nat) (h : j < L.length) (w3 : World), Below w2.heap.size w2 w3 → w3.cell? ⟨g, j * 2, none⟩ = some (.int .i64 L[j].1) ∧ w3.cell? ⟨g, j * 2 + 1, none⟩ = some (.int .i32 L[j].2)) := ⟨fun j h w3 hb => by
    have hp : ∀ i, (⟨g, 0, none⟩ : Addr).add i = ⟨g, 0 + i, none⟩ := by intro i; unfold Addr.add; split <;> simp_all
    have c0 := hcells (j * 2 + 0) _ (Aid.flat_get Dia.pcells 2 Dia.pcells_len L j 0 L[j] _ (by simp [h]) rfl)
    have c1 := hcells (j * 2 + 1) _ (Aid.flat_get Dia.pcells 2 Dia.pcells_len L j 1 L[j] _ (by simp [h]) rfl)
    rw [hp, Nat.zero_add] at c0 c1
    exact ⟨Aid.cell_ext hb c0, Aid.cell_ext hb c1⟩⟩
  clear hown hcells ht hb1 hb2
  go_wp2_with fail
  go_loopw [1, 3, 7] (fun v _ i wr => ∃ k : Nat, k ≤ L.length ∧ i = .int .i64 k ∧ wr.ownsRow w2.heap.size 34 2 v k (((L.take k).map Dia.wcd).flatMap Dia.pcells) ∧ Below w2.heap.size w2 wr)
    (fun _ _ i _ => L.length - (intOf i).toNat)
  case atStart => exact ⟨0, Nat.zero_le _, rfl, World.ownsRow_nil _ _ _ _, Below.refl _ _⟩
  case round =>
    obtain ⟨k, hk, rfl, ho, hb⟩ := hrel
    by_cases hlt : k < L.length
    · obtain ⟨c0, c1⟩ := HC.out k hlt _ hb
      obtain ⟨b0, b1⟩ := HBD.out _ (List.getElem_mem hlt)
      have HN : Aid.Hid2 (((L.take (k + 1)).map Dia.wcd).flatMap Dia.pcells = ((L.take k).map Dia.wcd).flatMap Dia.pcells ++ [.int .i64 ((161 + L[k].1 / 94) * 256 + 161 + L[k].1 % 94), .int .i32 L[k].2]) := ⟨by
        rw [List.take_succ_eq_append_getElem hlt, List.map_append, List.flatMap_append]
        rfl⟩
      generalize L[k] = q at *
      obtain ⟨q1, q2⟩ := q
      simp only at c0 c1 b0 b1 HN
      generalize ((L.take k).map Dia.wcd).flatMap Dia.pcells = X at *
      have hk2 : k ≤ 1000 := by omega
      have d0 : 0 ≤ q1 / 94 := by omega
      have d1 : q1 / 94 ≤ 12 := by omega
      have m0 : 0 ≤ q1 % 94 := by omega
      have m1 : q1 % 94 ≤ 93 := by omega
      have hsz : (wr.alloc (.cells #[.int .i64 q1, .int .i32 q2] 34)).heap.size = wr.heap.size + 1 := by simp
      go_wp2_with (at_builtin; refine Aid.wpList_app1 (w0 := w2) _ rfl _ _ 30 34 2 16 rfl Tryz.underlying30 i0 _ hi hz0 hz1 hz2 rfl (by decide) w2.heap.size _ _ _ #[.int .i64 ((161 + q1 / 94) * 256 + 161 + q1 % 94), .int .i32 q2] _ rfl (wr.alloc (.cells #[.int .i64 q1, .int .i32 q2] 34)) rfl (ho.alloc _) (Below.alloc hb hb.size _) ?_ (by rw [hsz]; rfl) rfl ?_ ?_ ?_ ?_)
      · simp; have := hb.size; omega
      · simp [Value.oneCell']
      · omega
      · omega
      · intro v' w7 hown7 hb7 hsz7 hg7
        go_wp2
        go_roundw
        case rel => exact ⟨k + 1, by omega, by go_num, by rw [HN.out]; exact hown7, hb7⟩
        case measure => simp [intOf]; omega
    · obtain rfl : k = L.length := by omega
      rw [List.take_of_length_le (Nat.le_refl _)] at ho
      have hml : (L.map Dia.wcd).length = L.length := List.length_map _
      obtain ⟨a9, c9, rfl⟩ := Aid.own_val ho
      cases a9 with
      | none =>
        exfalso
        rcases ho.2 with ⟨hv, _⟩ | ⟨_, _, _, hv, _⟩
        · simp only [Value.slice.injEq] at hv; omega
        · simp at hv
      | some a9 =>
        obtain ⟨g9, rfl⟩ : ∃ g9, a9 = ⟨g9, 0, none⟩ := by
          rcases ho.2 with ⟨hv, _⟩ | ⟨g9, _, _, hv, _⟩
          · simp at hv
          · simp only [Value.slice.injEq, Option.some.injEq] at hv
            exact ⟨g9, hv.1⟩
        have HSO := Aid.Hid2.mk (fun (h : wr.ownsRow w2.heap.size 34 2 (.slice (some ⟨g9, 0, none⟩) (L.map Dia.wcd).length c9) (L.map Dia.wcd).length ((L.map Dia.wcd).flatMap Dia.pcells)) => Tryz.c_sort7 g9 c9 w2.heap.size (L.map Dia.wcd) wr (by omega) h)
        rw [hml] at HSO
        have hgw := (ho.lt g9 rfl).1
        go_wp2_with fail
        refine (HSO.out ho).mono ?_
        rintro e w9 ⟨l', rfl, hperm, hsort, ho9, hg9⟩
        have hl' : l' = L.map Dia.wcd := Dia.rise_unique (Dia.rise_of hsort hperm (by
          have := HRI.out
          unfold Dia.Rise at this
          rw [List.nodup_iff_pairwise_ne, List.pairwise_map]
          exact this.imp (by intro a b h; omega))) HRI.out hperm
        subst hl'
        have hB9 : Below w2.heap.size w2 w9 := hb.grown hg9 hb.size (fun k hk => by cases hk; exact hgw)
        clear hperm hsort
        go_wp2
        go_ret
        refine ⟨some ⟨g9, 0, none⟩, c9, ?_, ?_, Aid.bt hB2 hB9⟩
        · rw [hml]; rfl
        · rw [hml]; exact Aid.own_base ho9 hB2.size
end Go.Proofs
