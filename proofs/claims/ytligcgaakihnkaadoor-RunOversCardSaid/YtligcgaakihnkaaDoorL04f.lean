/- the law RunOvers, walked -/
import Derived.Test.YtligcgaakihnkaaDoorL04d
import Derived.Deep.RegionHeld3
import Derived.Deep.DeepCutAuto
namespace Go.Proofs
open Go.RowKit

theorem Aid.set_same {w : World} {k : Nat} {v u : Value} {T : TypeId} (h : w.heap[k]? = some (.cells #[v] T (0, 0))) : (w.setCell ⟨k, 0, none⟩ u).heap[k]? = some (.cells #[u] T (0, 0)) := by
  simp [World.setCell, Array.getElem?_modify, h]
theorem Aid.set_far {w : World} {k k' : Nat} {u : Value} {o : Obj} (h : w.heap[k]? = some o) (hne : k' ≠ k) : (w.setCell ⟨k', 0, none⟩ u).heap[k]? = some o := by
  simp [World.setCell, Array.getElem?_modify, h, hne]
theorem Aid.blk_lt {w : World} {k : Nat} {o : Obj} (h : w.heap[k]? = some o) : k < w.heap.size := (Array.getElem?_eq_some_iff.1 h).1
theorem Dia.rover_len (l m : List (Int × Int)) : (Dia.rover l m).length ≤ l.length + m.length := by
  have := Dia.over_len l m l
  unfold Dia.rover
  omega
/-- Over hands back a table of few levels -/
def Dia.IsO (l : List (Int × Int)) (n : Nat) (w w' : World) (e : Ending) : Prop :=
  ∃ (a : Option Addr) (cap : Nat) (vs : List (List Dia.Row)), e = .returned (.agg #[.slice a vs.length cap]) ∧ vs.length ≤ n ∧ Dia.T w' a cap vs l ∧ Below w.heap.size w w'
theorem Tryd.t_Over2 {a b : Option Addr} {ca cb : Nat} {ls ms : List (List Dia.Row)} {l m r : List (Int × Int)} {i j k : Nat} (w : World) (h1 : Dia.T w a ca ls l) (h2 : Dia.T w b cb ms m) (n1 : ls.length ≤ i) (n2 : ms.length ≤ j) (hk : i + j ≤ k) (hk' : k ≤ 1000) (hl : l.length + m.length ≤ 100000) (hr : Aid.Hid2 (Dia.rover l m = r)) :
    Calls Tryd.prog 20 #[.agg #[.slice a ls.length ca], .agg #[.slice b ms.length cb]] w fun e w' => Dia.IsO r k w w' e :=
  (Tryd.t_Over w h1 h2 (by omega) hl).mono fun e w' ⟨x, c, he, ht, hb⟩ => ⟨x, c, ls ++ ms, he, by rw [List.length_append]; omega, by rw [← hr.out]; exact ht, hb⟩

theorem Tryd.t_Is {a b : Option Addr} {ca : Nat} {ls : List (List Dia.Row)} {l : List (Int × Int)} (cb : Nat) (w : World) (h : Dia.T w a ca ls l) (hm : Dia.PairsAt w b l) (hml : l.length ≤ 100000) :
    Calls Tryd.prog 13 #[.agg #[.slice a ls.length ca], .slice b l.length cb] w fun e w' => e = .returned (.bool true) ∧ Below w.heap.size w w' :=
  (Tryd.c_Is cb w h hm hml).mono fun e w' ⟨he, hb⟩ => ⟨by rw [he, decide_eq_true rfl], hb⟩

set_option maxRecDepth 100000 in
set_option maxHeartbeats 8000000 in
theorem Tryd.w_RunOvers (a : Option Addr) (ps : List Dia.Piece) (ca : Nat) (b : Option Addr) (qs : List Dia.Piece) (cb : Nat) (c : Option Addr) (rs : List Dia.Piece) (cc : Nat) (code p : Int) (w : World) (hT : Tryd.Tabs w)
    (hps : Dia.PiecesAt w a ps) (hbig : ∀ p ∈ ps, p.Big) (hmax : ps.length ≤ 9223372036854775807)
    (hqs : Dia.PiecesAt w b qs) (hbigq : ∀ p ∈ qs, p.Big) (hmaxq : qs.length ≤ 9223372036854775807)
    (hrs : Dia.PiecesAt w c rs) (hbigr : ∀ p ∈ rs, p.Big) (hmaxr : rs.length ≤ 9223372036854775807)
    (hcode : -9223372036854775808 ≤ code ∧ code ≤ 9223372036854775807) (hp : -2147483648 ≤ p ∧ p ≤ 2147483647) :
    Calls Tryd.prog 5 #[.slice a ps.length ca, .slice b qs.length cb, .slice c rs.length cc, .int .i64 code, .int .i32 p] w fun e w' => e = .returned (.bool true) ∧ Below w.heap.size w w' := by
  have HL1 := Aid.Hid2.mk (Tryd.c_Light a ps ca w hps hbig hmax)
  have HL2 : Aid.Hid2 (∀ w1, Below w.heap.size w w1 → Calls Tryd.prog 7 #[.slice b qs.length cb] w1 fun e w' => e = .returned (.bool (Dia.light qs)) ∧ Below w1.heap.size w1 w') := ⟨fun w1 hb => Tryd.c_Light b qs cb w1 (hqs.below hb) hbigq hmaxq⟩
  have HL3 : Aid.Hid2 (∀ w1, Below w.heap.size w w1 → Calls Tryd.prog 7 #[.slice c rs.length cc] w1 fun e w' => e = .returned (.bool (Dia.light rs)) ∧ Below w1.heap.size w1 w') := ⟨fun w1 hb => Tryd.c_Light c rs cc w1 (hrs.below hb) hbigr hmaxr⟩
  cases hl1 : Dia.light ps with
  | false =>
    rw [hl1] at HL1
    clear hl1
    go_enter Tryd.func5, Tryd.ntmps5
    go_wp2_with fail
    refine HL1.out.mono ?_
    rintro e w1 ⟨rfl, hb1⟩
    have hB1 := hb1
    go_wp2_with fail
    refine (Tryd.c_awake04 _ (hT.below hB1)).mono ?_
    rintro e wz ⟨rfl, hbz⟩
    go_wp2
    go_ret
    exact ⟨rfl, Aid.bt (hB1) hbz⟩
  | true =>
    rw [hl1] at HL1
    cases hl2 : Dia.light qs with
    | false =>
      rw [hl2] at HL2
      clear hl2
      clear hl1
      go_enter Tryd.func5, Tryd.ntmps5
      go_wp2_with fail
      refine HL1.out.mono ?_
      rintro e w1 ⟨rfl, hb1⟩
      have hB1 := hb1
      go_wp2_with fail
      refine (HL2.out _ hB1).mono ?_
      rintro e w2 ⟨rfl, hb2⟩
      have hB2 := Aid.bt hB1 hb2
      go_wp2_with fail
      refine (Tryd.c_awake04 _ (hT.below hB2)).mono ?_
      rintro e wz ⟨rfl, hbz⟩
      go_wp2
      go_ret
      exact ⟨rfl, Aid.bt (hB2) hbz⟩
    | true =>
      rw [hl2] at HL2
      cases hl3 : Dia.light rs with
      | false =>
        rw [hl3] at HL3
        clear hl3
        clear hl1 hl2
        go_enter Tryd.func5, Tryd.ntmps5
        go_wp2_with fail
        refine HL1.out.mono ?_
        rintro e w1 ⟨rfl, hb1⟩
        have hB1 := hb1
        go_wp2_with fail
        refine (HL2.out _ hB1).mono ?_
        rintro e w2 ⟨rfl, hb2⟩
        have hB2 := Aid.bt hB1 hb2
        go_wp2_with fail
        refine (HL3.out _ hB2).mono ?_
        rintro e w3 ⟨rfl, hb3⟩
        have hB3 := Aid.bt hB2 hb3
        go_wp2_with fail
        refine (Tryd.c_awake04 _ (hT.below hB3)).mono ?_
        rintro e wz ⟨rfl, hbz⟩
        go_wp2
        go_ret
        exact ⟨rfl, Aid.bt (hB3) hbz⟩
      | true =>
        rw [hl3] at HL3
        obtain ⟨h12A, hinA, hgA⟩ := Dia.light_in hbig hl1
        have TBA := Dia.tab_made hgA h12A
        have nA := Dia.lv_len (Dia.newL [] 0 ps)
        have mA : (Dia.madeL [] 0 ps).1.length ≤ 3600 := by have := Dia.madeL_len ps [] 0 hgA; simp at this; omega
        have HTA : Aid.Hid2 (∀ w1, Below w.heap.size w w1 → Calls Tryd.prog 18 #[.slice a ps.length ca] w1 fun e w' => Dia.IsT (Dia.lv (Dia.newL [] 0 ps)) (Dia.madeL [] 0 ps).1 w1 w' e) := ⟨fun w1 hb => Tryd.c_table a ps ca w1 (hps.below hb) hinA hgA h12A (hT.below hb)⟩
        have HMA : Aid.Hid2 (∀ w1, Below w.heap.size w w1 → Calls Tryd.prog 10 #[.slice a ps.length ca] w1 fun e w' => Dia.IsMade (Dia.madeL [] 0 ps) w1 w' e) := ⟨fun w1 hb => Tryd.c_made a ps ca w1 (hps.below hb) hinA hgA h12A⟩
        clear h12A hinA hgA hl1 hbig
        generalize Dia.lv (Dia.newL [] 0 ps) = LA at *
        generalize Dia.madeL [] 0 ps = MA at *
        obtain ⟨la, eA⟩ := MA
        simp only at TBA mA HTA HMA
        obtain ⟨h12B, hinB, hgB⟩ := Dia.light_in hbigq hl2
        have TBB := Dia.tab_made hgB h12B
        have nB := Dia.lv_len (Dia.newL [] 0 qs)
        have mB : (Dia.madeL [] 0 qs).1.length ≤ 3600 := by have := Dia.madeL_len qs [] 0 hgB; simp at this; omega
        have HTB : Aid.Hid2 (∀ w1, Below w.heap.size w w1 → Calls Tryd.prog 18 #[.slice b qs.length cb] w1 fun e w' => Dia.IsT (Dia.lv (Dia.newL [] 0 qs)) (Dia.madeL [] 0 qs).1 w1 w' e) := ⟨fun w1 hb => Tryd.c_table b qs cb w1 (hqs.below hb) hinB hgB h12B (hT.below hb)⟩
        have HMB : Aid.Hid2 (∀ w1, Below w.heap.size w w1 → Calls Tryd.prog 10 #[.slice b qs.length cb] w1 fun e w' => Dia.IsMade (Dia.madeL [] 0 qs) w1 w' e) := ⟨fun w1 hb => Tryd.c_made b qs cb w1 (hqs.below hb) hinB hgB h12B⟩
        clear h12B hinB hgB hl2 hbigq
        generalize Dia.lv (Dia.newL [] 0 qs) = LB at *
        generalize Dia.madeL [] 0 qs = MB at *
        obtain ⟨lb, eB⟩ := MB
        simp only at TBB mB HTB HMB
        obtain ⟨h12C, hinC, hgC⟩ := Dia.light_in hbigr hl3
        have TBC := Dia.tab_made hgC h12C
        have nC := Dia.lv_len (Dia.newL [] 0 rs)
        have mC : (Dia.madeL [] 0 rs).1.length ≤ 3600 := by have := Dia.madeL_len rs [] 0 hgC; simp at this; omega
        have HTC : Aid.Hid2 (∀ w1, Below w.heap.size w w1 → Calls Tryd.prog 18 #[.slice c rs.length cc] w1 fun e w' => Dia.IsT (Dia.lv (Dia.newL [] 0 rs)) (Dia.madeL [] 0 rs).1 w1 w' e) := ⟨fun w1 hb => Tryd.c_table c rs cc w1 (hrs.below hb) hinC hgC h12C (hT.below hb)⟩
        have HMC : Aid.Hid2 (∀ w1, Below w.heap.size w w1 → Calls Tryd.prog 10 #[.slice c rs.length cc] w1 fun e w' => Dia.IsMade (Dia.madeL [] 0 rs) w1 w' e) := ⟨fun w1 hb => Tryd.c_made c rs cc w1 (hrs.below hb) hinC hgC h12C⟩
        clear h12C hinC hgC hl3 hbigr
        generalize Dia.lv (Dia.newL [] 0 rs) = LC at *
        generalize Dia.madeL [] 0 rs = MC at *
        obtain ⟨lc, eC⟩ := MC
        simp only at TBC mC HTC HMC
        have mBC := Dia.rover_len lb lc
        have mAB := Dia.rover_len la lb
        have mABC := Dia.rover_len la (Dia.rover lb lc)
        have TB1 := Dia.tab_over TBA (Dia.tab_over TBB TBC (by omega) (by omega)) (by rw [List.length_append]; omega) (by omega)
        have TB2 := Dia.tab_over (Dia.tab_over TBA TBB (by omega) (by omega)) TBC (by rw [List.length_append]; omega) (by omega)
        have HE : Aid.Hid2 (Dia.rover (Dia.rover la lb) lc = Dia.rover la (Dia.rover lb lc)) := ⟨Dia.rise_unique TB2.tab.1 TB1.tab.1 (TB2.tab.2.trans (by rw [List.append_assoc]; exact TB1.tab.2.symm))⟩
        have hpos := TB1.pos
        clear TB1 TB2 TBA TBB TBC
        have HROV1 : Aid.Hid2 (∀ (x y : Option Addr) (cx cy : Nat) (w1 : World), Dia.PairsAt w1 x lb → Dia.PairsAt w1 y lc → Calls Tryd.prog 19 #[.slice x lb.length cx, .slice y lc.length cy] w1 fun e w' => Dia.IsRP (Dia.rover lb lc) w1 w' e) := ⟨fun x y cx cy w1 h1 h2 => Tryd.c_rOver x y lb lc cx cy w1 h1 h2 (by omega)⟩
        have HROV2 : Aid.Hid2 (∀ (x y : Option Addr) (cx cy : Nat) (w1 : World), Dia.PairsAt w1 x la → Dia.PairsAt w1 y (Dia.rover lb lc) → Calls Tryd.prog 19 #[.slice x la.length cx, .slice y (Dia.rover lb lc).length cy] w1 fun e w' => Dia.IsRP (Dia.rover la (Dia.rover lb lc)) w1 w' e) := ⟨fun x y cx cy w1 h1 h2 => Tryd.c_rOver x y la (Dia.rover lb lc) cx cy w1 h1 h2 (by omega)⟩
        generalize hX : Dia.rover la (Dia.rover lb lc) = lw at *
        have HABC := Aid.Hid2.mk hX
        clear hX
        generalize hY : Dia.rover lb lc = lbc at *
        have HBC := Aid.Hid2.mk hY
        clear hY
        generalize hZ : Dia.rover la lb = lab at *
        have HAB := Aid.Hid2.mk hZ
        clear hZ
        have HFC := Dia.find_cases lw code
        have HRC := Dia.rev_cases hpos p
        have HFCH := Aid.Hid2.mk HFC
        have HRCH := Aid.Hid2.mk HRC
        clear hpos HFC HRC
        go_enter Tryd.func5, Tryd.ntmps5
        go_wp2_with fail
        refine HL1.out.mono ?_
        rintro e w1 ⟨rfl, hb1⟩
        have hB1 := hb1
        go_wp2_with fail
        refine (HL2.out _ hB1).mono ?_
        rintro e w2 ⟨rfl, hb2⟩
        have hB2 := Aid.bt hB1 hb2
        go_wp2_with fail
        refine (HL3.out _ hB2).mono ?_
        rintro e w3 ⟨rfl, hb3⟩
        have hB3 := Aid.bt hB2 hb3
        go_wp2_with fail
        refine (HTA.out _ hB3).mono ?_
        rintro e w4 ⟨x, cx, rfl, htx, hb4⟩
        have hB4 := Aid.bt hB3 hb4
        go_wp2_with fail
        refine (HTB.out _ hB4).mono ?_
        rintro e w5 ⟨y, cy, rfl, hty, hb5⟩
        have hB5 := Aid.bt hB4 hb5
        go_wp2_with fail
        refine (HTC.out _ hB5).mono ?_
        rintro e w6 ⟨z, cz, rfl, htz, hb6⟩
        have hB6 := Aid.bt hB5 hb6
        have htx := (htx.below hb5).below hb6
        have hty := hty.below hb6
        have hb6d : Below w6.heap.size w6 (((w6.alloc (.cells #[.slice x LA.length cx] 27)).alloc (.cells #[.slice y LB.length cy] 27)).alloc (.cells #[.slice z LC.length cz] 27)) := (Aid.b2 _ _ _).alloc (by simp only [World.size_alloc]; omega) _
        have h3k := Aid.heap3 w6 (.cells #[.slice x LA.length cx] 27) (.cells #[.slice y LB.length cy] 27) (.cells #[.slice z LC.length cz] 27)
        have kx : (((w6.alloc (.cells #[.slice x LA.length cx] 27)).alloc (.cells #[.slice y LB.length cy] 27)).alloc (.cells #[.slice z LC.length cz] 27)).heap[w6.heap.size]? = some (.cells #[.slice x LA.length cx] 27) := Aid.blk_alloc (Aid.heap2 _ _ _).1
        obtain ⟨ky, kz⟩ := h3k
        have htx := htx.below hb6d
        have hty := hty.below hb6d
        have htz := htz.below hb6d
        have hB6 := Aid.bt hB6 hb6d
        go_wp2_with fail
        refine (HMA.out _ hB6).mono ?_
        rintro e w7 ⟨p1, cp1, rfl, hm1, hb7⟩
        simp only
        have hB7 := Aid.bt hB6 hb7
        have htx := htx.below hb7
        have hty := hty.below hb7
        have htz := htz.below hb7
        have kx := Aid.blk hb7 kx
        have ky := Aid.blk hb7 ky
        have kz := Aid.blk hb7 kz
        go_wp2_with fail
        refine (HMB.out _ hB7).mono ?_
        rintro e w8 ⟨p2, cp2, rfl, hm2, hb8⟩
        simp only
        have hB8 := Aid.bt hB7 hb8
        have htx := htx.below hb8
        have hty := hty.below hb8
        have htz := htz.below hb8
        have kx := Aid.blk hb8 kx
        have ky := Aid.blk hb8 ky
        have kz := Aid.blk hb8 kz
        go_wp2_with fail
        refine (HMC.out _ hB8).mono ?_
        rintro e w9 ⟨p3, cp3, rfl, hm3, hb9⟩
        simp only
        have hB9 := Aid.bt hB8 hb9
        have htx := htx.below hb9
        have hty := hty.below hb9
        have htz := htz.below hb9
        have kx := Aid.blk hb9 kx
        have ky := Aid.blk hb9 ky
        have kz := Aid.blk hb9 kz
        have hm1 := (hm1.below hb8).below hb9
        have hm2 := hm2.below hb9
        go_wp2_with fail
        refine (HROV1.out _ _ _ _ _ hm2 hm3).mono ?_
        rintro e w10 ⟨p4, cp4, rfl, hm4, hb10⟩
        go_wp2_with fail
        refine (HROV2.out _ _ _ _ _ (hm1.below hb10) hm4).mono ?_
        rintro e w11 ⟨p5, cp5, rfl, hm5, hb11⟩
        have hb := Aid.bt hb10 hb11
        have hB := Aid.bt hB9 hb
        have htx := htx.below hb
        have hty := hty.below hb
        have htz := htz.below hb
        have hm1 := hm1.below hb
        have hm2 := hm2.below hb
        have kx := Aid.blk hb kx
        have ky := Aid.blk hb ky
        have kz := Aid.blk hb kz
        generalize w6.heap.size = g at *
        obtain ⟨qx, _⟩ := Aid.one kx
        obtain ⟨qy, _⟩ := Aid.one ky
        obtain ⟨qz, _⟩ := Aid.one kz
        clear HL1 HL2 HL3 HTA HTB HTC HMA HMB HMC HROV1 HROV2 hm3 hm4
        go_upto_region 8 with fail
        go_cut [21, 22] (fun s21 s22 wx => ∃ (g1 g2 : Nat) (a1 a2 : Option Addr) (c1 c2 : Nat) (v1 v2 : List (List Dia.Row)), s21 = .pointer (some ⟨g1, 0, none⟩) ∧ s22 = .pointer (some ⟨g2, 0, none⟩) ∧ wx.cell? ⟨g1, 0, none⟩ = some (.slice a1 v1.length c1) ∧ wx.cell? ⟨g2, 0, none⟩ = some (.slice a2 v2.length c2) ∧ Dia.T wx a1 c1 v1 lw ∧ Dia.T wx a2 c2 v2 lw ∧ Below w11.heap.size w11 wx)
/-CUT-/
        case first =>
          have hq : ∀ w', Below w11.heap.size w11 w' → (fun w' => w'.cell? ⟨g, 0, none⟩ = some (.slice x LA.length cx) ∧ w'.cell? ⟨g + 1, 0, none⟩ = some (.slice y LB.length cy) ∧ w'.cell? ⟨g + 1 + 1, 0, none⟩ = some (.slice z LC.length cz)) w' := fun w' hb => ⟨Aid.cell_ext hb qx, Aid.cell_ext hb qy, Aid.cell_ext hb qz⟩
          have HQ := Aid.Hid2.mk hq
          clear hq
          have hX : Below w11.heap.size w11 w11.drew := (Below.refl _ _).drew
          have htx := htx.below hX
          have hty := hty.below hX
          have htz := htz.below hX
          refine wp_region_held_drew (S := (fun w' => w'.cell? ⟨g, 0, none⟩ = some (.slice x LA.length cx) ∧ w'.cell? ⟨g + 1, 0, none⟩ = some (.slice y LB.length cy) ∧ w'.cell? ⟨g + 1 + 1, 0, none⟩ = some (.slice z LC.length cz))) (by kernel_rfl) ?_ (fun hHeld => ?_)
          · exact HQ.out _ hX
          clear kx ky kz
          refine wpAnyH_take (i := 0) (oi := ⟨_, _, _, _, _, _⟩) (v := ?_) rfl (by kernel_rfl) (by kernel_rfl) (by kernel_rfl) (fun _ _ _ h => h) (Or.inl ⟨by kernel_rfl, ?_⟩) (by assumption) ?_
          rotate_left
          · intro w hSw
            try dsimp only at hSw
            obtain ⟨s0, s1, s2⟩ := hSw
            first | (go_simp; done) | (go_simp; with_reducible rfl)
          try simp only [Act.put, List.setIfInBounds_toArray, List.set_cons_zero, List.set_cons_succ]
          refine wpAnyH_take (i := 1) (oi := ⟨_, _, _, _, _, _⟩) (v := ?_) rfl (by kernel_rfl) (by kernel_rfl) (by kernel_rfl) (fun _ _ _ h => h) (Or.inl ⟨by kernel_rfl, ?_⟩) (by assumption) ?_
          rotate_left
          · intro w hSw
            try dsimp only at hSw
            obtain ⟨s0, s1, s2⟩ := hSw
            first | (go_simp; done) | (go_simp; with_reducible rfl)
          try simp only [Act.put, List.setIfInBounds_toArray, List.set_cons_zero, List.set_cons_succ]
          refine wpAnyH_take (i := 2) (oi := ⟨_, _, _, _, _, _⟩) (v := ?_) rfl (by kernel_rfl) (by kernel_rfl) (by kernel_rfl) (fun _ _ _ h => h) (Or.inl ⟨by kernel_rfl, ?_⟩) (by assumption) ?_
          rotate_left
          · intro w hSw
            try dsimp only at hSw
            obtain ⟨s0, s1, s2⟩ := hSw
            first | (go_simp; done) | (go_simp; with_reducible rfl)
          try simp only [Act.put, List.setIfInBounds_toArray, List.set_cons_zero, List.set_cons_succ]
          refine wpAnyH_take (i := 5) (oi := ⟨_, _, _, _, _, _⟩) (v := ?_) rfl (by kernel_rfl) (by kernel_rfl) (by kernel_rfl) (fun _ _ _ h => h) (Or.inl ⟨by kernel_rfl, ?_⟩) (by assumption) ?_
          rotate_left
          · intro w hSw
            try dsimp only at hSw
            obtain ⟨s0, s1, s2⟩ := hSw
            first | (go_simp; done) | (go_simp; with_reducible rfl)
          try simp only [Act.put, List.setIfInBounds_toArray, List.set_cons_zero, List.set_cons_succ]
          refine wpAnyH_take (i := 6) (oi := ⟨_, _, _, _, _, _⟩) (v := ?_) rfl (by kernel_rfl) (by kernel_rfl) (by kernel_rfl) (fun _ _ _ h => h) (Or.inl ⟨by kernel_rfl, ?_⟩) (by assumption) ?_
          rotate_left
          · intro w hSw
            try dsimp only at hSw
            obtain ⟨s0, s1, s2⟩ := hSw
            first | (go_simp; done) | (go_simp; with_reducible rfl)
          try simp only [Act.put, List.setIfInBounds_toArray, List.set_cons_zero, List.set_cons_succ]
          refine wpAnyH_take (i := 8) (oi := ⟨_, _, _, _, _, _⟩) (v := ?_) rfl (by kernel_rfl) (by kernel_rfl) (by kernel_rfl) (fun _ _ _ h => h) (Or.inl ⟨by kernel_rfl, ?_⟩) (by assumption) ?_
          rotate_left
          · intro w hSw
            try dsimp only at hSw
            obtain ⟨s0, s1, s2⟩ := hSw
            first | (go_simp; done) | (go_simp; with_reducible rfl)
          try simp only [Act.put, List.setIfInBounds_toArray, List.set_cons_zero, List.set_cons_succ]
          clear qx qy qz hHeld
          generalize hwd : w11.drew = wd0 at *
          clear hwd
          refine wpAnyH_ready (rs := [3, 10, 11]) (by kernel_rfl) (by simp) ?_
          refine AllReadyH.cons (o := ⟨_, _, _, _, _, _⟩) rfl (fun K hK => ?_) ?_
          · -- 3
            go_simp
            refine (Tryd.t_Over2 (k := 2) _ hty htz nB nC (by decide) (by decide) (by omega) HBC).mono ?_
            rintro e wd1 ⟨au1, cu1, vu1, rfl, nu1, htu1, hbx⟩
            go_wp2_with fail
            refine hK.out _ _ (HQ.out _ (Aid.bt hX hbx)) (fun hHeld => ?_)
            clear hK K hHeld
            try simp only [Act.put, List.setIfInBounds_toArray, List.set_cons_zero, List.set_cons_succ]
            replace hX := Aid.bt hX hbx
            replace htx := htx.below hbx
            replace hty := hty.below hbx
            replace htz := htz.below hbx
            clear hbx
            clear wd0
            refine wpAnyH_ready (rs := [4, 10, 11]) (by kernel_rfl) (by simp) ?_
            refine AllReadyH.cons (o := ⟨_, _, _, _, _, _⟩) rfl (fun K hK => ?_) ?_
            · -- 4
              go_simp
              refine (Tryd.t_Over2 (k := 3) _ htx htu1 nA nu1 (by decide) (by decide) (by omega) HABC).mono ?_
              rintro e wd2 ⟨au2, cu2, vu2, rfl, nu2, htu2, hbx⟩
              go_wp2_with fail
              refine hK.out _ _ (HQ.out _ (Aid.bt hX hbx)) (fun hHeld => ?_)
              clear hK K hHeld
              try simp only [Act.put, List.setIfInBounds_toArray, List.set_cons_zero, List.set_cons_succ]
              replace hX := Aid.bt hX hbx
              replace htx := htx.below hbx
              replace hty := hty.below hbx
              replace htz := htz.below hbx
              replace htu1 := htu1.below hbx
              clear hbx
              clear wd1
              refine wpAnyH_ready (rs := [7, 10, 11]) (by kernel_rfl) (by simp) ?_
              refine AllReadyH.cons (o := ⟨_, _, _, _, _, _⟩) rfl (fun K hK => ?_) ?_
              · -- 7
                go_simp
                refine (Tryd.t_Over2 (k := 2) _ htx hty nA nB (by decide) (by decide) (by omega) HAB).mono ?_
                rintro e wd3 ⟨au3, cu3, vu3, rfl, nu3, htu3, hbx⟩
                go_wp2_with fail
                refine hK.out _ _ (HQ.out _ (Aid.bt hX hbx)) (fun hHeld => ?_)
                clear hK K hHeld
                try simp only [Act.put, List.setIfInBounds_toArray, List.set_cons_zero, List.set_cons_succ]
                replace hX := Aid.bt hX hbx
                replace htx := htx.below hbx
                replace hty := hty.below hbx
                replace htz := htz.below hbx
                replace htu1 := htu1.below hbx
                replace htu2 := htu2.below hbx
                clear hbx
                clear wd2
                refine wpAnyH_ready (rs := [9, 10, 11]) (by kernel_rfl) (by simp) ?_
                refine AllReadyH.cons (o := ⟨_, _, _, _, _, _⟩) rfl (fun K hK => ?_) ?_
                · -- 9
                  go_simp
                  refine (Tryd.t_Over2 (k := 3) _ htu3 htz nu3 nC (by decide) (by decide) (by omega) HE).mono ?_
                  rintro e wd4 ⟨au4, cu4, vu4, rfl, nu4, htu4, hbx⟩
                  go_wp2_with fail
                  refine hK.out _ _ (HQ.out _ (Aid.bt hX hbx)) (fun hHeld => ?_)
                  clear hK K hHeld
                  try simp only [Act.put, List.setIfInBounds_toArray, List.set_cons_zero, List.set_cons_succ]
                  replace hX := Aid.bt hX hbx
                  replace htx := htx.below hbx
                  replace hty := hty.below hbx
                  replace htz := htz.below hbx
                  replace htu1 := htu1.below hbx
                  replace htu2 := htu2.below hbx
                  replace htu3 := htu3.below hbx
                  clear hbx
                  clear wd3
                  refine wpAnyH_ready (rs := [10, 11]) (by kernel_rfl) (by simp) ?_
                  refine AllReadyH.cons (o := ⟨_, _, _, _, _, _⟩) rfl (fun K hK => ?_) ?_
                  · -- 10
                    go_simp
                    have hbx := Aid.b1 wd4 (.cells #[.slice none 0 0] 27)
                    have kA := heap_alloc_new wd4 (.cells #[.slice none 0 0] 27)
                    have gA0 := hX.size
                    refine hK.out _ _ (HQ.out _ (Aid.bt hX hbx)) (fun hHeld => ?_)
                    clear hK K hHeld
                    try simp only [Act.put, List.setIfInBounds_toArray, List.set_cons_zero, List.set_cons_succ]
                    replace hX := Aid.bt hX hbx
                    replace htx := htx.below hbx
                    replace hty := hty.below hbx
                    replace htz := htz.below hbx
                    replace htu1 := htu1.below hbx
                    replace htu2 := htu2.below hbx
                    replace htu3 := htu3.below hbx
                    replace htu4 := htu4.below hbx
                    clear hbx
                    generalize wd4.alloc (.cells #[.slice none 0 0] 27) = wd5 at *
                    generalize wd4.heap.size = gA at *
                    try clear wd4
                    refine wpAnyH_ready (rs := [11]) (by kernel_rfl) (by simp) ?_
                    refine AllReadyH.cons (o := ⟨_, _, _, _, _, _⟩) rfl (fun K hK => ?_) ?_
                    · -- 11
                      go_simp
                      have hbx := Aid.b1 wd5 (.cells #[.slice none 0 0] 27)
                      have kB := heap_alloc_new wd5 (.cells #[.slice none 0 0] 27)
                      have gB0 := hX.size
                      refine hK.out _ _ (HQ.out _ (Aid.bt hX hbx)) (fun hHeld => ?_)
                      clear hK K hHeld
                      try simp only [Act.put, List.setIfInBounds_toArray, List.set_cons_zero, List.set_cons_succ]
                      have hne : gA ≠ wd5.heap.size := Nat.ne_of_lt (Aid.blk_lt kA)
                      replace hX := Aid.bt hX hbx
                      replace htx := htx.below hbx
                      replace hty := hty.below hbx
                      replace htz := htz.below hbx
                      replace htu1 := htu1.below hbx
                      replace htu2 := htu2.below hbx
                      replace htu3 := htu3.below hbx
                      replace htu4 := htu4.below hbx
                      replace kA := Aid.blk hbx kA
                      clear hbx
                      generalize wd5.alloc (.cells #[.slice none 0 0] 27) = wd6 at *
                      generalize wd5.heap.size = gB at *
                      try clear wd5
                      refine wpAnyH_ready (rs := [12]) (by kernel_rfl) (by simp) ?_
                      refine AllReadyH.cons (o := ⟨_, _, _, _, _, _⟩) rfl (fun K hK => ?_) ?_
                      · -- 12
                        obtain ⟨z0, z1⟩ := Aid.one kA
                        go_simp
                        have hX2 : Below w11.heap.size w11 (wd6.setCell ⟨gA, 0, none⟩ (.slice au2 vu2.length cu2)) := hX.setCell gA0 _
                        refine hK.out _ _ (HQ.out _ hX2) (fun hHeld => ?_)
                        clear hK K hHeld
                        try simp only [Act.put, List.setIfInBounds_toArray, List.set_cons_zero, List.set_cons_succ]
                        replace hX := hX2
                        replace htu2 := htu2.set (u := .slice au2 vu2.length cu2) (j := 0) ⟨_, _, kA⟩ (by decide) (by decide) (by decide)
                        replace htu4 := htu4.set (u := .slice au2 vu2.length cu2) (j := 0) ⟨_, _, kA⟩ (by decide) (by decide) (by decide)
                        replace kB := Aid.set_far (u := .slice au2 vu2.length cu2) kB (hne)
                        replace kA := Aid.set_same (u := .slice au2 vu2.length cu2) kA
                        clear hX2 z0 z1
                        generalize wd6.setCell ⟨gA, 0, none⟩ (.slice au2 vu2.length cu2) = wd7 at *
                        try clear wd6
                        refine wpAnyH_ready (rs := [13]) (by kernel_rfl) (by simp) ?_
                        refine AllReadyH.cons (o := ⟨_, _, _, _, _, _⟩) rfl (fun K hK => ?_) ?_
                        · -- 13
                          obtain ⟨z0, z1⟩ := Aid.one kB
                          go_simp
                          have hX2 : Below w11.heap.size w11 (wd7.setCell ⟨gB, 0, none⟩ (.slice au4 vu4.length cu4)) := hX.setCell gB0 _
                          refine hK.out _ _ (HQ.out _ hX2) (fun hHeld => ?_)
                          clear hK K hHeld
                          try simp only [Act.put, List.setIfInBounds_toArray, List.set_cons_zero, List.set_cons_succ]
                          replace hX := hX2
                          replace htu2 := htu2.set (u := .slice au4 vu4.length cu4) (j := 0) ⟨_, _, kB⟩ (by decide) (by decide) (by decide)
                          replace htu4 := htu4.set (u := .slice au4 vu4.length cu4) (j := 0) ⟨_, _, kB⟩ (by decide) (by decide) (by decide)
                          replace kA := Aid.set_far (u := .slice au4 vu4.length cu4) kA (hne.symm)
                          replace kB := Aid.set_same (u := .slice au4 vu4.length cu4) kB
                          clear hX2 z0 z1
                          generalize wd7.setCell ⟨gB, 0, none⟩ (.slice au4 vu4.length cu4) = wd8 at *
                          try clear wd7
                          refine wpAnyH_done (by kernel_rfl) ?_ _
                          go_wp2_with fail
                          go_meet
                          exact ⟨gA, gB, au2, au4, cu2, cu4, vu2, vu4, rfl, rfl, (Aid.one kA).1, (Aid.one kB).1, htu2, htu4, hX⟩
                        exact AllReadyH.nil
                      exact AllReadyH.nil
                    exact AllReadyH.nil
                  refine AllReadyH.cons (o := ⟨_, _, _, _, _, _⟩) rfl (fun K hK => ?_) ?_
                  · -- 11
                    go_simp
                    have hbx := Aid.b1 wd4 (.cells #[.slice none 0 0] 27)
                    have kB := heap_alloc_new wd4 (.cells #[.slice none 0 0] 27)
                    have gB0 := hX.size
                    refine hK.out _ _ (HQ.out _ (Aid.bt hX hbx)) (fun hHeld => ?_)
                    clear hK K hHeld
                    try simp only [Act.put, List.setIfInBounds_toArray, List.set_cons_zero, List.set_cons_succ]
                    replace hX := Aid.bt hX hbx
                    replace htx := htx.below hbx
                    replace hty := hty.below hbx
                    replace htz := htz.below hbx
                    replace htu1 := htu1.below hbx
                    replace htu2 := htu2.below hbx
                    replace htu3 := htu3.below hbx
                    replace htu4 := htu4.below hbx
                    clear hbx
                    generalize wd4.alloc (.cells #[.slice none 0 0] 27) = wd5 at *
                    generalize wd4.heap.size = gB at *
                    try clear wd4
                    refine wpAnyH_ready (rs := [10]) (by kernel_rfl) (by simp) ?_
                    refine AllReadyH.cons (o := ⟨_, _, _, _, _, _⟩) rfl (fun K hK => ?_) ?_
                    · -- 10
                      go_simp
                      have hbx := Aid.b1 wd5 (.cells #[.slice none 0 0] 27)
                      have kA := heap_alloc_new wd5 (.cells #[.slice none 0 0] 27)
                      have gA0 := hX.size
                      refine hK.out _ _ (HQ.out _ (Aid.bt hX hbx)) (fun hHeld => ?_)
                      clear hK K hHeld
                      try simp only [Act.put, List.setIfInBounds_toArray, List.set_cons_zero, List.set_cons_succ]
                      have hne : gB ≠ wd5.heap.size := Nat.ne_of_lt (Aid.blk_lt kB)
                      replace hX := Aid.bt hX hbx
                      replace htx := htx.below hbx
                      replace hty := hty.below hbx
                      replace htz := htz.below hbx
                      replace htu1 := htu1.below hbx
                      replace htu2 := htu2.below hbx
                      replace htu3 := htu3.below hbx
                      replace htu4 := htu4.below hbx
                      replace kB := Aid.blk hbx kB
                      clear hbx
                      generalize wd5.alloc (.cells #[.slice none 0 0] 27) = wd6 at *
                      generalize wd5.heap.size = gA at *
                      try clear wd5
                      refine wpAnyH_ready (rs := [12]) (by kernel_rfl) (by simp) ?_
                      refine AllReadyH.cons (o := ⟨_, _, _, _, _, _⟩) rfl (fun K hK => ?_) ?_
                      · -- 12
                        obtain ⟨z0, z1⟩ := Aid.one kA
                        go_simp
                        have hX2 : Below w11.heap.size w11 (wd6.setCell ⟨gA, 0, none⟩ (.slice au2 vu2.length cu2)) := hX.setCell gA0 _
                        refine hK.out _ _ (HQ.out _ hX2) (fun hHeld => ?_)
                        clear hK K hHeld
                        try simp only [Act.put, List.setIfInBounds_toArray, List.set_cons_zero, List.set_cons_succ]
                        replace hX := hX2
                        replace htu2 := htu2.set (u := .slice au2 vu2.length cu2) (j := 0) ⟨_, _, kA⟩ (by decide) (by decide) (by decide)
                        replace htu4 := htu4.set (u := .slice au2 vu2.length cu2) (j := 0) ⟨_, _, kA⟩ (by decide) (by decide) (by decide)
                        replace kB := Aid.set_far (u := .slice au2 vu2.length cu2) kB (hne.symm)
                        replace kA := Aid.set_same (u := .slice au2 vu2.length cu2) kA
                        clear hX2 z0 z1
                        generalize wd6.setCell ⟨gA, 0, none⟩ (.slice au2 vu2.length cu2) = wd7 at *
                        try clear wd6
                        refine wpAnyH_ready (rs := [13]) (by kernel_rfl) (by simp) ?_
                        refine AllReadyH.cons (o := ⟨_, _, _, _, _, _⟩) rfl (fun K hK => ?_) ?_
                        · -- 13
                          obtain ⟨z0, z1⟩ := Aid.one kB
                          go_simp
                          have hX2 : Below w11.heap.size w11 (wd7.setCell ⟨gB, 0, none⟩ (.slice au4 vu4.length cu4)) := hX.setCell gB0 _
                          refine hK.out _ _ (HQ.out _ hX2) (fun hHeld => ?_)
                          clear hK K hHeld
                          try simp only [Act.put, List.setIfInBounds_toArray, List.set_cons_zero, List.set_cons_succ]
                          replace hX := hX2
                          replace htu2 := htu2.set (u := .slice au4 vu4.length cu4) (j := 0) ⟨_, _, kB⟩ (by decide) (by decide) (by decide)
                          replace htu4 := htu4.set (u := .slice au4 vu4.length cu4) (j := 0) ⟨_, _, kB⟩ (by decide) (by decide) (by decide)
                          replace kA := Aid.set_far (u := .slice au4 vu4.length cu4) kA (hne)
                          replace kB := Aid.set_same (u := .slice au4 vu4.length cu4) kB
                          clear hX2 z0 z1
                          generalize wd7.setCell ⟨gB, 0, none⟩ (.slice au4 vu4.length cu4) = wd8 at *
                          try clear wd7
                          refine wpAnyH_done (by kernel_rfl) ?_ _
                          go_wp2_with fail
                          go_meet
                          exact ⟨gA, gB, au2, au4, cu2, cu4, vu2, vu4, rfl, rfl, (Aid.one kA).1, (Aid.one kB).1, htu2, htu4, hX⟩
                        exact AllReadyH.nil
                      exact AllReadyH.nil
                    exact AllReadyH.nil
                  exact AllReadyH.nil
                refine AllReadyH.cons (o := ⟨_, _, _, _, _, _⟩) rfl (fun K hK => ?_) ?_
                · -- 10
                  go_simp
                  have hbx := Aid.b1 wd3 (.cells #[.slice none 0 0] 27)
                  have kA := heap_alloc_new wd3 (.cells #[.slice none 0 0] 27)
                  have gA0 := hX.size
                  refine hK.out _ _ (HQ.out _ (Aid.bt hX hbx)) (fun hHeld => ?_)
                  clear hK K hHeld
                  try simp only [Act.put, List.setIfInBounds_toArray, List.set_cons_zero, List.set_cons_succ]
                  replace hX := Aid.bt hX hbx
                  replace htx := htx.below hbx
                  replace hty := hty.below hbx
                  replace htz := htz.below hbx
                  replace htu1 := htu1.below hbx
                  replace htu2 := htu2.below hbx
                  replace htu3 := htu3.below hbx
                  clear hbx
                  generalize wd3.alloc (.cells #[.slice none 0 0] 27) = wd4 at *
                  generalize wd3.heap.size = gA at *
                  try clear wd3
                  refine wpAnyH_ready (rs := [9, 11]) (by kernel_rfl) (by simp) ?_
                  refine AllReadyH.cons (o := ⟨_, _, _, _, _, _⟩) rfl (fun K hK => ?_) ?_
                  · -- 9
                    go_simp
                    refine (Tryd.t_Over2 (k := 3) _ htu3 htz nu3 nC (by decide) (by decide) (by omega) HE).mono ?_
                    rintro e wd5 ⟨au4, cu4, vu4, rfl, nu4, htu4, hbx⟩
                    go_wp2_with fail
                    refine hK.out _ _ (HQ.out _ (Aid.bt hX hbx)) (fun hHeld => ?_)
                    clear hK K hHeld
                    try simp only [Act.put, List.setIfInBounds_toArray, List.set_cons_zero, List.set_cons_succ]
                    replace hX := Aid.bt hX hbx
                    replace htx := htx.below hbx
                    replace hty := hty.below hbx
                    replace htz := htz.below hbx
                    replace htu1 := htu1.below hbx
                    replace htu2 := htu2.below hbx
                    replace htu3 := htu3.below hbx
                    replace kA := Aid.blk hbx kA
                    clear hbx
                    clear wd4
                    refine wpAnyH_ready (rs := [11]) (by kernel_rfl) (by simp) ?_
                    refine AllReadyH.cons (o := ⟨_, _, _, _, _, _⟩) rfl (fun K hK => ?_) ?_
                    · -- 11
                      go_simp
                      have hbx := Aid.b1 wd5 (.cells #[.slice none 0 0] 27)
                      have kB := heap_alloc_new wd5 (.cells #[.slice none 0 0] 27)
                      have gB0 := hX.size
                      refine hK.out _ _ (HQ.out _ (Aid.bt hX hbx)) (fun hHeld => ?_)
                      clear hK K hHeld
                      try simp only [Act.put, List.setIfInBounds_toArray, List.set_cons_zero, List.set_cons_succ]
                      have hne : gA ≠ wd5.heap.size := Nat.ne_of_lt (Aid.blk_lt kA)
                      replace hX := Aid.bt hX hbx
                      replace htx := htx.below hbx
                      replace hty := hty.below hbx
                      replace htz := htz.below hbx
                      replace htu1 := htu1.below hbx
                      replace htu2 := htu2.below hbx
                      replace htu3 := htu3.below hbx
                      replace htu4 := htu4.below hbx
                      replace kA := Aid.blk hbx kA
                      clear hbx
                      generalize wd5.alloc (.cells #[.slice none 0 0] 27) = wd6 at *
                      generalize wd5.heap.size = gB at *
                      try clear wd5
                      refine wpAnyH_ready (rs := [12]) (by kernel_rfl) (by simp) ?_
                      refine AllReadyH.cons (o := ⟨_, _, _, _, _, _⟩) rfl (fun K hK => ?_) ?_
                      · -- 12
                        obtain ⟨z0, z1⟩ := Aid.one kA
                        go_simp
                        have hX2 : Below w11.heap.size w11 (wd6.setCell ⟨gA, 0, none⟩ (.slice au2 vu2.length cu2)) := hX.setCell gA0 _
                        refine hK.out _ _ (HQ.out _ hX2) (fun hHeld => ?_)
                        clear hK K hHeld
                        try simp only [Act.put, List.setIfInBounds_toArray, List.set_cons_zero, List.set_cons_succ]
                        replace hX := hX2
                        replace htu2 := htu2.set (u := .slice au2 vu2.length cu2) (j := 0) ⟨_, _, kA⟩ (by decide) (by decide) (by decide)
                        replace htu4 := htu4.set (u := .slice au2 vu2.length cu2) (j := 0) ⟨_, _, kA⟩ (by decide) (by decide) (by decide)
                        replace kB := Aid.set_far (u := .slice au2 vu2.length cu2) kB (hne)
                        replace kA := Aid.set_same (u := .slice au2 vu2.length cu2) kA
                        clear hX2 z0 z1
                        generalize wd6.setCell ⟨gA, 0, none⟩ (.slice au2 vu2.length cu2) = wd7 at *
                        try clear wd6
                        refine wpAnyH_ready (rs := [13]) (by kernel_rfl) (by simp) ?_
                        refine AllReadyH.cons (o := ⟨_, _, _, _, _, _⟩) rfl (fun K hK => ?_) ?_
                        · -- 13
                          obtain ⟨z0, z1⟩ := Aid.one kB
                          go_simp
                          have hX2 : Below w11.heap.size w11 (wd7.setCell ⟨gB, 0, none⟩ (.slice au4 vu4.length cu4)) := hX.setCell gB0 _
                          refine hK.out _ _ (HQ.out _ hX2) (fun hHeld => ?_)
                          clear hK K hHeld
                          try simp only [Act.put, List.setIfInBounds_toArray, List.set_cons_zero, List.set_cons_succ]
                          replace hX := hX2
                          replace htu2 := htu2.set (u := .slice au4 vu4.length cu4) (j := 0) ⟨_, _, kB⟩ (by decide) (by decide) (by decide)
                          replace htu4 := htu4.set (u := .slice au4 vu4.length cu4) (j := 0) ⟨_, _, kB⟩ (by decide) (by decide) (by decide)
                          replace kA := Aid.set_far (u := .slice au4 vu4.length cu4) kA (hne.symm)
                          replace kB := Aid.set_same (u := .slice au4 vu4.length cu4) kB
                          clear hX2 z0 z1
                          generalize wd7.setCell ⟨gB, 0, none⟩ (.slice au4 vu4.length cu4) = wd8 at *
                          try clear wd7
                          refine wpAnyH_done (by kernel_rfl) ?_ _
                          go_wp2_with fail
                          go_meet
                          exact ⟨gA, gB, au2, au4, cu2, cu4, vu2, vu4, rfl, rfl, (Aid.one kA).1, (Aid.one kB).1, htu2, htu4, hX⟩
                        exact AllReadyH.nil
                      exact AllReadyH.nil
                    exact AllReadyH.nil
                  refine AllReadyH.cons (o := ⟨_, _, _, _, _, _⟩) rfl (fun K hK => ?_) ?_
                  · -- 11
                    go_simp
                    have hbx := Aid.b1 wd4 (.cells #[.slice none 0 0] 27)
                    have kB := heap_alloc_new wd4 (.cells #[.slice none 0 0] 27)
                    have gB0 := hX.size
                    refine hK.out _ _ (HQ.out _ (Aid.bt hX hbx)) (fun hHeld => ?_)
                    clear hK K hHeld
                    try simp only [Act.put, List.setIfInBounds_toArray, List.set_cons_zero, List.set_cons_succ]
                    have hne : gA ≠ wd4.heap.size := Nat.ne_of_lt (Aid.blk_lt kA)
                    replace hX := Aid.bt hX hbx
                    replace htx := htx.below hbx
                    replace hty := hty.below hbx
                    replace htz := htz.below hbx
                    replace htu1 := htu1.below hbx
                    replace htu2 := htu2.below hbx
                    replace htu3 := htu3.below hbx
                    replace kA := Aid.blk hbx kA
                    clear hbx
                    generalize wd4.alloc (.cells #[.slice none 0 0] 27) = wd5 at *
                    generalize wd4.heap.size = gB at *
                    try clear wd4
                    refine wpAnyH_ready (rs := [9]) (by kernel_rfl) (by simp) ?_
                    refine AllReadyH.cons (o := ⟨_, _, _, _, _, _⟩) rfl (fun K hK => ?_) ?_
                    · -- 9
                      go_simp
                      refine (Tryd.t_Over2 (k := 3) _ htu3 htz nu3 nC (by decide) (by decide) (by omega) HE).mono ?_
                      rintro e wd6 ⟨au4, cu4, vu4, rfl, nu4, htu4, hbx⟩
                      go_wp2_with fail
                      refine hK.out _ _ (HQ.out _ (Aid.bt hX hbx)) (fun hHeld => ?_)
                      clear hK K hHeld
                      try simp only [Act.put, List.setIfInBounds_toArray, List.set_cons_zero, List.set_cons_succ]
                      replace hX := Aid.bt hX hbx
                      replace htx := htx.below hbx
                      replace hty := hty.below hbx
                      replace htz := htz.below hbx
                      replace htu1 := htu1.below hbx
                      replace htu2 := htu2.below hbx
                      replace htu3 := htu3.below hbx
                      replace kA := Aid.blk hbx kA
                      replace kB := Aid.blk hbx kB
                      clear hbx
                      clear wd5
                      refine wpAnyH_ready (rs := [12]) (by kernel_rfl) (by simp) ?_
                      refine AllReadyH.cons (o := ⟨_, _, _, _, _, _⟩) rfl (fun K hK => ?_) ?_
                      · -- 12
                        obtain ⟨z0, z1⟩ := Aid.one kA
                        go_simp
                        have hX2 : Below w11.heap.size w11 (wd6.setCell ⟨gA, 0, none⟩ (.slice au2 vu2.length cu2)) := hX.setCell gA0 _
                        refine hK.out _ _ (HQ.out _ hX2) (fun hHeld => ?_)
                        clear hK K hHeld
                        try simp only [Act.put, List.setIfInBounds_toArray, List.set_cons_zero, List.set_cons_succ]
                        replace hX := hX2
                        replace htu2 := htu2.set (u := .slice au2 vu2.length cu2) (j := 0) ⟨_, _, kA⟩ (by decide) (by decide) (by decide)
                        replace htu4 := htu4.set (u := .slice au2 vu2.length cu2) (j := 0) ⟨_, _, kA⟩ (by decide) (by decide) (by decide)
                        replace kB := Aid.set_far (u := .slice au2 vu2.length cu2) kB (hne)
                        replace kA := Aid.set_same (u := .slice au2 vu2.length cu2) kA
                        clear hX2 z0 z1
                        generalize wd6.setCell ⟨gA, 0, none⟩ (.slice au2 vu2.length cu2) = wd7 at *
                        try clear wd6
                        refine wpAnyH_ready (rs := [13]) (by kernel_rfl) (by simp) ?_
                        refine AllReadyH.cons (o := ⟨_, _, _, _, _, _⟩) rfl (fun K hK => ?_) ?_
                        · -- 13
                          obtain ⟨z0, z1⟩ := Aid.one kB
                          go_simp
                          have hX2 : Below w11.heap.size w11 (wd7.setCell ⟨gB, 0, none⟩ (.slice au4 vu4.length cu4)) := hX.setCell gB0 _
                          refine hK.out _ _ (HQ.out _ hX2) (fun hHeld => ?_)
                          clear hK K hHeld
                          try simp only [Act.put, List.setIfInBounds_toArray, List.set_cons_zero, List.set_cons_succ]
                          replace hX := hX2
                          replace htu2 := htu2.set (u := .slice au4 vu4.length cu4) (j := 0) ⟨_, _, kB⟩ (by decide) (by decide) (by decide)
                          replace htu4 := htu4.set (u := .slice au4 vu4.length cu4) (j := 0) ⟨_, _, kB⟩ (by decide) (by decide) (by decide)
                          replace kA := Aid.set_far (u := .slice au4 vu4.length cu4) kA (hne.symm)
                          replace kB := Aid.set_same (u := .slice au4 vu4.length cu4) kB
                          clear hX2 z0 z1
                          generalize wd7.setCell ⟨gB, 0, none⟩ (.slice au4 vu4.length cu4) = wd8 at *
                          try clear wd7
                          refine wpAnyH_done (by kernel_rfl) ?_ _
                          go_wp2_with fail
                          go_meet
                          exact ⟨gA, gB, au2, au4, cu2, cu4, vu2, vu4, rfl, rfl, (Aid.one kA).1, (Aid.one kB).1, htu2, htu4, hX⟩
                        exact AllReadyH.nil
                      exact AllReadyH.nil
                    exact AllReadyH.nil
                  exact AllReadyH.nil
                refine AllReadyH.cons (o := ⟨_, _, _, _, _, _⟩) rfl (fun K hK => ?_) ?_
                · -- 11
                  go_simp
                  have hbx := Aid.b1 wd3 (.cells #[.slice none 0 0] 27)
                  have kB := heap_alloc_new wd3 (.cells #[.slice none 0 0] 27)
                  have gB0 := hX.size
                  refine hK.out _ _ (HQ.out _ (Aid.bt hX hbx)) (fun hHeld => ?_)
                  clear hK K hHeld
                  try simp only [Act.put, List.setIfInBounds_toArray, List.set_cons_zero, List.set_cons_succ]
                  replace hX := Aid.bt hX hbx
                  replace htx := htx.below hbx
                  replace hty := hty.below hbx
                  replace htz := htz.below hbx
                  replace htu1 := htu1.below hbx
                  replace htu2 := htu2.below hbx
                  replace htu3 := htu3.below hbx
                  clear hbx
                  generalize wd3.alloc (.cells #[.slice none 0 0] 27) = wd4 at *
                  generalize wd3.heap.size = gB at *
                  try clear wd3
                  refine wpAnyH_ready (rs := [9, 10]) (by kernel_rfl) (by simp) ?_
                  refine AllReadyH.cons (o := ⟨_, _, _, _, _, _⟩) rfl (fun K hK => ?_) ?_
                  · -- 9
                    go_simp
                    refine (Tryd.t_Over2 (k := 3) _ htu3 htz nu3 nC (by decide) (by decide) (by omega) HE).mono ?_
                    rintro e wd5 ⟨au4, cu4, vu4, rfl, nu4, htu4, hbx⟩
                    go_wp2_with fail
                    refine hK.out _ _ (HQ.out _ (Aid.bt hX hbx)) (fun hHeld => ?_)
                    clear hK K hHeld
                    try simp only [Act.put, List.setIfInBounds_toArray, List.set_cons_zero, List.set_cons_succ]
                    replace hX := Aid.bt hX hbx
                    replace htx := htx.below hbx
                    replace hty := hty.below hbx
                    replace htz := htz.below hbx
                    replace htu1 := htu1.below hbx
                    replace htu2 := htu2.below hbx
                    replace htu3 := htu3.below hbx
                    replace kB := Aid.blk hbx kB
                    clear hbx
                    clear wd4
                    refine wpAnyH_ready (rs := [10]) (by kernel_rfl) (by simp) ?_
                    refine AllReadyH.cons (o := ⟨_, _, _, _, _, _⟩) rfl (fun K hK => ?_) ?_
                    · -- 10
                      go_simp
                      have hbx := Aid.b1 wd5 (.cells #[.slice none 0 0] 27)
                      have kA := heap_alloc_new wd5 (.cells #[.slice none 0 0] 27)
                      have gA0 := hX.size
                      refine hK.out _ _ (HQ.out _ (Aid.bt hX hbx)) (fun hHeld => ?_)
                      clear hK K hHeld
                      try simp only [Act.put, List.setIfInBounds_toArray, List.set_cons_zero, List.set_cons_succ]
                      have hne : gB ≠ wd5.heap.size := Nat.ne_of_lt (Aid.blk_lt kB)
                      replace hX := Aid.bt hX hbx
                      replace htx := htx.below hbx
                      replace hty := hty.below hbx
                      replace htz := htz.below hbx
                      replace htu1 := htu1.below hbx
                      replace htu2 := htu2.below hbx
                      replace htu3 := htu3.below hbx
                      replace htu4 := htu4.below hbx
                      replace kB := Aid.blk hbx kB
                      clear hbx
                      generalize wd5.alloc (.cells #[.slice none 0 0] 27) = wd6 at *
                      generalize wd5.heap.size = gA at *
                      try clear wd5
                      refine wpAnyH_ready (rs := [12]) (by kernel_rfl) (by simp) ?_
                      refine AllReadyH.cons (o := ⟨_, _, _, _, _, _⟩) rfl (fun K hK => ?_) ?_
                      · -- 12
                        obtain ⟨z0, z1⟩ := Aid.one kA
                        go_simp
                        have hX2 : Below w11.heap.size w11 (wd6.setCell ⟨gA, 0, none⟩ (.slice au2 vu2.length cu2)) := hX.setCell gA0 _
                        refine hK.out _ _ (HQ.out _ hX2) (fun hHeld => ?_)
                        clear hK K hHeld
                        try simp only [Act.put, List.setIfInBounds_toArray, List.set_cons_zero, List.set_cons_succ]
                        replace hX := hX2
                        replace htu2 := htu2.set (u := .slice au2 vu2.length cu2) (j := 0) ⟨_, _, kA⟩ (by decide) (by decide) (by decide)
                        replace htu4 := htu4.set (u := .slice au2 vu2.length cu2) (j := 0) ⟨_, _, kA⟩ (by decide) (by decide) (by decide)
                        replace kB := Aid.set_far (u := .slice au2 vu2.length cu2) kB (hne.symm)
                        replace kA := Aid.set_same (u := .slice au2 vu2.length cu2) kA
                        clear hX2 z0 z1
                        generalize wd6.setCell ⟨gA, 0, none⟩ (.slice au2 vu2.length cu2) = wd7 at *
                        try clear wd6
                        refine wpAnyH_ready (rs := [13]) (by kernel_rfl) (by simp) ?_
                        refine AllReadyH.cons (o := ⟨_, _, _, _, _, _⟩) rfl (fun K hK => ?_) ?_
                        · -- 13
                          obtain ⟨z0, z1⟩ := Aid.one kB
                          go_simp
                          have hX2 : Below w11.heap.size w11 (wd7.setCell ⟨gB, 0, none⟩ (.slice au4 vu4.length cu4)) := hX.setCell gB0 _
                          refine hK.out _ _ (HQ.out _ hX2) (fun hHeld => ?_)
                          clear hK K hHeld
                          try simp only [Act.put, List.setIfInBounds_toArray, List.set_cons_zero, List.set_cons_succ]
                          replace hX := hX2
                          replace htu2 := htu2.set (u := .slice au4 vu4.length cu4) (j := 0) ⟨_, _, kB⟩ (by decide) (by decide) (by decide)
                          replace htu4 := htu4.set (u := .slice au4 vu4.length cu4) (j := 0) ⟨_, _, kB⟩ (by decide) (by decide) (by decide)
                          replace kA := Aid.set_far (u := .slice au4 vu4.length cu4) kA (hne)
                          replace kB := Aid.set_same (u := .slice au4 vu4.length cu4) kB
                          clear hX2 z0 z1
                          generalize wd7.setCell ⟨gB, 0, none⟩ (.slice au4 vu4.length cu4) = wd8 at *
                          try clear wd7
                          refine wpAnyH_done (by kernel_rfl) ?_ _
                          go_wp2_with fail
                          go_meet
                          exact ⟨gA, gB, au2, au4, cu2, cu4, vu2, vu4, rfl, rfl, (Aid.one kA).1, (Aid.one kB).1, htu2, htu4, hX⟩
                        exact AllReadyH.nil
                      exact AllReadyH.nil
                    exact AllReadyH.nil
                  refine AllReadyH.cons (o := ⟨_, _, _, _, _, _⟩) rfl (fun K hK => ?_) ?_
                  · -- 10
                    go_simp
                    have hbx := Aid.b1 wd4 (.cells #[.slice none 0 0] 27)
                    have kA := heap_alloc_new wd4 (.cells #[.slice none 0 0] 27)
                    have gA0 := hX.size
                    refine hK.out _ _ (HQ.out _ (Aid.bt hX hbx)) (fun hHeld => ?_)
                    clear hK K hHeld
                    try simp only [Act.put, List.setIfInBounds_toArray, List.set_cons_zero, List.set_cons_succ]
                    have hne : gB ≠ wd4.heap.size := Nat.ne_of_lt (Aid.blk_lt kB)
                    replace hX := Aid.bt hX hbx
                    replace htx := htx.below hbx
                    replace hty := hty.below hbx
                    replace htz := htz.below hbx
                    replace htu1 := htu1.below hbx
                    replace htu2 := htu2.below hbx
                    replace htu3 := htu3.below hbx
                    replace kB := Aid.blk hbx kB
                    clear hbx
                    generalize wd4.alloc (.cells #[.slice none 0 0] 27) = wd5 at *
                    generalize wd4.heap.size = gA at *
                    try clear wd4
                    refine wpAnyH_ready (rs := [9]) (by kernel_rfl) (by simp) ?_
                    refine AllReadyH.cons (o := ⟨_, _, _, _, _, _⟩) rfl (fun K hK => ?_) ?_
                    · -- 9
                      go_simp
                      refine (Tryd.t_Over2 (k := 3) _ htu3 htz nu3 nC (by decide) (by decide) (by omega) HE).mono ?_
                      rintro e wd6 ⟨au4, cu4, vu4, rfl, nu4, htu4, hbx⟩
                      go_wp2_with fail
                      refine hK.out _ _ (HQ.out _ (Aid.bt hX hbx)) (fun hHeld => ?_)
                      clear hK K hHeld
                      try simp only [Act.put, List.setIfInBounds_toArray, List.set_cons_zero, List.set_cons_succ]
                      replace hX := Aid.bt hX hbx
                      replace htx := htx.below hbx
                      replace hty := hty.below hbx
                      replace htz := htz.below hbx
                      replace htu1 := htu1.below hbx
                      replace htu2 := htu2.below hbx
                      replace htu3 := htu3.below hbx
                      replace kB := Aid.blk hbx kB
                      replace kA := Aid.blk hbx kA
                      clear hbx
                      clear wd5
                      refine wpAnyH_ready (rs := [12]) (by kernel_rfl) (by simp) ?_
                      refine AllReadyH.cons (o := ⟨_, _, _, _, _, _⟩) rfl (fun K hK => ?_) ?_
                      · -- 12
                        obtain ⟨z0, z1⟩ := Aid.one kA
                        go_simp
                        have hX2 : Below w11.heap.size w11 (wd6.setCell ⟨gA, 0, none⟩ (.slice au2 vu2.length cu2)) := hX.setCell gA0 _
                        refine hK.out _ _ (HQ.out _ hX2) (fun hHeld => ?_)
                        clear hK K hHeld
                        try simp only [Act.put, List.setIfInBounds_toArray, List.set_cons_zero, List.set_cons_succ]
                        replace hX := hX2
                        replace htu2 := htu2.set (u := .slice au2 vu2.length cu2) (j := 0) ⟨_, _, kA⟩ (by decide) (by decide) (by decide)
                        replace htu4 := htu4.set (u := .slice au2 vu2.length cu2) (j := 0) ⟨_, _, kA⟩ (by decide) (by decide) (by decide)
                        replace kB := Aid.set_far (u := .slice au2 vu2.length cu2) kB (hne.symm)
                        replace kA := Aid.set_same (u := .slice au2 vu2.length cu2) kA
                        clear hX2 z0 z1
                        generalize wd6.setCell ⟨gA, 0, none⟩ (.slice au2 vu2.length cu2) = wd7 at *
                        try clear wd6
                        refine wpAnyH_ready (rs := [13]) (by kernel_rfl) (by simp) ?_
                        refine AllReadyH.cons (o := ⟨_, _, _, _, _, _⟩) rfl (fun K hK => ?_) ?_
                        · -- 13
                          obtain ⟨z0, z1⟩ := Aid.one kB
                          go_simp
                          have hX2 : Below w11.heap.size w11 (wd7.setCell ⟨gB, 0, none⟩ (.slice au4 vu4.length cu4)) := hX.setCell gB0 _
                          refine hK.out _ _ (HQ.out _ hX2) (fun hHeld => ?_)
                          clear hK K hHeld
                          try simp only [Act.put, List.setIfInBounds_toArray, List.set_cons_zero, List.set_cons_succ]
                          replace hX := hX2
                          replace htu2 := htu2.set (u := .slice au4 vu4.length cu4) (j := 0) ⟨_, _, kB⟩ (by decide) (by decide) (by decide)
                          replace htu4 := htu4.set (u := .slice au4 vu4.length cu4) (j := 0) ⟨_, _, kB⟩ (by decide) (by decide) (by decide)
                          replace kA := Aid.set_far (u := .slice au4 vu4.length cu4) kA (hne)
                          replace kB := Aid.set_same (u := .slice au4 vu4.length cu4) kB
                          clear hX2 z0 z1
                          generalize wd7.setCell ⟨gB, 0, none⟩ (.slice au4 vu4.length cu4) = wd8 at *
                          try clear wd7
                          refine wpAnyH_done (by kernel_rfl) ?_ _
                          go_wp2_with fail
                          go_meet
                          exact ⟨gA, gB, au2, au4, cu2, cu4, vu2, vu4, rfl, rfl, (Aid.one kA).1, (Aid.one kB).1, htu2, htu4, hX⟩
                        exact AllReadyH.nil
                      exact AllReadyH.nil
                    exact AllReadyH.nil
                  exact AllReadyH.nil
                exact AllReadyH.nil
              refine AllReadyH.cons (o := ⟨_, _, _, _, _, _⟩) rfl (fun K hK => ?_) ?_
              · -- 10
                go_simp
                have hbx := Aid.b1 wd2 (.cells #[.slice none 0 0] 27)
                have kA := heap_alloc_new wd2 (.cells #[.slice none 0 0] 27)
                have gA0 := hX.size
                refine hK.out _ _ (HQ.out _ (Aid.bt hX hbx)) (fun hHeld => ?_)
                clear hK K hHeld
                try simp only [Act.put, List.setIfInBounds_toArray, List.set_cons_zero, List.set_cons_succ]
                replace hX := Aid.bt hX hbx
                replace htx := htx.below hbx
                replace hty := hty.below hbx
                replace htz := htz.below hbx
                replace htu1 := htu1.below hbx
                replace htu2 := htu2.below hbx
                clear hbx
                generalize wd2.alloc (.cells #[.slice none 0 0] 27) = wd3 at *
                generalize wd2.heap.size = gA at *
                try clear wd2
                refine wpAnyH_ready (rs := [7, 11]) (by kernel_rfl) (by simp) ?_
                refine AllReadyH.cons (o := ⟨_, _, _, _, _, _⟩) rfl (fun K hK => ?_) ?_
                · -- 7
                  go_simp
                  refine (Tryd.t_Over2 (k := 2) _ htx hty nA nB (by decide) (by decide) (by omega) HAB).mono ?_
                  rintro e wd4 ⟨au3, cu3, vu3, rfl, nu3, htu3, hbx⟩
                  go_wp2_with fail
                  refine hK.out _ _ (HQ.out _ (Aid.bt hX hbx)) (fun hHeld => ?_)
                  clear hK K hHeld
                  try simp only [Act.put, List.setIfInBounds_toArray, List.set_cons_zero, List.set_cons_succ]
                  replace hX := Aid.bt hX hbx
                  replace htx := htx.below hbx
                  replace hty := hty.below hbx
                  replace htz := htz.below hbx
                  replace htu1 := htu1.below hbx
                  replace htu2 := htu2.below hbx
                  replace kA := Aid.blk hbx kA
                  clear hbx
                  clear wd3
                  refine wpAnyH_ready (rs := [9, 11]) (by kernel_rfl) (by simp) ?_
                  refine AllReadyH.cons (o := ⟨_, _, _, _, _, _⟩) rfl (fun K hK => ?_) ?_
                  · -- 9
                    go_simp
                    refine (Tryd.t_Over2 (k := 3) _ htu3 htz nu3 nC (by decide) (by decide) (by omega) HE).mono ?_
                    rintro e wd5 ⟨au4, cu4, vu4, rfl, nu4, htu4, hbx⟩
                    go_wp2_with fail
                    refine hK.out _ _ (HQ.out _ (Aid.bt hX hbx)) (fun hHeld => ?_)
                    clear hK K hHeld
                    try simp only [Act.put, List.setIfInBounds_toArray, List.set_cons_zero, List.set_cons_succ]
                    replace hX := Aid.bt hX hbx
                    replace htx := htx.below hbx
                    replace hty := hty.below hbx
                    replace htz := htz.below hbx
                    replace htu1 := htu1.below hbx
                    replace htu2 := htu2.below hbx
                    replace htu3 := htu3.below hbx
                    replace kA := Aid.blk hbx kA
                    clear hbx
                    clear wd4
                    refine wpAnyH_ready (rs := [11]) (by kernel_rfl) (by simp) ?_
                    refine AllReadyH.cons (o := ⟨_, _, _, _, _, _⟩) rfl (fun K hK => ?_) ?_
                    · -- 11
                      go_simp
                      have hbx := Aid.b1 wd5 (.cells #[.slice none 0 0] 27)
                      have kB := heap_alloc_new wd5 (.cells #[.slice none 0 0] 27)
                      have gB0 := hX.size
                      refine hK.out _ _ (HQ.out _ (Aid.bt hX hbx)) (fun hHeld => ?_)
                      clear hK K hHeld
                      try simp only [Act.put, List.setIfInBounds_toArray, List.set_cons_zero, List.set_cons_succ]
                      have hne : gA ≠ wd5.heap.size := Nat.ne_of_lt (Aid.blk_lt kA)
                      replace hX := Aid.bt hX hbx
                      replace htx := htx.below hbx
                      replace hty := hty.below hbx
                      replace htz := htz.below hbx
                      replace htu1 := htu1.below hbx
                      replace htu2 := htu2.below hbx
                      replace htu3 := htu3.below hbx
                      replace htu4 := htu4.below hbx
                      replace kA := Aid.blk hbx kA
                      clear hbx
                      generalize wd5.alloc (.cells #[.slice none 0 0] 27) = wd6 at *
                      generalize wd5.heap.size = gB at *
                      try clear wd5
                      refine wpAnyH_ready (rs := [12]) (by kernel_rfl) (by simp) ?_
                      refine AllReadyH.cons (o := ⟨_, _, _, _, _, _⟩) rfl (fun K hK => ?_) ?_
                      · -- 12
                        obtain ⟨z0, z1⟩ := Aid.one kA
                        go_simp
                        have hX2 : Below w11.heap.size w11 (wd6.setCell ⟨gA, 0, none⟩ (.slice au2 vu2.length cu2)) := hX.setCell gA0 _
                        refine hK.out _ _ (HQ.out _ hX2) (fun hHeld => ?_)
                        clear hK K hHeld
                        try simp only [Act.put, List.setIfInBounds_toArray, List.set_cons_zero, List.set_cons_succ]
                        replace hX := hX2
                        replace htu2 := htu2.set (u := .slice au2 vu2.length cu2) (j := 0) ⟨_, _, kA⟩ (by decide) (by decide) (by decide)
                        replace htu4 := htu4.set (u := .slice au2 vu2.length cu2) (j := 0) ⟨_, _, kA⟩ (by decide) (by decide) (by decide)
                        replace kB := Aid.set_far (u := .slice au2 vu2.length cu2) kB (hne)
                        replace kA := Aid.set_same (u := .slice au2 vu2.length cu2) kA
                        clear hX2 z0 z1
                        generalize wd6.setCell ⟨gA, 0, none⟩ (.slice au2 vu2.length cu2) = wd7 at *
                        try clear wd6
                        refine wpAnyH_ready (rs := [13]) (by kernel_rfl) (by simp) ?_
                        refine AllReadyH.cons (o := ⟨_, _, _, _, _, _⟩) rfl (fun K hK => ?_) ?_
                        · -- 13
                          obtain ⟨z0, z1⟩ := Aid.one kB
                          go_simp
                          have hX2 : Below w11.heap.size w11 (wd7.setCell ⟨gB, 0, none⟩ (.slice au4 vu4.length cu4)) := hX.setCell gB0 _
                          refine hK.out _ _ (HQ.out _ hX2) (fun hHeld => ?_)
                          clear hK K hHeld
                          try simp only [Act.put, List.setIfInBounds_toArray, List.set_cons_zero, List.set_cons_succ]
                          replace hX := hX2
                          replace htu2 := htu2.set (u := .slice au4 vu4.length cu4) (j := 0) ⟨_, _, kB⟩ (by decide) (by decide) (by decide)
                          replace htu4 := htu4.set (u := .slice au4 vu4.length cu4) (j := 0) ⟨_, _, kB⟩ (by decide) (by decide) (by decide)
                          replace kA := Aid.set_far (u := .slice au4 vu4.length cu4) kA (hne.symm)
                          replace kB := Aid.set_same (u := .slice au4 vu4.length cu4) kB
                          clear hX2 z0 z1
                          generalize wd7.setCell ⟨gB, 0, none⟩ (.slice au4 vu4.length cu4) = wd8 at *
                          try clear wd7
                          refine wpAnyH_done (by kernel_rfl) ?_ _
                          go_wp2_with fail
                          go_meet
                          exact ⟨gA, gB, au2, au4, cu2, cu4, vu2, vu4, rfl, rfl, (Aid.one kA).1, (Aid.one kB).1, htu2, htu4, hX⟩
                        exact AllReadyH.nil
                      exact AllReadyH.nil
                    exact AllReadyH.nil
                  refine AllReadyH.cons (o := ⟨_, _, _, _, _, _⟩) rfl (fun K hK => ?_) ?_
                  · -- 11
                    go_simp
                    have hbx := Aid.b1 wd4 (.cells #[.slice none 0 0] 27)
                    have kB := heap_alloc_new wd4 (.cells #[.slice none 0 0] 27)
                    have gB0 := hX.size
                    refine hK.out _ _ (HQ.out _ (Aid.bt hX hbx)) (fun hHeld => ?_)
                    clear hK K hHeld
                    try simp only [Act.put, List.setIfInBounds_toArray, List.set_cons_zero, List.set_cons_succ]
                    have hne : gA ≠ wd4.heap.size := Nat.ne_of_lt (Aid.blk_lt kA)
                    replace hX := Aid.bt hX hbx
                    replace htx := htx.below hbx
                    replace hty := hty.below hbx
                    replace htz := htz.below hbx
                    replace htu1 := htu1.below hbx
                    replace htu2 := htu2.below hbx
                    replace htu3 := htu3.below hbx
                    replace kA := Aid.blk hbx kA
                    clear hbx
                    generalize wd4.alloc (.cells #[.slice none 0 0] 27) = wd5 at *
                    generalize wd4.heap.size = gB at *
                    try clear wd4
                    refine wpAnyH_ready (rs := [9]) (by kernel_rfl) (by simp) ?_
                    refine AllReadyH.cons (o := ⟨_, _, _, _, _, _⟩) rfl (fun K hK => ?_) ?_
                    · -- 9
                      go_simp
                      refine (Tryd.t_Over2 (k := 3) _ htu3 htz nu3 nC (by decide) (by decide) (by omega) HE).mono ?_
                      rintro e wd6 ⟨au4, cu4, vu4, rfl, nu4, htu4, hbx⟩
                      go_wp2_with fail
                      refine hK.out _ _ (HQ.out _ (Aid.bt hX hbx)) (fun hHeld => ?_)
                      clear hK K hHeld
                      try simp only [Act.put, List.setIfInBounds_toArray, List.set_cons_zero, List.set_cons_succ]
                      replace hX := Aid.bt hX hbx
                      replace htx := htx.below hbx
                      replace hty := hty.below hbx
                      replace htz := htz.below hbx
                      replace htu1 := htu1.below hbx
                      replace htu2 := htu2.below hbx
                      replace htu3 := htu3.below hbx
                      replace kA := Aid.blk hbx kA
                      replace kB := Aid.blk hbx kB
                      clear hbx
                      clear wd5
                      refine wpAnyH_ready (rs := [12]) (by kernel_rfl) (by simp) ?_
                      refine AllReadyH.cons (o := ⟨_, _, _, _, _, _⟩) rfl (fun K hK => ?_) ?_
                      · -- 12
                        obtain ⟨z0, z1⟩ := Aid.one kA
                        go_simp
                        have hX2 : Below w11.heap.size w11 (wd6.setCell ⟨gA, 0, none⟩ (.slice au2 vu2.length cu2)) := hX.setCell gA0 _
                        refine hK.out _ _ (HQ.out _ hX2) (fun hHeld => ?_)
                        clear hK K hHeld
                        try simp only [Act.put, List.setIfInBounds_toArray, List.set_cons_zero, List.set_cons_succ]
                        replace hX := hX2
                        replace htu2 := htu2.set (u := .slice au2 vu2.length cu2) (j := 0) ⟨_, _, kA⟩ (by decide) (by decide) (by decide)
                        replace htu4 := htu4.set (u := .slice au2 vu2.length cu2) (j := 0) ⟨_, _, kA⟩ (by decide) (by decide) (by decide)
                        replace kB := Aid.set_far (u := .slice au2 vu2.length cu2) kB (hne)
                        replace kA := Aid.set_same (u := .slice au2 vu2.length cu2) kA
                        clear hX2 z0 z1
                        generalize wd6.setCell ⟨gA, 0, none⟩ (.slice au2 vu2.length cu2) = wd7 at *
                        try clear wd6
                        refine wpAnyH_ready (rs := [13]) (by kernel_rfl) (by simp) ?_
                        refine AllReadyH.cons (o := ⟨_, _, _, _, _, _⟩) rfl (fun K hK => ?_) ?_
                        · -- 13
                          obtain ⟨z0, z1⟩ := Aid.one kB
                          go_simp
                          have hX2 : Below w11.heap.size w11 (wd7.setCell ⟨gB, 0, none⟩ (.slice au4 vu4.length cu4)) := hX.setCell gB0 _
                          refine hK.out _ _ (HQ.out _ hX2) (fun hHeld => ?_)
                          clear hK K hHeld
                          try simp only [Act.put, List.setIfInBounds_toArray, List.set_cons_zero, List.set_cons_succ]
                          replace hX := hX2
                          replace htu2 := htu2.set (u := .slice au4 vu4.length cu4) (j := 0) ⟨_, _, kB⟩ (by decide) (by decide) (by decide)
                          replace htu4 := htu4.set (u := .slice au4 vu4.length cu4) (j := 0) ⟨_, _, kB⟩ (by decide) (by decide) (by decide)
                          replace kA := Aid.set_far (u := .slice au4 vu4.length cu4) kA (hne.symm)
                          replace kB := Aid.set_same (u := .slice au4 vu4.length cu4) kB
                          clear hX2 z0 z1
                          generalize wd7.setCell ⟨gB, 0, none⟩ (.slice au4 vu4.length cu4) = wd8 at *
                          try clear wd7
                          refine wpAnyH_done (by kernel_rfl) ?_ _
                          go_wp2_with fail
                          go_meet
                          exact ⟨gA, gB, au2, au4, cu2, cu4, vu2, vu4, rfl, rfl, (Aid.one kA).1, (Aid.one kB).1, htu2, htu4, hX⟩
                        exact AllReadyH.nil
                      exact AllReadyH.nil
                    exact AllReadyH.nil
                  exact AllReadyH.nil
                refine AllReadyH.cons (o := ⟨_, _, _, _, _, _⟩) rfl (fun K hK => ?_) ?_
                · -- 11
                  go_simp
                  have hbx := Aid.b1 wd3 (.cells #[.slice none 0 0] 27)
                  have kB := heap_alloc_new wd3 (.cells #[.slice none 0 0] 27)
                  have gB0 := hX.size
                  refine hK.out _ _ (HQ.out _ (Aid.bt hX hbx)) (fun hHeld => ?_)
                  clear hK K hHeld
                  try simp only [Act.put, List.setIfInBounds_toArray, List.set_cons_zero, List.set_cons_succ]
                  have hne : gA ≠ wd3.heap.size := Nat.ne_of_lt (Aid.blk_lt kA)
                  replace hX := Aid.bt hX hbx
                  replace htx := htx.below hbx
                  replace hty := hty.below hbx
                  replace htz := htz.below hbx
                  replace htu1 := htu1.below hbx
                  replace htu2 := htu2.below hbx
                  replace kA := Aid.blk hbx kA
                  clear hbx
                  generalize wd3.alloc (.cells #[.slice none 0 0] 27) = wd4 at *
                  generalize wd3.heap.size = gB at *
                  try clear wd3
                  refine wpAnyH_ready (rs := [7]) (by kernel_rfl) (by simp) ?_
                  refine AllReadyH.cons (o := ⟨_, _, _, _, _, _⟩) rfl (fun K hK => ?_) ?_
                  · -- 7
                    go_simp
                    refine (Tryd.t_Over2 (k := 2) _ htx hty nA nB (by decide) (by decide) (by omega) HAB).mono ?_
                    rintro e wd5 ⟨au3, cu3, vu3, rfl, nu3, htu3, hbx⟩
                    go_wp2_with fail
                    refine hK.out _ _ (HQ.out _ (Aid.bt hX hbx)) (fun hHeld => ?_)
                    clear hK K hHeld
                    try simp only [Act.put, List.setIfInBounds_toArray, List.set_cons_zero, List.set_cons_succ]
                    replace hX := Aid.bt hX hbx
                    replace htx := htx.below hbx
                    replace hty := hty.below hbx
                    replace htz := htz.below hbx
                    replace htu1 := htu1.below hbx
                    replace htu2 := htu2.below hbx
                    replace kA := Aid.blk hbx kA
                    replace kB := Aid.blk hbx kB
                    clear hbx
                    clear wd4
                    refine wpAnyH_ready (rs := [9]) (by kernel_rfl) (by simp) ?_
                    refine AllReadyH.cons (o := ⟨_, _, _, _, _, _⟩) rfl (fun K hK => ?_) ?_
                    · -- 9
                      go_simp
                      refine (Tryd.t_Over2 (k := 3) _ htu3 htz nu3 nC (by decide) (by decide) (by omega) HE).mono ?_
                      rintro e wd6 ⟨au4, cu4, vu4, rfl, nu4, htu4, hbx⟩
                      go_wp2_with fail
                      refine hK.out _ _ (HQ.out _ (Aid.bt hX hbx)) (fun hHeld => ?_)
                      clear hK K hHeld
                      try simp only [Act.put, List.setIfInBounds_toArray, List.set_cons_zero, List.set_cons_succ]
                      replace hX := Aid.bt hX hbx
                      replace htx := htx.below hbx
                      replace hty := hty.below hbx
                      replace htz := htz.below hbx
                      replace htu1 := htu1.below hbx
                      replace htu2 := htu2.below hbx
                      replace htu3 := htu3.below hbx
                      replace kA := Aid.blk hbx kA
                      replace kB := Aid.blk hbx kB
                      clear hbx
                      clear wd5
                      refine wpAnyH_ready (rs := [12]) (by kernel_rfl) (by simp) ?_
                      refine AllReadyH.cons (o := ⟨_, _, _, _, _, _⟩) rfl (fun K hK => ?_) ?_
                      · -- 12
                        obtain ⟨z0, z1⟩ := Aid.one kA
                        go_simp
                        have hX2 : Below w11.heap.size w11 (wd6.setCell ⟨gA, 0, none⟩ (.slice au2 vu2.length cu2)) := hX.setCell gA0 _
                        refine hK.out _ _ (HQ.out _ hX2) (fun hHeld => ?_)
                        clear hK K hHeld
                        try simp only [Act.put, List.setIfInBounds_toArray, List.set_cons_zero, List.set_cons_succ]
                        replace hX := hX2
                        replace htu2 := htu2.set (u := .slice au2 vu2.length cu2) (j := 0) ⟨_, _, kA⟩ (by decide) (by decide) (by decide)
                        replace htu4 := htu4.set (u := .slice au2 vu2.length cu2) (j := 0) ⟨_, _, kA⟩ (by decide) (by decide) (by decide)
                        replace kB := Aid.set_far (u := .slice au2 vu2.length cu2) kB (hne)
                        replace kA := Aid.set_same (u := .slice au2 vu2.length cu2) kA
                        clear hX2 z0 z1
                        generalize wd6.setCell ⟨gA, 0, none⟩ (.slice au2 vu2.length cu2) = wd7 at *
                        try clear wd6
                        refine wpAnyH_ready (rs := [13]) (by kernel_rfl) (by simp) ?_
                        refine AllReadyH.cons (o := ⟨_, _, _, _, _, _⟩) rfl (fun K hK => ?_) ?_
                        · -- 13
                          obtain ⟨z0, z1⟩ := Aid.one kB
                          go_simp
                          have hX2 : Below w11.heap.size w11 (wd7.setCell ⟨gB, 0, none⟩ (.slice au4 vu4.length cu4)) := hX.setCell gB0 _
                          refine hK.out _ _ (HQ.out _ hX2) (fun hHeld => ?_)
                          clear hK K hHeld
                          try simp only [Act.put, List.setIfInBounds_toArray, List.set_cons_zero, List.set_cons_succ]
                          replace hX := hX2
                          replace htu2 := htu2.set (u := .slice au4 vu4.length cu4) (j := 0) ⟨_, _, kB⟩ (by decide) (by decide) (by decide)
                          replace htu4 := htu4.set (u := .slice au4 vu4.length cu4) (j := 0) ⟨_, _, kB⟩ (by decide) (by decide) (by decide)
                          replace kA := Aid.set_far (u := .slice au4 vu4.length cu4) kA (hne.symm)
                          replace kB := Aid.set_same (u := .slice au4 vu4.length cu4) kB
                          clear hX2 z0 z1
                          generalize wd7.setCell ⟨gB, 0, none⟩ (.slice au4 vu4.length cu4) = wd8 at *
                          try clear wd7
                          refine wpAnyH_done (by kernel_rfl) ?_ _
                          go_wp2_with fail
                          go_meet
                          exact ⟨gA, gB, au2, au4, cu2, cu4, vu2, vu4, rfl, rfl, (Aid.one kA).1, (Aid.one kB).1, htu2, htu4, hX⟩
                        exact AllReadyH.nil
                      exact AllReadyH.nil
                    exact AllReadyH.nil
                  exact AllReadyH.nil
                exact AllReadyH.nil
              refine AllReadyH.cons (o := ⟨_, _, _, _, _, _⟩) rfl (fun K hK => ?_) ?_
              · -- 11
                go_simp
                have hbx := Aid.b1 wd2 (.cells #[.slice none 0 0] 27)
                have kB := heap_alloc_new wd2 (.cells #[.slice none 0 0] 27)
                have gB0 := hX.size
                refine hK.out _ _ (HQ.out _ (Aid.bt hX hbx)) (fun hHeld => ?_)
                clear hK K hHeld
                try simp only [Act.put, List.setIfInBounds_toArray, List.set_cons_zero, List.set_cons_succ]
                replace hX := Aid.bt hX hbx
                replace htx := htx.below hbx
                replace hty := hty.below hbx
                replace htz := htz.below hbx
                replace htu1 := htu1.below hbx
                replace htu2 := htu2.below hbx
                clear hbx
                generalize wd2.alloc (.cells #[.slice none 0 0] 27) = wd3 at *
                generalize wd2.heap.size = gB at *
                try clear wd2
                refine wpAnyH_ready (rs := [7, 10]) (by kernel_rfl) (by simp) ?_
                refine AllReadyH.cons (o := ⟨_, _, _, _, _, _⟩) rfl (fun K hK => ?_) ?_
                · -- 7
                  go_simp
                  refine (Tryd.t_Over2 (k := 2) _ htx hty nA nB (by decide) (by decide) (by omega) HAB).mono ?_
                  rintro e wd4 ⟨au3, cu3, vu3, rfl, nu3, htu3, hbx⟩
                  go_wp2_with fail
                  refine hK.out _ _ (HQ.out _ (Aid.bt hX hbx)) (fun hHeld => ?_)
                  clear hK K hHeld
                  try simp only [Act.put, List.setIfInBounds_toArray, List.set_cons_zero, List.set_cons_succ]
                  replace hX := Aid.bt hX hbx
                  replace htx := htx.below hbx
                  replace hty := hty.below hbx
                  replace htz := htz.below hbx
                  replace htu1 := htu1.below hbx
                  replace htu2 := htu2.below hbx
                  replace kB := Aid.blk hbx kB
                  clear hbx
                  clear wd3
                  refine wpAnyH_ready (rs := [9, 10]) (by kernel_rfl) (by simp) ?_
                  refine AllReadyH.cons (o := ⟨_, _, _, _, _, _⟩) rfl (fun K hK => ?_) ?_
                  · -- 9
                    go_simp
                    refine (Tryd.t_Over2 (k := 3) _ htu3 htz nu3 nC (by decide) (by decide) (by omega) HE).mono ?_
                    rintro e wd5 ⟨au4, cu4, vu4, rfl, nu4, htu4, hbx⟩
                    go_wp2_with fail
                    refine hK.out _ _ (HQ.out _ (Aid.bt hX hbx)) (fun hHeld => ?_)
                    clear hK K hHeld
                    try simp only [Act.put, List.setIfInBounds_toArray, List.set_cons_zero, List.set_cons_succ]
                    replace hX := Aid.bt hX hbx
                    replace htx := htx.below hbx
                    replace hty := hty.below hbx
                    replace htz := htz.below hbx
                    replace htu1 := htu1.below hbx
                    replace htu2 := htu2.below hbx
                    replace htu3 := htu3.below hbx
                    replace kB := Aid.blk hbx kB
                    clear hbx
                    clear wd4
                    refine wpAnyH_ready (rs := [10]) (by kernel_rfl) (by simp) ?_
                    refine AllReadyH.cons (o := ⟨_, _, _, _, _, _⟩) rfl (fun K hK => ?_) ?_
                    · -- 10
                      go_simp
                      have hbx := Aid.b1 wd5 (.cells #[.slice none 0 0] 27)
                      have kA := heap_alloc_new wd5 (.cells #[.slice none 0 0] 27)
                      have gA0 := hX.size
                      refine hK.out _ _ (HQ.out _ (Aid.bt hX hbx)) (fun hHeld => ?_)
                      clear hK K hHeld
                      try simp only [Act.put, List.setIfInBounds_toArray, List.set_cons_zero, List.set_cons_succ]
                      have hne : gB ≠ wd5.heap.size := Nat.ne_of_lt (Aid.blk_lt kB)
                      replace hX := Aid.bt hX hbx
                      replace htx := htx.below hbx
                      replace hty := hty.below hbx
                      replace htz := htz.below hbx
                      replace htu1 := htu1.below hbx
                      replace htu2 := htu2.below hbx
                      replace htu3 := htu3.below hbx
                      replace htu4 := htu4.below hbx
                      replace kB := Aid.blk hbx kB
                      clear hbx
                      generalize wd5.alloc (.cells #[.slice none 0 0] 27) = wd6 at *
                      generalize wd5.heap.size = gA at *
                      try clear wd5
                      refine wpAnyH_ready (rs := [12]) (by kernel_rfl) (by simp) ?_
                      refine AllReadyH.cons (o := ⟨_, _, _, _, _, _⟩) rfl (fun K hK => ?_) ?_
                      · -- 12
                        obtain ⟨z0, z1⟩ := Aid.one kA
                        go_simp
                        have hX2 : Below w11.heap.size w11 (wd6.setCell ⟨gA, 0, none⟩ (.slice au2 vu2.length cu2)) := hX.setCell gA0 _
                        refine hK.out _ _ (HQ.out _ hX2) (fun hHeld => ?_)
                        clear hK K hHeld
                        try simp only [Act.put, List.setIfInBounds_toArray, List.set_cons_zero, List.set_cons_succ]
                        replace hX := hX2
                        replace htu2 := htu2.set (u := .slice au2 vu2.length cu2) (j := 0) ⟨_, _, kA⟩ (by decide) (by decide) (by decide)
                        replace htu4 := htu4.set (u := .slice au2 vu2.length cu2) (j := 0) ⟨_, _, kA⟩ (by decide) (by decide) (by decide)
                        replace kB := Aid.set_far (u := .slice au2 vu2.length cu2) kB (hne.symm)
                        replace kA := Aid.set_same (u := .slice au2 vu2.length cu2) kA
                        clear hX2 z0 z1
                        generalize wd6.setCell ⟨gA, 0, none⟩ (.slice au2 vu2.length cu2) = wd7 at *
                        try clear wd6
                        refine wpAnyH_ready (rs := [13]) (by kernel_rfl) (by simp) ?_
                        refine AllReadyH.cons (o := ⟨_, _, _, _, _, _⟩) rfl (fun K hK => ?_) ?_
                        · -- 13
                          obtain ⟨z0, z1⟩ := Aid.one kB
                          go_simp
                          have hX2 : Below w11.heap.size w11 (wd7.setCell ⟨gB, 0, none⟩ (.slice au4 vu4.length cu4)) := hX.setCell gB0 _
                          refine hK.out _ _ (HQ.out _ hX2) (fun hHeld => ?_)
                          clear hK K hHeld
                          try simp only [Act.put, List.setIfInBounds_toArray, List.set_cons_zero, List.set_cons_succ]
                          replace hX := hX2
                          replace htu2 := htu2.set (u := .slice au4 vu4.length cu4) (j := 0) ⟨_, _, kB⟩ (by decide) (by decide) (by decide)
                          replace htu4 := htu4.set (u := .slice au4 vu4.length cu4) (j := 0) ⟨_, _, kB⟩ (by decide) (by decide) (by decide)
                          replace kA := Aid.set_far (u := .slice au4 vu4.length cu4) kA (hne)
                          replace kB := Aid.set_same (u := .slice au4 vu4.length cu4) kB
                          clear hX2 z0 z1
                          generalize wd7.setCell ⟨gB, 0, none⟩ (.slice au4 vu4.length cu4) = wd8 at *
                          try clear wd7
                          refine wpAnyH_done (by kernel_rfl) ?_ _
                          go_wp2_with fail
                          go_meet
                          exact ⟨gA, gB, au2, au4, cu2, cu4, vu2, vu4, rfl, rfl, (Aid.one kA).1, (Aid.one kB).1, htu2, htu4, hX⟩
                        exact AllReadyH.nil
                      exact AllReadyH.nil
                    exact AllReadyH.nil
                  refine AllReadyH.cons (o := ⟨_, _, _, _, _, _⟩) rfl (fun K hK => ?_) ?_
                  · -- 10
                    go_simp
                    have hbx := Aid.b1 wd4 (.cells #[.slice none 0 0] 27)
                    have kA := heap_alloc_new wd4 (.cells #[.slice none 0 0] 27)
                    have gA0 := hX.size
                    refine hK.out _ _ (HQ.out _ (Aid.bt hX hbx)) (fun hHeld => ?_)
                    clear hK K hHeld
                    try simp only [Act.put, List.setIfInBounds_toArray, List.set_cons_zero, List.set_cons_succ]
                    have hne : gB ≠ wd4.heap.size := Nat.ne_of_lt (Aid.blk_lt kB)
                    replace hX := Aid.bt hX hbx
                    replace htx := htx.below hbx
                    replace hty := hty.below hbx
                    replace htz := htz.below hbx
                    replace htu1 := htu1.below hbx
                    replace htu2 := htu2.below hbx
                    replace htu3 := htu3.below hbx
                    replace kB := Aid.blk hbx kB
                    clear hbx
                    generalize wd4.alloc (.cells #[.slice none 0 0] 27) = wd5 at *
                    generalize wd4.heap.size = gA at *
                    try clear wd4
                    refine wpAnyH_ready (rs := [9]) (by kernel_rfl) (by simp) ?_
                    refine AllReadyH.cons (o := ⟨_, _, _, _, _, _⟩) rfl (fun K hK => ?_) ?_
                    · -- 9
                      go_simp
                      refine (Tryd.t_Over2 (k := 3) _ htu3 htz nu3 nC (by decide) (by decide) (by omega) HE).mono ?_
                      rintro e wd6 ⟨au4, cu4, vu4, rfl, nu4, htu4, hbx⟩
                      go_wp2_with fail
                      refine hK.out _ _ (HQ.out _ (Aid.bt hX hbx)) (fun hHeld => ?_)
                      clear hK K hHeld
                      try simp only [Act.put, List.setIfInBounds_toArray, List.set_cons_zero, List.set_cons_succ]
                      replace hX := Aid.bt hX hbx
                      replace htx := htx.below hbx
                      replace hty := hty.below hbx
                      replace htz := htz.below hbx
                      replace htu1 := htu1.below hbx
                      replace htu2 := htu2.below hbx
                      replace htu3 := htu3.below hbx
                      replace kB := Aid.blk hbx kB
                      replace kA := Aid.blk hbx kA
                      clear hbx
                      clear wd5
                      refine wpAnyH_ready (rs := [12]) (by kernel_rfl) (by simp) ?_
                      refine AllReadyH.cons (o := ⟨_, _, _, _, _, _⟩) rfl (fun K hK => ?_) ?_
                      · -- 12
                        obtain ⟨z0, z1⟩ := Aid.one kA
                        go_simp
                        have hX2 : Below w11.heap.size w11 (wd6.setCell ⟨gA, 0, none⟩ (.slice au2 vu2.length cu2)) := hX.setCell gA0 _
                        refine hK.out _ _ (HQ.out _ hX2) (fun hHeld => ?_)
                        clear hK K hHeld
                        try simp only [Act.put, List.setIfInBounds_toArray, List.set_cons_zero, List.set_cons_succ]
                        replace hX := hX2
                        replace htu2 := htu2.set (u := .slice au2 vu2.length cu2) (j := 0) ⟨_, _, kA⟩ (by decide) (by decide) (by decide)
                        replace htu4 := htu4.set (u := .slice au2 vu2.length cu2) (j := 0) ⟨_, _, kA⟩ (by decide) (by decide) (by decide)
                        replace kB := Aid.set_far (u := .slice au2 vu2.length cu2) kB (hne.symm)
                        replace kA := Aid.set_same (u := .slice au2 vu2.length cu2) kA
                        clear hX2 z0 z1
                        generalize wd6.setCell ⟨gA, 0, none⟩ (.slice au2 vu2.length cu2) = wd7 at *
                        try clear wd6
                        refine wpAnyH_ready (rs := [13]) (by kernel_rfl) (by simp) ?_
                        refine AllReadyH.cons (o := ⟨_, _, _, _, _, _⟩) rfl (fun K hK => ?_) ?_
                        · -- 13
                          obtain ⟨z0, z1⟩ := Aid.one kB
                          go_simp
                          have hX2 : Below w11.heap.size w11 (wd7.setCell ⟨gB, 0, none⟩ (.slice au4 vu4.length cu4)) := hX.setCell gB0 _
                          refine hK.out _ _ (HQ.out _ hX2) (fun hHeld => ?_)
                          clear hK K hHeld
                          try simp only [Act.put, List.setIfInBounds_toArray, List.set_cons_zero, List.set_cons_succ]
                          replace hX := hX2
                          replace htu2 := htu2.set (u := .slice au4 vu4.length cu4) (j := 0) ⟨_, _, kB⟩ (by decide) (by decide) (by decide)
                          replace htu4 := htu4.set (u := .slice au4 vu4.length cu4) (j := 0) ⟨_, _, kB⟩ (by decide) (by decide) (by decide)
                          replace kA := Aid.set_far (u := .slice au4 vu4.length cu4) kA (hne)
                          replace kB := Aid.set_same (u := .slice au4 vu4.length cu4) kB
                          clear hX2 z0 z1
                          generalize wd7.setCell ⟨gB, 0, none⟩ (.slice au4 vu4.length cu4) = wd8 at *
                          try clear wd7
                          refine wpAnyH_done (by kernel_rfl) ?_ _
                          go_wp2_with fail
                          go_meet
                          exact ⟨gA, gB, au2, au4, cu2, cu4, vu2, vu4, rfl, rfl, (Aid.one kA).1, (Aid.one kB).1, htu2, htu4, hX⟩
                        exact AllReadyH.nil
                      exact AllReadyH.nil
                    exact AllReadyH.nil
                  exact AllReadyH.nil
                refine AllReadyH.cons (o := ⟨_, _, _, _, _, _⟩) rfl (fun K hK => ?_) ?_
                · -- 10
                  go_simp
                  have hbx := Aid.b1 wd3 (.cells #[.slice none 0 0] 27)
                  have kA := heap_alloc_new wd3 (.cells #[.slice none 0 0] 27)
                  have gA0 := hX.size
                  refine hK.out _ _ (HQ.out _ (Aid.bt hX hbx)) (fun hHeld => ?_)
                  clear hK K hHeld
                  try simp only [Act.put, List.setIfInBounds_toArray, List.set_cons_zero, List.set_cons_succ]
                  have hne : gB ≠ wd3.heap.size := Nat.ne_of_lt (Aid.blk_lt kB)
                  replace hX := Aid.bt hX hbx
                  replace htx := htx.below hbx
                  replace hty := hty.below hbx
                  replace htz := htz.below hbx
                  replace htu1 := htu1.below hbx
                  replace htu2 := htu2.below hbx
                  replace kB := Aid.blk hbx kB
                  clear hbx
                  generalize wd3.alloc (.cells #[.slice none 0 0] 27) = wd4 at *
                  generalize wd3.heap.size = gA at *
                  try clear wd3
                  refine wpAnyH_ready (rs := [7]) (by kernel_rfl) (by simp) ?_
                  refine AllReadyH.cons (o := ⟨_, _, _, _, _, _⟩) rfl (fun K hK => ?_) ?_
                  · -- 7
                    go_simp
                    refine (Tryd.t_Over2 (k := 2) _ htx hty nA nB (by decide) (by decide) (by omega) HAB).mono ?_
                    rintro e wd5 ⟨au3, cu3, vu3, rfl, nu3, htu3, hbx⟩
                    go_wp2_with fail
                    refine hK.out _ _ (HQ.out _ (Aid.bt hX hbx)) (fun hHeld => ?_)
                    clear hK K hHeld
                    try simp only [Act.put, List.setIfInBounds_toArray, List.set_cons_zero, List.set_cons_succ]
                    replace hX := Aid.bt hX hbx
                    replace htx := htx.below hbx
                    replace hty := hty.below hbx
                    replace htz := htz.below hbx
                    replace htu1 := htu1.below hbx
                    replace htu2 := htu2.below hbx
                    replace kB := Aid.blk hbx kB
                    replace kA := Aid.blk hbx kA
                    clear hbx
                    clear wd4
                    refine wpAnyH_ready (rs := [9]) (by kernel_rfl) (by simp) ?_
                    refine AllReadyH.cons (o := ⟨_, _, _, _, _, _⟩) rfl (fun K hK => ?_) ?_
                    · -- 9
                      go_simp
                      refine (Tryd.t_Over2 (k := 3) _ htu3 htz nu3 nC (by decide) (by decide) (by omega) HE).mono ?_
                      rintro e wd6 ⟨au4, cu4, vu4, rfl, nu4, htu4, hbx⟩
                      go_wp2_with fail
                      refine hK.out _ _ (HQ.out _ (Aid.bt hX hbx)) (fun hHeld => ?_)
                      clear hK K hHeld
                      try simp only [Act.put, List.setIfInBounds_toArray, List.set_cons_zero, List.set_cons_succ]
                      replace hX := Aid.bt hX hbx
                      replace htx := htx.below hbx
                      replace hty := hty.below hbx
                      replace htz := htz.below hbx
                      replace htu1 := htu1.below hbx
                      replace htu2 := htu2.below hbx
                      replace htu3 := htu3.below hbx
                      replace kB := Aid.blk hbx kB
                      replace kA := Aid.blk hbx kA
                      clear hbx
                      clear wd5
                      refine wpAnyH_ready (rs := [12]) (by kernel_rfl) (by simp) ?_
                      refine AllReadyH.cons (o := ⟨_, _, _, _, _, _⟩) rfl (fun K hK => ?_) ?_
                      · -- 12
                        obtain ⟨z0, z1⟩ := Aid.one kA
                        go_simp
                        have hX2 : Below w11.heap.size w11 (wd6.setCell ⟨gA, 0, none⟩ (.slice au2 vu2.length cu2)) := hX.setCell gA0 _
                        refine hK.out _ _ (HQ.out _ hX2) (fun hHeld => ?_)
                        clear hK K hHeld
                        try simp only [Act.put, List.setIfInBounds_toArray, List.set_cons_zero, List.set_cons_succ]
                        replace hX := hX2
                        replace htu2 := htu2.set (u := .slice au2 vu2.length cu2) (j := 0) ⟨_, _, kA⟩ (by decide) (by decide) (by decide)
                        replace htu4 := htu4.set (u := .slice au2 vu2.length cu2) (j := 0) ⟨_, _, kA⟩ (by decide) (by decide) (by decide)
                        replace kB := Aid.set_far (u := .slice au2 vu2.length cu2) kB (hne.symm)
                        replace kA := Aid.set_same (u := .slice au2 vu2.length cu2) kA
                        clear hX2 z0 z1
                        generalize wd6.setCell ⟨gA, 0, none⟩ (.slice au2 vu2.length cu2) = wd7 at *
                        try clear wd6
                        refine wpAnyH_ready (rs := [13]) (by kernel_rfl) (by simp) ?_
                        refine AllReadyH.cons (o := ⟨_, _, _, _, _, _⟩) rfl (fun K hK => ?_) ?_
                        · -- 13
                          obtain ⟨z0, z1⟩ := Aid.one kB
                          go_simp
                          have hX2 : Below w11.heap.size w11 (wd7.setCell ⟨gB, 0, none⟩ (.slice au4 vu4.length cu4)) := hX.setCell gB0 _
                          refine hK.out _ _ (HQ.out _ hX2) (fun hHeld => ?_)
                          clear hK K hHeld
                          try simp only [Act.put, List.setIfInBounds_toArray, List.set_cons_zero, List.set_cons_succ]
                          replace hX := hX2
                          replace htu2 := htu2.set (u := .slice au4 vu4.length cu4) (j := 0) ⟨_, _, kB⟩ (by decide) (by decide) (by decide)
                          replace htu4 := htu4.set (u := .slice au4 vu4.length cu4) (j := 0) ⟨_, _, kB⟩ (by decide) (by decide) (by decide)
                          replace kA := Aid.set_far (u := .slice au4 vu4.length cu4) kA (hne)
                          replace kB := Aid.set_same (u := .slice au4 vu4.length cu4) kB
                          clear hX2 z0 z1
                          generalize wd7.setCell ⟨gB, 0, none⟩ (.slice au4 vu4.length cu4) = wd8 at *
                          try clear wd7
                          refine wpAnyH_done (by kernel_rfl) ?_ _
                          go_wp2_with fail
                          go_meet
                          exact ⟨gA, gB, au2, au4, cu2, cu4, vu2, vu4, rfl, rfl, (Aid.one kA).1, (Aid.one kB).1, htu2, htu4, hX⟩
                        exact AllReadyH.nil
                      exact AllReadyH.nil
                    exact AllReadyH.nil
                  exact AllReadyH.nil
                exact AllReadyH.nil
              exact AllReadyH.nil
            refine AllReadyH.cons (o := ⟨_, _, _, _, _, _⟩) rfl (fun K hK => ?_) ?_
            · -- 10
              go_simp
              have hbx := Aid.b1 wd1 (.cells #[.slice none 0 0] 27)
              have kA := heap_alloc_new wd1 (.cells #[.slice none 0 0] 27)
              have gA0 := hX.size
              refine hK.out _ _ (HQ.out _ (Aid.bt hX hbx)) (fun hHeld => ?_)
              clear hK K hHeld
              try simp only [Act.put, List.setIfInBounds_toArray, List.set_cons_zero, List.set_cons_succ]
              replace hX := Aid.bt hX hbx
              replace htx := htx.below hbx
              replace hty := hty.below hbx
              replace htz := htz.below hbx
              replace htu1 := htu1.below hbx
              clear hbx
              generalize wd1.alloc (.cells #[.slice none 0 0] 27) = wd2 at *
              generalize wd1.heap.size = gA at *
              try clear wd1
              refine wpAnyH_ready (rs := [4, 11]) (by kernel_rfl) (by simp) ?_
              refine AllReadyH.cons (o := ⟨_, _, _, _, _, _⟩) rfl (fun K hK => ?_) ?_
              · -- 4
                go_simp
                refine (Tryd.t_Over2 (k := 3) _ htx htu1 nA nu1 (by decide) (by decide) (by omega) HABC).mono ?_
                rintro e wd3 ⟨au2, cu2, vu2, rfl, nu2, htu2, hbx⟩
                go_wp2_with fail
                refine hK.out _ _ (HQ.out _ (Aid.bt hX hbx)) (fun hHeld => ?_)
                clear hK K hHeld
                try simp only [Act.put, List.setIfInBounds_toArray, List.set_cons_zero, List.set_cons_succ]
                replace hX := Aid.bt hX hbx
                replace htx := htx.below hbx
                replace hty := hty.below hbx
                replace htz := htz.below hbx
                replace htu1 := htu1.below hbx
                replace kA := Aid.blk hbx kA
                clear hbx
                clear wd2
                refine wpAnyH_ready (rs := [7, 11]) (by kernel_rfl) (by simp) ?_
                refine AllReadyH.cons (o := ⟨_, _, _, _, _, _⟩) rfl (fun K hK => ?_) ?_
                · -- 7
                  go_simp
                  refine (Tryd.t_Over2 (k := 2) _ htx hty nA nB (by decide) (by decide) (by omega) HAB).mono ?_
                  rintro e wd4 ⟨au3, cu3, vu3, rfl, nu3, htu3, hbx⟩
                  go_wp2_with fail
                  refine hK.out _ _ (HQ.out _ (Aid.bt hX hbx)) (fun hHeld => ?_)
                  clear hK K hHeld
                  try simp only [Act.put, List.setIfInBounds_toArray, List.set_cons_zero, List.set_cons_succ]
                  replace hX := Aid.bt hX hbx
                  replace htx := htx.below hbx
                  replace hty := hty.below hbx
                  replace htz := htz.below hbx
                  replace htu1 := htu1.below hbx
                  replace htu2 := htu2.below hbx
                  replace kA := Aid.blk hbx kA
                  clear hbx
                  clear wd3
                  refine wpAnyH_ready (rs := [9, 11]) (by kernel_rfl) (by simp) ?_
                  refine AllReadyH.cons (o := ⟨_, _, _, _, _, _⟩) rfl (fun K hK => ?_) ?_
                  · -- 9
                    go_simp
                    refine (Tryd.t_Over2 (k := 3) _ htu3 htz nu3 nC (by decide) (by decide) (by omega) HE).mono ?_
                    rintro e wd5 ⟨au4, cu4, vu4, rfl, nu4, htu4, hbx⟩
                    go_wp2_with fail
                    refine hK.out _ _ (HQ.out _ (Aid.bt hX hbx)) (fun hHeld => ?_)
                    clear hK K hHeld
                    try simp only [Act.put, List.setIfInBounds_toArray, List.set_cons_zero, List.set_cons_succ]
                    replace hX := Aid.bt hX hbx
                    replace htx := htx.below hbx
                    replace hty := hty.below hbx
                    replace htz := htz.below hbx
                    replace htu1 := htu1.below hbx
                    replace htu2 := htu2.below hbx
                    replace htu3 := htu3.below hbx
                    replace kA := Aid.blk hbx kA
                    clear hbx
                    clear wd4
                    refine wpAnyH_ready (rs := [11]) (by kernel_rfl) (by simp) ?_
                    refine AllReadyH.cons (o := ⟨_, _, _, _, _, _⟩) rfl (fun K hK => ?_) ?_
                    · -- 11
                      go_simp
                      have hbx := Aid.b1 wd5 (.cells #[.slice none 0 0] 27)
                      have kB := heap_alloc_new wd5 (.cells #[.slice none 0 0] 27)
                      have gB0 := hX.size
                      refine hK.out _ _ (HQ.out _ (Aid.bt hX hbx)) (fun hHeld => ?_)
                      clear hK K hHeld
                      try simp only [Act.put, List.setIfInBounds_toArray, List.set_cons_zero, List.set_cons_succ]
                      have hne : gA ≠ wd5.heap.size := Nat.ne_of_lt (Aid.blk_lt kA)
                      replace hX := Aid.bt hX hbx
                      replace htx := htx.below hbx
                      replace hty := hty.below hbx
                      replace htz := htz.below hbx
                      replace htu1 := htu1.below hbx
                      replace htu2 := htu2.below hbx
                      replace htu3 := htu3.below hbx
                      replace htu4 := htu4.below hbx
                      replace kA := Aid.blk hbx kA
                      clear hbx
                      generalize wd5.alloc (.cells #[.slice none 0 0] 27) = wd6 at *
                      generalize wd5.heap.size = gB at *
                      try clear wd5
                      refine wpAnyH_ready (rs := [12]) (by kernel_rfl) (by simp) ?_
                      refine AllReadyH.cons (o := ⟨_, _, _, _, _, _⟩) rfl (fun K hK => ?_) ?_
                      · -- 12
                        obtain ⟨z0, z1⟩ := Aid.one kA
                        go_simp
                        have hX2 : Below w11.heap.size w11 (wd6.setCell ⟨gA, 0, none⟩ (.slice au2 vu2.length cu2)) := hX.setCell gA0 _
                        refine hK.out _ _ (HQ.out _ hX2) (fun hHeld => ?_)
                        clear hK K hHeld
                        try simp only [Act.put, List.setIfInBounds_toArray, List.set_cons_zero, List.set_cons_succ]
                        replace hX := hX2
                        replace htu2 := htu2.set (u := .slice au2 vu2.length cu2) (j := 0) ⟨_, _, kA⟩ (by decide) (by decide) (by decide)
                        replace htu4 := htu4.set (u := .slice au2 vu2.length cu2) (j := 0) ⟨_, _, kA⟩ (by decide) (by decide) (by decide)
                        replace kB := Aid.set_far (u := .slice au2 vu2.length cu2) kB (hne)
                        replace kA := Aid.set_same (u := .slice au2 vu2.length cu2) kA
                        clear hX2 z0 z1
                        generalize wd6.setCell ⟨gA, 0, none⟩ (.slice au2 vu2.length cu2) = wd7 at *
                        try clear wd6
                        refine wpAnyH_ready (rs := [13]) (by kernel_rfl) (by simp) ?_
                        refine AllReadyH.cons (o := ⟨_, _, _, _, _, _⟩) rfl (fun K hK => ?_) ?_
                        · -- 13
                          obtain ⟨z0, z1⟩ := Aid.one kB
                          go_simp
                          have hX2 : Below w11.heap.size w11 (wd7.setCell ⟨gB, 0, none⟩ (.slice au4 vu4.length cu4)) := hX.setCell gB0 _
                          refine hK.out _ _ (HQ.out _ hX2) (fun hHeld => ?_)
                          clear hK K hHeld
                          try simp only [Act.put, List.setIfInBounds_toArray, List.set_cons_zero, List.set_cons_succ]
                          replace hX := hX2
                          replace htu2 := htu2.set (u := .slice au4 vu4.length cu4) (j := 0) ⟨_, _, kB⟩ (by decide) (by decide) (by decide)
                          replace htu4 := htu4.set (u := .slice au4 vu4.length cu4) (j := 0) ⟨_, _, kB⟩ (by decide) (by decide) (by decide)
                          replace kA := Aid.set_far (u := .slice au4 vu4.length cu4) kA (hne.symm)
                          replace kB := Aid.set_same (u := .slice au4 vu4.length cu4) kB
                          clear hX2 z0 z1
                          generalize wd7.setCell ⟨gB, 0, none⟩ (.slice au4 vu4.length cu4) = wd8 at *
                          try clear wd7
                          refine wpAnyH_done (by kernel_rfl) ?_ _
                          go_wp2_with fail
                          go_meet
                          exact ⟨gA, gB, au2, au4, cu2, cu4, vu2, vu4, rfl, rfl, (Aid.one kA).1, (Aid.one kB).1, htu2, htu4, hX⟩
                        exact AllReadyH.nil
                      exact AllReadyH.nil
                    exact AllReadyH.nil
                  refine AllReadyH.cons (o := ⟨_, _, _, _, _, _⟩) rfl (fun K hK => ?_) ?_
                  · -- 11
                    go_simp
                    have hbx := Aid.b1 wd4 (.cells #[.slice none 0 0] 27)
                    have kB := heap_alloc_new wd4 (.cells #[.slice none 0 0] 27)
                    have gB0 := hX.size
                    refine hK.out _ _ (HQ.out _ (Aid.bt hX hbx)) (fun hHeld => ?_)
                    clear hK K hHeld
                    try simp only [Act.put, List.setIfInBounds_toArray, List.set_cons_zero, List.set_cons_succ]
                    have hne : gA ≠ wd4.heap.size := Nat.ne_of_lt (Aid.blk_lt kA)
                    replace hX := Aid.bt hX hbx
                    replace htx := htx.below hbx
                    replace hty := hty.below hbx
                    replace htz := htz.below hbx
                    replace htu1 := htu1.below hbx
                    replace htu2 := htu2.below hbx
                    replace htu3 := htu3.below hbx
                    replace kA := Aid.blk hbx kA
                    clear hbx
                    generalize wd4.alloc (.cells #[.slice none 0 0] 27) = wd5 at *
                    generalize wd4.heap.size = gB at *
                    try clear wd4
                    refine wpAnyH_ready (rs := [9]) (by kernel_rfl) (by simp) ?_
                    refine AllReadyH.cons (o := ⟨_, _, _, _, _, _⟩) rfl (fun K hK => ?_) ?_
                    · -- 9
                      go_simp
                      refine (Tryd.t_Over2 (k := 3) _ htu3 htz nu3 nC (by decide) (by decide) (by omega) HE).mono ?_
                      rintro e wd6 ⟨au4, cu4, vu4, rfl, nu4, htu4, hbx⟩
                      go_wp2_with fail
                      refine hK.out _ _ (HQ.out _ (Aid.bt hX hbx)) (fun hHeld => ?_)
                      clear hK K hHeld
                      try simp only [Act.put, List.setIfInBounds_toArray, List.set_cons_zero, List.set_cons_succ]
                      replace hX := Aid.bt hX hbx
                      replace htx := htx.below hbx
                      replace hty := hty.below hbx
                      replace htz := htz.below hbx
                      replace htu1 := htu1.below hbx
                      replace htu2 := htu2.below hbx
                      replace htu3 := htu3.below hbx
                      replace kA := Aid.blk hbx kA
                      replace kB := Aid.blk hbx kB
                      clear hbx
                      clear wd5
                      refine wpAnyH_ready (rs := [12]) (by kernel_rfl) (by simp) ?_
                      refine AllReadyH.cons (o := ⟨_, _, _, _, _, _⟩) rfl (fun K hK => ?_) ?_
                      · -- 12
                        obtain ⟨z0, z1⟩ := Aid.one kA
                        go_simp
                        have hX2 : Below w11.heap.size w11 (wd6.setCell ⟨gA, 0, none⟩ (.slice au2 vu2.length cu2)) := hX.setCell gA0 _
                        refine hK.out _ _ (HQ.out _ hX2) (fun hHeld => ?_)
                        clear hK K hHeld
                        try simp only [Act.put, List.setIfInBounds_toArray, List.set_cons_zero, List.set_cons_succ]
                        replace hX := hX2
                        replace htu2 := htu2.set (u := .slice au2 vu2.length cu2) (j := 0) ⟨_, _, kA⟩ (by decide) (by decide) (by decide)
                        replace htu4 := htu4.set (u := .slice au2 vu2.length cu2) (j := 0) ⟨_, _, kA⟩ (by decide) (by decide) (by decide)
                        replace kB := Aid.set_far (u := .slice au2 vu2.length cu2) kB (hne)
                        replace kA := Aid.set_same (u := .slice au2 vu2.length cu2) kA
                        clear hX2 z0 z1
                        generalize wd6.setCell ⟨gA, 0, none⟩ (.slice au2 vu2.length cu2) = wd7 at *
                        try clear wd6
                        refine wpAnyH_ready (rs := [13]) (by kernel_rfl) (by simp) ?_
                        refine AllReadyH.cons (o := ⟨_, _, _, _, _, _⟩) rfl (fun K hK => ?_) ?_
                        · -- 13
                          obtain ⟨z0, z1⟩ := Aid.one kB
                          go_simp
                          have hX2 : Below w11.heap.size w11 (wd7.setCell ⟨gB, 0, none⟩ (.slice au4 vu4.length cu4)) := hX.setCell gB0 _
                          refine hK.out _ _ (HQ.out _ hX2) (fun hHeld => ?_)
                          clear hK K hHeld
                          try simp only [Act.put, List.setIfInBounds_toArray, List.set_cons_zero, List.set_cons_succ]
                          replace hX := hX2
                          replace htu2 := htu2.set (u := .slice au4 vu4.length cu4) (j := 0) ⟨_, _, kB⟩ (by decide) (by decide) (by decide)
                          replace htu4 := htu4.set (u := .slice au4 vu4.length cu4) (j := 0) ⟨_, _, kB⟩ (by decide) (by decide) (by decide)
                          replace kA := Aid.set_far (u := .slice au4 vu4.length cu4) kA (hne.symm)
                          replace kB := Aid.set_same (u := .slice au4 vu4.length cu4) kB
                          clear hX2 z0 z1
                          generalize wd7.setCell ⟨gB, 0, none⟩ (.slice au4 vu4.length cu4) = wd8 at *
                          try clear wd7
                          refine wpAnyH_done (by kernel_rfl) ?_ _
                          go_wp2_with fail
                          go_meet
                          exact ⟨gA, gB, au2, au4, cu2, cu4, vu2, vu4, rfl, rfl, (Aid.one kA).1, (Aid.one kB).1, htu2, htu4, hX⟩
                        exact AllReadyH.nil
                      exact AllReadyH.nil
                    exact AllReadyH.nil
                  exact AllReadyH.nil
                refine AllReadyH.cons (o := ⟨_, _, _, _, _, _⟩) rfl (fun K hK => ?_) ?_
                · -- 11
                  go_simp
                  have hbx := Aid.b1 wd3 (.cells #[.slice none 0 0] 27)
                  have kB := heap_alloc_new wd3 (.cells #[.slice none 0 0] 27)
                  have gB0 := hX.size
                  refine hK.out _ _ (HQ.out _ (Aid.bt hX hbx)) (fun hHeld => ?_)
                  clear hK K hHeld
                  try simp only [Act.put, List.setIfInBounds_toArray, List.set_cons_zero, List.set_cons_succ]
                  have hne : gA ≠ wd3.heap.size := Nat.ne_of_lt (Aid.blk_lt kA)
                  replace hX := Aid.bt hX hbx
                  replace htx := htx.below hbx
                  replace hty := hty.below hbx
                  replace htz := htz.below hbx
                  replace htu1 := htu1.below hbx
                  replace htu2 := htu2.below hbx
                  replace kA := Aid.blk hbx kA
                  clear hbx
                  generalize wd3.alloc (.cells #[.slice none 0 0] 27) = wd4 at *
                  generalize wd3.heap.size = gB at *
                  try clear wd3
                  refine wpAnyH_ready (rs := [7]) (by kernel_rfl) (by simp) ?_
                  refine AllReadyH.cons (o := ⟨_, _, _, _, _, _⟩) rfl (fun K hK => ?_) ?_
                  · -- 7
                    go_simp
                    refine (Tryd.t_Over2 (k := 2) _ htx hty nA nB (by decide) (by decide) (by omega) HAB).mono ?_
                    rintro e wd5 ⟨au3, cu3, vu3, rfl, nu3, htu3, hbx⟩
                    go_wp2_with fail
                    refine hK.out _ _ (HQ.out _ (Aid.bt hX hbx)) (fun hHeld => ?_)
                    clear hK K hHeld
                    try simp only [Act.put, List.setIfInBounds_toArray, List.set_cons_zero, List.set_cons_succ]
                    replace hX := Aid.bt hX hbx
                    replace htx := htx.below hbx
                    replace hty := hty.below hbx
                    replace htz := htz.below hbx
                    replace htu1 := htu1.below hbx
                    replace htu2 := htu2.below hbx
                    replace kA := Aid.blk hbx kA
                    replace kB := Aid.blk hbx kB
                    clear hbx
                    clear wd4
                    refine wpAnyH_ready (rs := [9]) (by kernel_rfl) (by simp) ?_
                    refine AllReadyH.cons (o := ⟨_, _, _, _, _, _⟩) rfl (fun K hK => ?_) ?_
                    · -- 9
                      go_simp
                      refine (Tryd.t_Over2 (k := 3) _ htu3 htz nu3 nC (by decide) (by decide) (by omega) HE).mono ?_
                      rintro e wd6 ⟨au4, cu4, vu4, rfl, nu4, htu4, hbx⟩
                      go_wp2_with fail
                      refine hK.out _ _ (HQ.out _ (Aid.bt hX hbx)) (fun hHeld => ?_)
                      clear hK K hHeld
                      try simp only [Act.put, List.setIfInBounds_toArray, List.set_cons_zero, List.set_cons_succ]
                      replace hX := Aid.bt hX hbx
                      replace htx := htx.below hbx
                      replace hty := hty.below hbx
                      replace htz := htz.below hbx
                      replace htu1 := htu1.below hbx
                      replace htu2 := htu2.below hbx
                      replace htu3 := htu3.below hbx
                      replace kA := Aid.blk hbx kA
                      replace kB := Aid.blk hbx kB
                      clear hbx
                      clear wd5
                      refine wpAnyH_ready (rs := [12]) (by kernel_rfl) (by simp) ?_
                      refine AllReadyH.cons (o := ⟨_, _, _, _, _, _⟩) rfl (fun K hK => ?_) ?_
                      · -- 12
                        obtain ⟨z0, z1⟩ := Aid.one kA
                        go_simp
                        have hX2 : Below w11.heap.size w11 (wd6.setCell ⟨gA, 0, none⟩ (.slice au2 vu2.length cu2)) := hX.setCell gA0 _
                        refine hK.out _ _ (HQ.out _ hX2) (fun hHeld => ?_)
                        clear hK K hHeld
                        try simp only [Act.put, List.setIfInBounds_toArray, List.set_cons_zero, List.set_cons_succ]
                        replace hX := hX2
                        replace htu2 := htu2.set (u := .slice au2 vu2.length cu2) (j := 0) ⟨_, _, kA⟩ (by decide) (by decide) (by decide)
                        replace htu4 := htu4.set (u := .slice au2 vu2.length cu2) (j := 0) ⟨_, _, kA⟩ (by decide) (by decide) (by decide)
                        replace kB := Aid.set_far (u := .slice au2 vu2.length cu2) kB (hne)
                        replace kA := Aid.set_same (u := .slice au2 vu2.length cu2) kA
                        clear hX2 z0 z1
                        generalize wd6.setCell ⟨gA, 0, none⟩ (.slice au2 vu2.length cu2) = wd7 at *
                        try clear wd6
                        refine wpAnyH_ready (rs := [13]) (by kernel_rfl) (by simp) ?_
                        refine AllReadyH.cons (o := ⟨_, _, _, _, _, _⟩) rfl (fun K hK => ?_) ?_
                        · -- 13
                          obtain ⟨z0, z1⟩ := Aid.one kB
                          go_simp
                          have hX2 : Below w11.heap.size w11 (wd7.setCell ⟨gB, 0, none⟩ (.slice au4 vu4.length cu4)) := hX.setCell gB0 _
                          refine hK.out _ _ (HQ.out _ hX2) (fun hHeld => ?_)
                          clear hK K hHeld
                          try simp only [Act.put, List.setIfInBounds_toArray, List.set_cons_zero, List.set_cons_succ]
                          replace hX := hX2
                          replace htu2 := htu2.set (u := .slice au4 vu4.length cu4) (j := 0) ⟨_, _, kB⟩ (by decide) (by decide) (by decide)
                          replace htu4 := htu4.set (u := .slice au4 vu4.length cu4) (j := 0) ⟨_, _, kB⟩ (by decide) (by decide) (by decide)
                          replace kA := Aid.set_far (u := .slice au4 vu4.length cu4) kA (hne.symm)
                          replace kB := Aid.set_same (u := .slice au4 vu4.length cu4) kB
                          clear hX2 z0 z1
                          generalize wd7.setCell ⟨gB, 0, none⟩ (.slice au4 vu4.length cu4) = wd8 at *
                          try clear wd7
                          refine wpAnyH_done (by kernel_rfl) ?_ _
                          go_wp2_with fail
                          go_meet
                          exact ⟨gA, gB, au2, au4, cu2, cu4, vu2, vu4, rfl, rfl, (Aid.one kA).1, (Aid.one kB).1, htu2, htu4, hX⟩
                        exact AllReadyH.nil
                      exact AllReadyH.nil
                    exact AllReadyH.nil
                  exact AllReadyH.nil
                exact AllReadyH.nil
              refine AllReadyH.cons (o := ⟨_, _, _, _, _, _⟩) rfl (fun K hK => ?_) ?_
              · -- 11
                go_simp
                have hbx := Aid.b1 wd2 (.cells #[.slice none 0 0] 27)
                have kB := heap_alloc_new wd2 (.cells #[.slice none 0 0] 27)
                have gB0 := hX.size
                refine hK.out _ _ (HQ.out _ (Aid.bt hX hbx)) (fun hHeld => ?_)
                clear hK K hHeld
                try simp only [Act.put, List.setIfInBounds_toArray, List.set_cons_zero, List.set_cons_succ]
                have hne : gA ≠ wd2.heap.size := Nat.ne_of_lt (Aid.blk_lt kA)
                replace hX := Aid.bt hX hbx
                replace htx := htx.below hbx
                replace hty := hty.below hbx
                replace htz := htz.below hbx
                replace htu1 := htu1.below hbx
                replace kA := Aid.blk hbx kA
                clear hbx
                generalize wd2.alloc (.cells #[.slice none 0 0] 27) = wd3 at *
                generalize wd2.heap.size = gB at *
                try clear wd2
                refine wpAnyH_ready (rs := [4]) (by kernel_rfl) (by simp) ?_
                refine AllReadyH.cons (o := ⟨_, _, _, _, _, _⟩) rfl (fun K hK => ?_) ?_
                · -- 4
                  go_simp
                  refine (Tryd.t_Over2 (k := 3) _ htx htu1 nA nu1 (by decide) (by decide) (by omega) HABC).mono ?_
                  rintro e wd4 ⟨au2, cu2, vu2, rfl, nu2, htu2, hbx⟩
                  go_wp2_with fail
                  refine hK.out _ _ (HQ.out _ (Aid.bt hX hbx)) (fun hHeld => ?_)
                  clear hK K hHeld
                  try simp only [Act.put, List.setIfInBounds_toArray, List.set_cons_zero, List.set_cons_succ]
                  replace hX := Aid.bt hX hbx
                  replace htx := htx.below hbx
                  replace hty := hty.below hbx
                  replace htz := htz.below hbx
                  replace htu1 := htu1.below hbx
                  replace kA := Aid.blk hbx kA
                  replace kB := Aid.blk hbx kB
                  clear hbx
                  clear wd3
                  refine wpAnyH_ready (rs := [7]) (by kernel_rfl) (by simp) ?_
                  refine AllReadyH.cons (o := ⟨_, _, _, _, _, _⟩) rfl (fun K hK => ?_) ?_
                  · -- 7
                    go_simp
                    refine (Tryd.t_Over2 (k := 2) _ htx hty nA nB (by decide) (by decide) (by omega) HAB).mono ?_
                    rintro e wd5 ⟨au3, cu3, vu3, rfl, nu3, htu3, hbx⟩
                    go_wp2_with fail
                    refine hK.out _ _ (HQ.out _ (Aid.bt hX hbx)) (fun hHeld => ?_)
                    clear hK K hHeld
                    try simp only [Act.put, List.setIfInBounds_toArray, List.set_cons_zero, List.set_cons_succ]
                    replace hX := Aid.bt hX hbx
                    replace htx := htx.below hbx
                    replace hty := hty.below hbx
                    replace htz := htz.below hbx
                    replace htu1 := htu1.below hbx
                    replace htu2 := htu2.below hbx
                    replace kA := Aid.blk hbx kA
                    replace kB := Aid.blk hbx kB
                    clear hbx
                    clear wd4
                    refine wpAnyH_ready (rs := [9]) (by kernel_rfl) (by simp) ?_
                    refine AllReadyH.cons (o := ⟨_, _, _, _, _, _⟩) rfl (fun K hK => ?_) ?_
                    · -- 9
                      go_simp
                      refine (Tryd.t_Over2 (k := 3) _ htu3 htz nu3 nC (by decide) (by decide) (by omega) HE).mono ?_
                      rintro e wd6 ⟨au4, cu4, vu4, rfl, nu4, htu4, hbx⟩
                      go_wp2_with fail
                      refine hK.out _ _ (HQ.out _ (Aid.bt hX hbx)) (fun hHeld => ?_)
                      clear hK K hHeld
                      try simp only [Act.put, List.setIfInBounds_toArray, List.set_cons_zero, List.set_cons_succ]
                      replace hX := Aid.bt hX hbx
                      replace htx := htx.below hbx
                      replace hty := hty.below hbx
                      replace htz := htz.below hbx
                      replace htu1 := htu1.below hbx
                      replace htu2 := htu2.below hbx
                      replace htu3 := htu3.below hbx
                      replace kA := Aid.blk hbx kA
                      replace kB := Aid.blk hbx kB
                      clear hbx
                      clear wd5
                      refine wpAnyH_ready (rs := [12]) (by kernel_rfl) (by simp) ?_
                      refine AllReadyH.cons (o := ⟨_, _, _, _, _, _⟩) rfl (fun K hK => ?_) ?_
                      · -- 12
                        obtain ⟨z0, z1⟩ := Aid.one kA
                        go_simp
                        have hX2 : Below w11.heap.size w11 (wd6.setCell ⟨gA, 0, none⟩ (.slice au2 vu2.length cu2)) := hX.setCell gA0 _
                        refine hK.out _ _ (HQ.out _ hX2) (fun hHeld => ?_)
                        clear hK K hHeld
                        try simp only [Act.put, List.setIfInBounds_toArray, List.set_cons_zero, List.set_cons_succ]
                        replace hX := hX2
                        replace htu2 := htu2.set (u := .slice au2 vu2.length cu2) (j := 0) ⟨_, _, kA⟩ (by decide) (by decide) (by decide)
                        replace htu4 := htu4.set (u := .slice au2 vu2.length cu2) (j := 0) ⟨_, _, kA⟩ (by decide) (by decide) (by decide)
                        replace kB := Aid.set_far (u := .slice au2 vu2.length cu2) kB (hne)
                        replace kA := Aid.set_same (u := .slice au2 vu2.length cu2) kA
                        clear hX2 z0 z1
                        generalize wd6.setCell ⟨gA, 0, none⟩ (.slice au2 vu2.length cu2) = wd7 at *
                        try clear wd6
                        refine wpAnyH_ready (rs := [13]) (by kernel_rfl) (by simp) ?_
                        refine AllReadyH.cons (o := ⟨_, _, _, _, _, _⟩) rfl (fun K hK => ?_) ?_
                        · -- 13
                          obtain ⟨z0, z1⟩ := Aid.one kB
                          go_simp
                          have hX2 : Below w11.heap.size w11 (wd7.setCell ⟨gB, 0, none⟩ (.slice au4 vu4.length cu4)) := hX.setCell gB0 _
                          refine hK.out _ _ (HQ.out _ hX2) (fun hHeld => ?_)
                          clear hK K hHeld
                          try simp only [Act.put, List.setIfInBounds_toArray, List.set_cons_zero, List.set_cons_succ]
                          replace hX := hX2
                          replace htu2 := htu2.set (u := .slice au4 vu4.length cu4) (j := 0) ⟨_, _, kB⟩ (by decide) (by decide) (by decide)
                          replace htu4 := htu4.set (u := .slice au4 vu4.length cu4) (j := 0) ⟨_, _, kB⟩ (by decide) (by decide) (by decide)
                          replace kA := Aid.set_far (u := .slice au4 vu4.length cu4) kA (hne.symm)
                          replace kB := Aid.set_same (u := .slice au4 vu4.length cu4) kB
                          clear hX2 z0 z1
                          generalize wd7.setCell ⟨gB, 0, none⟩ (.slice au4 vu4.length cu4) = wd8 at *
                          try clear wd7
                          refine wpAnyH_done (by kernel_rfl) ?_ _
                          go_wp2_with fail
                          go_meet
                          exact ⟨gA, gB, au2, au4, cu2, cu4, vu2, vu4, rfl, rfl, (Aid.one kA).1, (Aid.one kB).1, htu2, htu4, hX⟩
                        exact AllReadyH.nil
                      exact AllReadyH.nil
                    exact AllReadyH.nil
                  exact AllReadyH.nil
                exact AllReadyH.nil
              exact AllReadyH.nil
            refine AllReadyH.cons (o := ⟨_, _, _, _, _, _⟩) rfl (fun K hK => ?_) ?_
            · -- 11
              go_simp
              have hbx := Aid.b1 wd1 (.cells #[.slice none 0 0] 27)
              have kB := heap_alloc_new wd1 (.cells #[.slice none 0 0] 27)
              have gB0 := hX.size
              refine hK.out _ _ (HQ.out _ (Aid.bt hX hbx)) (fun hHeld => ?_)
              clear hK K hHeld
              try simp only [Act.put, List.setIfInBounds_toArray, List.set_cons_zero, List.set_cons_succ]
              replace hX := Aid.bt hX hbx
              replace htx := htx.below hbx
              replace hty := hty.below hbx
              replace htz := htz.below hbx
              replace htu1 := htu1.below hbx
              clear hbx
              generalize wd1.alloc (.cells #[.slice none 0 0] 27) = wd2 at *
              generalize wd1.heap.size = gB at *
              try clear wd1
              refine wpAnyH_ready (rs := [4, 10]) (by kernel_rfl) (by simp) ?_
              refine AllReadyH.cons (o := ⟨_, _, _, _, _, _⟩) rfl (fun K hK => ?_) ?_
              · -- 4
                go_simp
                refine (Tryd.t_Over2 (k := 3) _ htx htu1 nA nu1 (by decide) (by decide) (by omega) HABC).mono ?_
                rintro e wd3 ⟨au2, cu2, vu2, rfl, nu2, htu2, hbx⟩
                go_wp2_with fail
                refine hK.out _ _ (HQ.out _ (Aid.bt hX hbx)) (fun hHeld => ?_)
                clear hK K hHeld
                try simp only [Act.put, List.setIfInBounds_toArray, List.set_cons_zero, List.set_cons_succ]
                replace hX := Aid.bt hX hbx
                replace htx := htx.below hbx
                replace hty := hty.below hbx
                replace htz := htz.below hbx
                replace htu1 := htu1.below hbx
                replace kB := Aid.blk hbx kB
                clear hbx
                clear wd2
                refine wpAnyH_ready (rs := [7, 10]) (by kernel_rfl) (by simp) ?_
                refine AllReadyH.cons (o := ⟨_, _, _, _, _, _⟩) rfl (fun K hK => ?_) ?_
                · -- 7
                  go_simp
                  refine (Tryd.t_Over2 (k := 2) _ htx hty nA nB (by decide) (by decide) (by omega) HAB).mono ?_
                  rintro e wd4 ⟨au3, cu3, vu3, rfl, nu3, htu3, hbx⟩
                  go_wp2_with fail
                  refine hK.out _ _ (HQ.out _ (Aid.bt hX hbx)) (fun hHeld => ?_)
                  clear hK K hHeld
                  try simp only [Act.put, List.setIfInBounds_toArray, List.set_cons_zero, List.set_cons_succ]
                  replace hX := Aid.bt hX hbx
                  replace htx := htx.below hbx
                  replace hty := hty.below hbx
                  replace htz := htz.below hbx
                  replace htu1 := htu1.below hbx
                  replace htu2 := htu2.below hbx
                  replace kB := Aid.blk hbx kB
                  clear hbx
                  clear wd3
                  refine wpAnyH_ready (rs := [9, 10]) (by kernel_rfl) (by simp) ?_
                  refine AllReadyH.cons (o := ⟨_, _, _, _, _, _⟩) rfl (fun K hK => ?_) ?_
                  · -- 9
                    go_simp
                    refine (Tryd.t_Over2 (k := 3) _ htu3 htz nu3 nC (by decide) (by decide) (by omega) HE).mono ?_
                    rintro e wd5 ⟨au4, cu4, vu4, rfl, nu4, htu4, hbx⟩
                    go_wp2_with fail
                    refine hK.out _ _ (HQ.out _ (Aid.bt hX hbx)) (fun hHeld => ?_)
                    clear hK K hHeld
                    try simp only [Act.put, List.setIfInBounds_toArray, List.set_cons_zero, List.set_cons_succ]
                    replace hX := Aid.bt hX hbx
                    replace htx := htx.below hbx
                    replace hty := hty.below hbx
                    replace htz := htz.below hbx
                    replace htu1 := htu1.below hbx
                    replace htu2 := htu2.below hbx
                    replace htu3 := htu3.below hbx
                    replace kB := Aid.blk hbx kB
                    clear hbx
                    clear wd4
                    refine wpAnyH_ready (rs := [10]) (by kernel_rfl) (by simp) ?_
                    refine AllReadyH.cons (o := ⟨_, _, _, _, _, _⟩) rfl (fun K hK => ?_) ?_
                    · -- 10
                      go_simp
                      have hbx := Aid.b1 wd5 (.cells #[.slice none 0 0] 27)
                      have kA := heap_alloc_new wd5 (.cells #[.slice none 0 0] 27)
                      have gA0 := hX.size
                      refine hK.out _ _ (HQ.out _ (Aid.bt hX hbx)) (fun hHeld => ?_)
                      clear hK K hHeld
                      try simp only [Act.put, List.setIfInBounds_toArray, List.set_cons_zero, List.set_cons_succ]
                      have hne : gB ≠ wd5.heap.size := Nat.ne_of_lt (Aid.blk_lt kB)
                      replace hX := Aid.bt hX hbx
                      replace htx := htx.below hbx
                      replace hty := hty.below hbx
                      replace htz := htz.below hbx
                      replace htu1 := htu1.below hbx
                      replace htu2 := htu2.below hbx
                      replace htu3 := htu3.below hbx
                      replace htu4 := htu4.below hbx
                      replace kB := Aid.blk hbx kB
                      clear hbx
                      generalize wd5.alloc (.cells #[.slice none 0 0] 27) = wd6 at *
                      generalize wd5.heap.size = gA at *
                      try clear wd5
                      refine wpAnyH_ready (rs := [12]) (by kernel_rfl) (by simp) ?_
                      refine AllReadyH.cons (o := ⟨_, _, _, _, _, _⟩) rfl (fun K hK => ?_) ?_
                      · -- 12
                        obtain ⟨z0, z1⟩ := Aid.one kA
                        go_simp
                        have hX2 : Below w11.heap.size w11 (wd6.setCell ⟨gA, 0, none⟩ (.slice au2 vu2.length cu2)) := hX.setCell gA0 _
                        refine hK.out _ _ (HQ.out _ hX2) (fun hHeld => ?_)
                        clear hK K hHeld
                        try simp only [Act.put, List.setIfInBounds_toArray, List.set_cons_zero, List.set_cons_succ]
                        replace hX := hX2
                        replace htu2 := htu2.set (u := .slice au2 vu2.length cu2) (j := 0) ⟨_, _, kA⟩ (by decide) (by decide) (by decide)
                        replace htu4 := htu4.set (u := .slice au2 vu2.length cu2) (j := 0) ⟨_, _, kA⟩ (by decide) (by decide) (by decide)
                        replace kB := Aid.set_far (u := .slice au2 vu2.length cu2) kB (hne.symm)
                        replace kA := Aid.set_same (u := .slice au2 vu2.length cu2) kA
                        clear hX2 z0 z1
                        generalize wd6.setCell ⟨gA, 0, none⟩ (.slice au2 vu2.length cu2) = wd7 at *
                        try clear wd6
                        refine wpAnyH_ready (rs := [13]) (by kernel_rfl) (by simp) ?_
                        refine AllReadyH.cons (o := ⟨_, _, _, _, _, _⟩) rfl (fun K hK => ?_) ?_
                        · -- 13
                          obtain ⟨z0, z1⟩ := Aid.one kB
                          go_simp
                          have hX2 : Below w11.heap.size w11 (wd7.setCell ⟨gB, 0, none⟩ (.slice au4 vu4.length cu4)) := hX.setCell gB0 _
                          refine hK.out _ _ (HQ.out _ hX2) (fun hHeld => ?_)
                          clear hK K hHeld
                          try simp only [Act.put, List.setIfInBounds_toArray, List.set_cons_zero, List.set_cons_succ]
                          replace hX := hX2
                          replace htu2 := htu2.set (u := .slice au4 vu4.length cu4) (j := 0) ⟨_, _, kB⟩ (by decide) (by decide) (by decide)
                          replace htu4 := htu4.set (u := .slice au4 vu4.length cu4) (j := 0) ⟨_, _, kB⟩ (by decide) (by decide) (by decide)
                          replace kA := Aid.set_far (u := .slice au4 vu4.length cu4) kA (hne)
                          replace kB := Aid.set_same (u := .slice au4 vu4.length cu4) kB
                          clear hX2 z0 z1
                          generalize wd7.setCell ⟨gB, 0, none⟩ (.slice au4 vu4.length cu4) = wd8 at *
                          try clear wd7
                          refine wpAnyH_done (by kernel_rfl) ?_ _
                          go_wp2_with fail
                          go_meet
                          exact ⟨gA, gB, au2, au4, cu2, cu4, vu2, vu4, rfl, rfl, (Aid.one kA).1, (Aid.one kB).1, htu2, htu4, hX⟩
                        exact AllReadyH.nil
                      exact AllReadyH.nil
                    exact AllReadyH.nil
                  refine AllReadyH.cons (o := ⟨_, _, _, _, _, _⟩) rfl (fun K hK => ?_) ?_
                  · -- 10
                    go_simp
                    have hbx := Aid.b1 wd4 (.cells #[.slice none 0 0] 27)
                    have kA := heap_alloc_new wd4 (.cells #[.slice none 0 0] 27)
                    have gA0 := hX.size
                    refine hK.out _ _ (HQ.out _ (Aid.bt hX hbx)) (fun hHeld => ?_)
                    clear hK K hHeld
                    try simp only [Act.put, List.setIfInBounds_toArray, List.set_cons_zero, List.set_cons_succ]
                    have hne : gB ≠ wd4.heap.size := Nat.ne_of_lt (Aid.blk_lt kB)
                    replace hX := Aid.bt hX hbx
                    replace htx := htx.below hbx
                    replace hty := hty.below hbx
                    replace htz := htz.below hbx
                    replace htu1 := htu1.below hbx
                    replace htu2 := htu2.below hbx
                    replace htu3 := htu3.below hbx
                    replace kB := Aid.blk hbx kB
                    clear hbx
                    generalize wd4.alloc (.cells #[.slice none 0 0] 27) = wd5 at *
                    generalize wd4.heap.size = gA at *
                    try clear wd4
                    refine wpAnyH_ready (rs := [9]) (by kernel_rfl) (by simp) ?_
                    refine AllReadyH.cons (o := ⟨_, _, _, _, _, _⟩) rfl (fun K hK => ?_) ?_
                    · -- 9
                      go_simp
                      refine (Tryd.t_Over2 (k := 3) _ htu3 htz nu3 nC (by decide) (by decide) (by omega) HE).mono ?_
                      rintro e wd6 ⟨au4, cu4, vu4, rfl, nu4, htu4, hbx⟩
                      go_wp2_with fail
                      refine hK.out _ _ (HQ.out _ (Aid.bt hX hbx)) (fun hHeld => ?_)
                      clear hK K hHeld
                      try simp only [Act.put, List.setIfInBounds_toArray, List.set_cons_zero, List.set_cons_succ]
                      replace hX := Aid.bt hX hbx
                      replace htx := htx.below hbx
                      replace hty := hty.below hbx
                      replace htz := htz.below hbx
                      replace htu1 := htu1.below hbx
                      replace htu2 := htu2.below hbx
                      replace htu3 := htu3.below hbx
                      replace kB := Aid.blk hbx kB
                      replace kA := Aid.blk hbx kA
                      clear hbx
                      clear wd5
                      refine wpAnyH_ready (rs := [12]) (by kernel_rfl) (by simp) ?_
                      refine AllReadyH.cons (o := ⟨_, _, _, _, _, _⟩) rfl (fun K hK => ?_) ?_
                      · -- 12
                        obtain ⟨z0, z1⟩ := Aid.one kA
                        go_simp
                        have hX2 : Below w11.heap.size w11 (wd6.setCell ⟨gA, 0, none⟩ (.slice au2 vu2.length cu2)) := hX.setCell gA0 _
                        refine hK.out _ _ (HQ.out _ hX2) (fun hHeld => ?_)
                        clear hK K hHeld
                        try simp only [Act.put, List.setIfInBounds_toArray, List.set_cons_zero, List.set_cons_succ]
                        replace hX := hX2
                        replace htu2 := htu2.set (u := .slice au2 vu2.length cu2) (j := 0) ⟨_, _, kA⟩ (by decide) (by decide) (by decide)
                        replace htu4 := htu4.set (u := .slice au2 vu2.length cu2) (j := 0) ⟨_, _, kA⟩ (by decide) (by decide) (by decide)
                        replace kB := Aid.set_far (u := .slice au2 vu2.length cu2) kB (hne.symm)
                        replace kA := Aid.set_same (u := .slice au2 vu2.length cu2) kA
                        clear hX2 z0 z1
                        generalize wd6.setCell ⟨gA, 0, none⟩ (.slice au2 vu2.length cu2) = wd7 at *
                        try clear wd6
                        refine wpAnyH_ready (rs := [13]) (by kernel_rfl) (by simp) ?_
                        refine AllReadyH.cons (o := ⟨_, _, _, _, _, _⟩) rfl (fun K hK => ?_) ?_
                        · -- 13
                          obtain ⟨z0, z1⟩ := Aid.one kB
                          go_simp
                          have hX2 : Below w11.heap.size w11 (wd7.setCell ⟨gB, 0, none⟩ (.slice au4 vu4.length cu4)) := hX.setCell gB0 _
                          refine hK.out _ _ (HQ.out _ hX2) (fun hHeld => ?_)
                          clear hK K hHeld
                          try simp only [Act.put, List.setIfInBounds_toArray, List.set_cons_zero, List.set_cons_succ]
                          replace hX := hX2
                          replace htu2 := htu2.set (u := .slice au4 vu4.length cu4) (j := 0) ⟨_, _, kB⟩ (by decide) (by decide) (by decide)
                          replace htu4 := htu4.set (u := .slice au4 vu4.length cu4) (j := 0) ⟨_, _, kB⟩ (by decide) (by decide) (by decide)
                          replace kA := Aid.set_far (u := .slice au4 vu4.length cu4) kA (hne)
                          replace kB := Aid.set_same (u := .slice au4 vu4.length cu4) kB
                          clear hX2 z0 z1
                          generalize wd7.setCell ⟨gB, 0, none⟩ (.slice au4 vu4.length cu4) = wd8 at *
                          try clear wd7
                          refine wpAnyH_done (by kernel_rfl) ?_ _
                          go_wp2_with fail
                          go_meet
                          exact ⟨gA, gB, au2, au4, cu2, cu4, vu2, vu4, rfl, rfl, (Aid.one kA).1, (Aid.one kB).1, htu2, htu4, hX⟩
                        exact AllReadyH.nil
                      exact AllReadyH.nil
                    exact AllReadyH.nil
                  exact AllReadyH.nil
                refine AllReadyH.cons (o := ⟨_, _, _, _, _, _⟩) rfl (fun K hK => ?_) ?_
                · -- 10
                  go_simp
                  have hbx := Aid.b1 wd3 (.cells #[.slice none 0 0] 27)
                  have kA := heap_alloc_new wd3 (.cells #[.slice none 0 0] 27)
                  have gA0 := hX.size
                  refine hK.out _ _ (HQ.out _ (Aid.bt hX hbx)) (fun hHeld => ?_)
                  clear hK K hHeld
                  try simp only [Act.put, List.setIfInBounds_toArray, List.set_cons_zero, List.set_cons_succ]
                  have hne : gB ≠ wd3.heap.size := Nat.ne_of_lt (Aid.blk_lt kB)
                  replace hX := Aid.bt hX hbx
                  replace htx := htx.below hbx
                  replace hty := hty.below hbx
                  replace htz := htz.below hbx
                  replace htu1 := htu1.below hbx
                  replace htu2 := htu2.below hbx
                  replace kB := Aid.blk hbx kB
                  clear hbx
                  generalize wd3.alloc (.cells #[.slice none 0 0] 27) = wd4 at *
                  generalize wd3.heap.size = gA at *
                  try clear wd3
                  refine wpAnyH_ready (rs := [7]) (by kernel_rfl) (by simp) ?_
                  refine AllReadyH.cons (o := ⟨_, _, _, _, _, _⟩) rfl (fun K hK => ?_) ?_
                  · -- 7
                    go_simp
                    refine (Tryd.t_Over2 (k := 2) _ htx hty nA nB (by decide) (by decide) (by omega) HAB).mono ?_
                    rintro e wd5 ⟨au3, cu3, vu3, rfl, nu3, htu3, hbx⟩
                    go_wp2_with fail
                    refine hK.out _ _ (HQ.out _ (Aid.bt hX hbx)) (fun hHeld => ?_)
                    clear hK K hHeld
                    try simp only [Act.put, List.setIfInBounds_toArray, List.set_cons_zero, List.set_cons_succ]
                    replace hX := Aid.bt hX hbx
                    replace htx := htx.below hbx
                    replace hty := hty.below hbx
                    replace htz := htz.below hbx
                    replace htu1 := htu1.below hbx
                    replace htu2 := htu2.below hbx
                    replace kB := Aid.blk hbx kB
                    replace kA := Aid.blk hbx kA
                    clear hbx
                    clear wd4
                    refine wpAnyH_ready (rs := [9]) (by kernel_rfl) (by simp) ?_
                    refine AllReadyH.cons (o := ⟨_, _, _, _, _, _⟩) rfl (fun K hK => ?_) ?_
                    · -- 9
                      go_simp
                      refine (Tryd.t_Over2 (k := 3) _ htu3 htz nu3 nC (by decide) (by decide) (by omega) HE).mono ?_
                      rintro e wd6 ⟨au4, cu4, vu4, rfl, nu4, htu4, hbx⟩
                      go_wp2_with fail
                      refine hK.out _ _ (HQ.out _ (Aid.bt hX hbx)) (fun hHeld => ?_)
                      clear hK K hHeld
                      try simp only [Act.put, List.setIfInBounds_toArray, List.set_cons_zero, List.set_cons_succ]
                      replace hX := Aid.bt hX hbx
                      replace htx := htx.below hbx
                      replace hty := hty.below hbx
                      replace htz := htz.below hbx
                      replace htu1 := htu1.below hbx
                      replace htu2 := htu2.below hbx
                      replace htu3 := htu3.below hbx
                      replace kB := Aid.blk hbx kB
                      replace kA := Aid.blk hbx kA
                      clear hbx
                      clear wd5
                      refine wpAnyH_ready (rs := [12]) (by kernel_rfl) (by simp) ?_
                      refine AllReadyH.cons (o := ⟨_, _, _, _, _, _⟩) rfl (fun K hK => ?_) ?_
                      · -- 12
                        obtain ⟨z0, z1⟩ := Aid.one kA
                        go_simp
                        have hX2 : Below w11.heap.size w11 (wd6.setCell ⟨gA, 0, none⟩ (.slice au2 vu2.length cu2)) := hX.setCell gA0 _
                        refine hK.out _ _ (HQ.out _ hX2) (fun hHeld => ?_)
                        clear hK K hHeld
                        try simp only [Act.put, List.setIfInBounds_toArray, List.set_cons_zero, List.set_cons_succ]
                        replace hX := hX2
                        replace htu2 := htu2.set (u := .slice au2 vu2.length cu2) (j := 0) ⟨_, _, kA⟩ (by decide) (by decide) (by decide)
                        replace htu4 := htu4.set (u := .slice au2 vu2.length cu2) (j := 0) ⟨_, _, kA⟩ (by decide) (by decide) (by decide)
                        replace kB := Aid.set_far (u := .slice au2 vu2.length cu2) kB (hne.symm)
                        replace kA := Aid.set_same (u := .slice au2 vu2.length cu2) kA
                        clear hX2 z0 z1
                        generalize wd6.setCell ⟨gA, 0, none⟩ (.slice au2 vu2.length cu2) = wd7 at *
                        try clear wd6
                        refine wpAnyH_ready (rs := [13]) (by kernel_rfl) (by simp) ?_
                        refine AllReadyH.cons (o := ⟨_, _, _, _, _, _⟩) rfl (fun K hK => ?_) ?_
                        · -- 13
                          obtain ⟨z0, z1⟩ := Aid.one kB
                          go_simp
                          have hX2 : Below w11.heap.size w11 (wd7.setCell ⟨gB, 0, none⟩ (.slice au4 vu4.length cu4)) := hX.setCell gB0 _
                          refine hK.out _ _ (HQ.out _ hX2) (fun hHeld => ?_)
                          clear hK K hHeld
                          try simp only [Act.put, List.setIfInBounds_toArray, List.set_cons_zero, List.set_cons_succ]
                          replace hX := hX2
                          replace htu2 := htu2.set (u := .slice au4 vu4.length cu4) (j := 0) ⟨_, _, kB⟩ (by decide) (by decide) (by decide)
                          replace htu4 := htu4.set (u := .slice au4 vu4.length cu4) (j := 0) ⟨_, _, kB⟩ (by decide) (by decide) (by decide)
                          replace kA := Aid.set_far (u := .slice au4 vu4.length cu4) kA (hne)
                          replace kB := Aid.set_same (u := .slice au4 vu4.length cu4) kB
                          clear hX2 z0 z1
                          generalize wd7.setCell ⟨gB, 0, none⟩ (.slice au4 vu4.length cu4) = wd8 at *
                          try clear wd7
                          refine wpAnyH_done (by kernel_rfl) ?_ _
                          go_wp2_with fail
                          go_meet
                          exact ⟨gA, gB, au2, au4, cu2, cu4, vu2, vu4, rfl, rfl, (Aid.one kA).1, (Aid.one kB).1, htu2, htu4, hX⟩
                        exact AllReadyH.nil
                      exact AllReadyH.nil
                    exact AllReadyH.nil
                  exact AllReadyH.nil
                exact AllReadyH.nil
              refine AllReadyH.cons (o := ⟨_, _, _, _, _, _⟩) rfl (fun K hK => ?_) ?_
              · -- 10
                go_simp
                have hbx := Aid.b1 wd2 (.cells #[.slice none 0 0] 27)
                have kA := heap_alloc_new wd2 (.cells #[.slice none 0 0] 27)
                have gA0 := hX.size
                refine hK.out _ _ (HQ.out _ (Aid.bt hX hbx)) (fun hHeld => ?_)
                clear hK K hHeld
                try simp only [Act.put, List.setIfInBounds_toArray, List.set_cons_zero, List.set_cons_succ]
                have hne : gB ≠ wd2.heap.size := Nat.ne_of_lt (Aid.blk_lt kB)
                replace hX := Aid.bt hX hbx
                replace htx := htx.below hbx
                replace hty := hty.below hbx
                replace htz := htz.below hbx
                replace htu1 := htu1.below hbx
                replace kB := Aid.blk hbx kB
                clear hbx
                generalize wd2.alloc (.cells #[.slice none 0 0] 27) = wd3 at *
                generalize wd2.heap.size = gA at *
                try clear wd2
                refine wpAnyH_ready (rs := [4]) (by kernel_rfl) (by simp) ?_
                refine AllReadyH.cons (o := ⟨_, _, _, _, _, _⟩) rfl (fun K hK => ?_) ?_
                · -- 4
                  go_simp
                  refine (Tryd.t_Over2 (k := 3) _ htx htu1 nA nu1 (by decide) (by decide) (by omega) HABC).mono ?_
                  rintro e wd4 ⟨au2, cu2, vu2, rfl, nu2, htu2, hbx⟩
                  go_wp2_with fail
                  refine hK.out _ _ (HQ.out _ (Aid.bt hX hbx)) (fun hHeld => ?_)
                  clear hK K hHeld
                  try simp only [Act.put, List.setIfInBounds_toArray, List.set_cons_zero, List.set_cons_succ]
                  replace hX := Aid.bt hX hbx
                  replace htx := htx.below hbx
                  replace hty := hty.below hbx
                  replace htz := htz.below hbx
                  replace htu1 := htu1.below hbx
                  replace kB := Aid.blk hbx kB
                  replace kA := Aid.blk hbx kA
                  clear hbx
                  clear wd3
                  refine wpAnyH_ready (rs := [7]) (by kernel_rfl) (by simp) ?_
                  refine AllReadyH.cons (o := ⟨_, _, _, _, _, _⟩) rfl (fun K hK => ?_) ?_
                  · -- 7
                    go_simp
                    refine (Tryd.t_Over2 (k := 2) _ htx hty nA nB (by decide) (by decide) (by omega) HAB).mono ?_
                    rintro e wd5 ⟨au3, cu3, vu3, rfl, nu3, htu3, hbx⟩
                    go_wp2_with fail
                    refine hK.out _ _ (HQ.out _ (Aid.bt hX hbx)) (fun hHeld => ?_)
                    clear hK K hHeld
                    try simp only [Act.put, List.setIfInBounds_toArray, List.set_cons_zero, List.set_cons_succ]
                    replace hX := Aid.bt hX hbx
                    replace htx := htx.below hbx
                    replace hty := hty.below hbx
                    replace htz := htz.below hbx
                    replace htu1 := htu1.below hbx
                    replace htu2 := htu2.below hbx
                    replace kB := Aid.blk hbx kB
                    replace kA := Aid.blk hbx kA
                    clear hbx
                    clear wd4
                    refine wpAnyH_ready (rs := [9]) (by kernel_rfl) (by simp) ?_
                    refine AllReadyH.cons (o := ⟨_, _, _, _, _, _⟩) rfl (fun K hK => ?_) ?_
                    · -- 9
                      go_simp
                      refine (Tryd.t_Over2 (k := 3) _ htu3 htz nu3 nC (by decide) (by decide) (by omega) HE).mono ?_
                      rintro e wd6 ⟨au4, cu4, vu4, rfl, nu4, htu4, hbx⟩
                      go_wp2_with fail
                      refine hK.out _ _ (HQ.out _ (Aid.bt hX hbx)) (fun hHeld => ?_)
                      clear hK K hHeld
                      try simp only [Act.put, List.setIfInBounds_toArray, List.set_cons_zero, List.set_cons_succ]
                      replace hX := Aid.bt hX hbx
                      replace htx := htx.below hbx
                      replace hty := hty.below hbx
                      replace htz := htz.below hbx
                      replace htu1 := htu1.below hbx
                      replace htu2 := htu2.below hbx
                      replace htu3 := htu3.below hbx
                      replace kB := Aid.blk hbx kB
                      replace kA := Aid.blk hbx kA
                      clear hbx
                      clear wd5
                      refine wpAnyH_ready (rs := [12]) (by kernel_rfl) (by simp) ?_
                      refine AllReadyH.cons (o := ⟨_, _, _, _, _, _⟩) rfl (fun K hK => ?_) ?_
                      · -- 12
                        obtain ⟨z0, z1⟩ := Aid.one kA
                        go_simp
                        have hX2 : Below w11.heap.size w11 (wd6.setCell ⟨gA, 0, none⟩ (.slice au2 vu2.length cu2)) := hX.setCell gA0 _
                        refine hK.out _ _ (HQ.out _ hX2) (fun hHeld => ?_)
                        clear hK K hHeld
                        try simp only [Act.put, List.setIfInBounds_toArray, List.set_cons_zero, List.set_cons_succ]
                        replace hX := hX2
                        replace htu2 := htu2.set (u := .slice au2 vu2.length cu2) (j := 0) ⟨_, _, kA⟩ (by decide) (by decide) (by decide)
                        replace htu4 := htu4.set (u := .slice au2 vu2.length cu2) (j := 0) ⟨_, _, kA⟩ (by decide) (by decide) (by decide)
                        replace kB := Aid.set_far (u := .slice au2 vu2.length cu2) kB (hne.symm)
                        replace kA := Aid.set_same (u := .slice au2 vu2.length cu2) kA
                        clear hX2 z0 z1
                        generalize wd6.setCell ⟨gA, 0, none⟩ (.slice au2 vu2.length cu2) = wd7 at *
                        try clear wd6
                        refine wpAnyH_ready (rs := [13]) (by kernel_rfl) (by simp) ?_
                        refine AllReadyH.cons (o := ⟨_, _, _, _, _, _⟩) rfl (fun K hK => ?_) ?_
                        · -- 13
                          obtain ⟨z0, z1⟩ := Aid.one kB
                          go_simp
                          have hX2 : Below w11.heap.size w11 (wd7.setCell ⟨gB, 0, none⟩ (.slice au4 vu4.length cu4)) := hX.setCell gB0 _
                          refine hK.out _ _ (HQ.out _ hX2) (fun hHeld => ?_)
                          clear hK K hHeld
                          try simp only [Act.put, List.setIfInBounds_toArray, List.set_cons_zero, List.set_cons_succ]
                          replace hX := hX2
                          replace htu2 := htu2.set (u := .slice au4 vu4.length cu4) (j := 0) ⟨_, _, kB⟩ (by decide) (by decide) (by decide)
                          replace htu4 := htu4.set (u := .slice au4 vu4.length cu4) (j := 0) ⟨_, _, kB⟩ (by decide) (by decide) (by decide)
                          replace kA := Aid.set_far (u := .slice au4 vu4.length cu4) kA (hne)
                          replace kB := Aid.set_same (u := .slice au4 vu4.length cu4) kB
                          clear hX2 z0 z1
                          generalize wd7.setCell ⟨gB, 0, none⟩ (.slice au4 vu4.length cu4) = wd8 at *
                          try clear wd7
                          refine wpAnyH_done (by kernel_rfl) ?_ _
                          go_wp2_with fail
                          go_meet
                          exact ⟨gA, gB, au2, au4, cu2, cu4, vu2, vu4, rfl, rfl, (Aid.one kA).1, (Aid.one kB).1, htu2, htu4, hX⟩
                        exact AllReadyH.nil
                      exact AllReadyH.nil
                    exact AllReadyH.nil
                  exact AllReadyH.nil
                exact AllReadyH.nil
              exact AllReadyH.nil
            exact AllReadyH.nil
          refine AllReadyH.cons (o := ⟨_, _, _, _, _, _⟩) rfl (fun K hK => ?_) ?_
          · -- 10
            go_simp
            have hbx := Aid.b1 wd0 (.cells #[.slice none 0 0] 27)
            have kA := heap_alloc_new wd0 (.cells #[.slice none 0 0] 27)
            have gA0 := hX.size
            refine hK.out _ _ (HQ.out _ (Aid.bt hX hbx)) (fun hHeld => ?_)
            clear hK K hHeld
            try simp only [Act.put, List.setIfInBounds_toArray, List.set_cons_zero, List.set_cons_succ]
            replace hX := Aid.bt hX hbx
            replace htx := htx.below hbx
            replace hty := hty.below hbx
            replace htz := htz.below hbx
            clear hbx
            generalize wd0.alloc (.cells #[.slice none 0 0] 27) = wd1 at *
            generalize wd0.heap.size = gA at *
            try clear wd0
            refine wpAnyH_ready (rs := [3, 11]) (by kernel_rfl) (by simp) ?_
            refine AllReadyH.cons (o := ⟨_, _, _, _, _, _⟩) rfl (fun K hK => ?_) ?_
            · -- 3
              go_simp
              refine (Tryd.t_Over2 (k := 2) _ hty htz nB nC (by decide) (by decide) (by omega) HBC).mono ?_
              rintro e wd2 ⟨au1, cu1, vu1, rfl, nu1, htu1, hbx⟩
              go_wp2_with fail
              refine hK.out _ _ (HQ.out _ (Aid.bt hX hbx)) (fun hHeld => ?_)
              clear hK K hHeld
              try simp only [Act.put, List.setIfInBounds_toArray, List.set_cons_zero, List.set_cons_succ]
              replace hX := Aid.bt hX hbx
              replace htx := htx.below hbx
              replace hty := hty.below hbx
              replace htz := htz.below hbx
              replace kA := Aid.blk hbx kA
              clear hbx
              clear wd1
              refine wpAnyH_ready (rs := [4, 11]) (by kernel_rfl) (by simp) ?_
              refine AllReadyH.cons (o := ⟨_, _, _, _, _, _⟩) rfl (fun K hK => ?_) ?_
              · -- 4
                go_simp
                refine (Tryd.t_Over2 (k := 3) _ htx htu1 nA nu1 (by decide) (by decide) (by omega) HABC).mono ?_
                rintro e wd3 ⟨au2, cu2, vu2, rfl, nu2, htu2, hbx⟩
                go_wp2_with fail
                refine hK.out _ _ (HQ.out _ (Aid.bt hX hbx)) (fun hHeld => ?_)
                clear hK K hHeld
                try simp only [Act.put, List.setIfInBounds_toArray, List.set_cons_zero, List.set_cons_succ]
                replace hX := Aid.bt hX hbx
                replace htx := htx.below hbx
                replace hty := hty.below hbx
                replace htz := htz.below hbx
                replace htu1 := htu1.below hbx
                replace kA := Aid.blk hbx kA
                clear hbx
                clear wd2
                refine wpAnyH_ready (rs := [7, 11]) (by kernel_rfl) (by simp) ?_
                refine AllReadyH.cons (o := ⟨_, _, _, _, _, _⟩) rfl (fun K hK => ?_) ?_
                · -- 7
                  go_simp
                  refine (Tryd.t_Over2 (k := 2) _ htx hty nA nB (by decide) (by decide) (by omega) HAB).mono ?_
                  rintro e wd4 ⟨au3, cu3, vu3, rfl, nu3, htu3, hbx⟩
                  go_wp2_with fail
                  refine hK.out _ _ (HQ.out _ (Aid.bt hX hbx)) (fun hHeld => ?_)
                  clear hK K hHeld
                  try simp only [Act.put, List.setIfInBounds_toArray, List.set_cons_zero, List.set_cons_succ]
                  replace hX := Aid.bt hX hbx
                  replace htx := htx.below hbx
                  replace hty := hty.below hbx
                  replace htz := htz.below hbx
                  replace htu1 := htu1.below hbx
                  replace htu2 := htu2.below hbx
                  replace kA := Aid.blk hbx kA
                  clear hbx
                  clear wd3
                  refine wpAnyH_ready (rs := [9, 11]) (by kernel_rfl) (by simp) ?_
                  refine AllReadyH.cons (o := ⟨_, _, _, _, _, _⟩) rfl (fun K hK => ?_) ?_
                  · -- 9
                    go_simp
                    refine (Tryd.t_Over2 (k := 3) _ htu3 htz nu3 nC (by decide) (by decide) (by omega) HE).mono ?_
                    rintro e wd5 ⟨au4, cu4, vu4, rfl, nu4, htu4, hbx⟩
                    go_wp2_with fail
                    refine hK.out _ _ (HQ.out _ (Aid.bt hX hbx)) (fun hHeld => ?_)
                    clear hK K hHeld
                    try simp only [Act.put, List.setIfInBounds_toArray, List.set_cons_zero, List.set_cons_succ]
                    replace hX := Aid.bt hX hbx
                    replace htx := htx.below hbx
                    replace hty := hty.below hbx
                    replace htz := htz.below hbx
                    replace htu1 := htu1.below hbx
                    replace htu2 := htu2.below hbx
                    replace htu3 := htu3.below hbx
                    replace kA := Aid.blk hbx kA
                    clear hbx
                    clear wd4
                    refine wpAnyH_ready (rs := [11]) (by kernel_rfl) (by simp) ?_
                    refine AllReadyH.cons (o := ⟨_, _, _, _, _, _⟩) rfl (fun K hK => ?_) ?_
                    · -- 11
                      go_simp
                      have hbx := Aid.b1 wd5 (.cells #[.slice none 0 0] 27)
                      have kB := heap_alloc_new wd5 (.cells #[.slice none 0 0] 27)
                      have gB0 := hX.size
                      refine hK.out _ _ (HQ.out _ (Aid.bt hX hbx)) (fun hHeld => ?_)
                      clear hK K hHeld
                      try simp only [Act.put, List.setIfInBounds_toArray, List.set_cons_zero, List.set_cons_succ]
                      have hne : gA ≠ wd5.heap.size := Nat.ne_of_lt (Aid.blk_lt kA)
                      replace hX := Aid.bt hX hbx
                      replace htx := htx.below hbx
                      replace hty := hty.below hbx
                      replace htz := htz.below hbx
                      replace htu1 := htu1.below hbx
                      replace htu2 := htu2.below hbx
                      replace htu3 := htu3.below hbx
                      replace htu4 := htu4.below hbx
                      replace kA := Aid.blk hbx kA
                      clear hbx
                      generalize wd5.alloc (.cells #[.slice none 0 0] 27) = wd6 at *
                      generalize wd5.heap.size = gB at *
                      try clear wd5
                      refine wpAnyH_ready (rs := [12]) (by kernel_rfl) (by simp) ?_
                      refine AllReadyH.cons (o := ⟨_, _, _, _, _, _⟩) rfl (fun K hK => ?_) ?_
                      · -- 12
                        obtain ⟨z0, z1⟩ := Aid.one kA
                        go_simp
                        have hX2 : Below w11.heap.size w11 (wd6.setCell ⟨gA, 0, none⟩ (.slice au2 vu2.length cu2)) := hX.setCell gA0 _
                        refine hK.out _ _ (HQ.out _ hX2) (fun hHeld => ?_)
                        clear hK K hHeld
                        try simp only [Act.put, List.setIfInBounds_toArray, List.set_cons_zero, List.set_cons_succ]
                        replace hX := hX2
                        replace htu2 := htu2.set (u := .slice au2 vu2.length cu2) (j := 0) ⟨_, _, kA⟩ (by decide) (by decide) (by decide)
                        replace htu4 := htu4.set (u := .slice au2 vu2.length cu2) (j := 0) ⟨_, _, kA⟩ (by decide) (by decide) (by decide)
                        replace kB := Aid.set_far (u := .slice au2 vu2.length cu2) kB (hne)
                        replace kA := Aid.set_same (u := .slice au2 vu2.length cu2) kA
                        clear hX2 z0 z1
                        generalize wd6.setCell ⟨gA, 0, none⟩ (.slice au2 vu2.length cu2) = wd7 at *
                        try clear wd6
                        refine wpAnyH_ready (rs := [13]) (by kernel_rfl) (by simp) ?_
                        refine AllReadyH.cons (o := ⟨_, _, _, _, _, _⟩) rfl (fun K hK => ?_) ?_
                        · -- 13
                          obtain ⟨z0, z1⟩ := Aid.one kB
                          go_simp
                          have hX2 : Below w11.heap.size w11 (wd7.setCell ⟨gB, 0, none⟩ (.slice au4 vu4.length cu4)) := hX.setCell gB0 _
                          refine hK.out _ _ (HQ.out _ hX2) (fun hHeld => ?_)
                          clear hK K hHeld
                          try simp only [Act.put, List.setIfInBounds_toArray, List.set_cons_zero, List.set_cons_succ]
                          replace hX := hX2
                          replace htu2 := htu2.set (u := .slice au4 vu4.length cu4) (j := 0) ⟨_, _, kB⟩ (by decide) (by decide) (by decide)
                          replace htu4 := htu4.set (u := .slice au4 vu4.length cu4) (j := 0) ⟨_, _, kB⟩ (by decide) (by decide) (by decide)
                          replace kA := Aid.set_far (u := .slice au4 vu4.length cu4) kA (hne.symm)
                          replace kB := Aid.set_same (u := .slice au4 vu4.length cu4) kB
                          clear hX2 z0 z1
                          generalize wd7.setCell ⟨gB, 0, none⟩ (.slice au4 vu4.length cu4) = wd8 at *
                          try clear wd7
                          refine wpAnyH_done (by kernel_rfl) ?_ _
                          go_wp2_with fail
                          go_meet
                          exact ⟨gA, gB, au2, au4, cu2, cu4, vu2, vu4, rfl, rfl, (Aid.one kA).1, (Aid.one kB).1, htu2, htu4, hX⟩
                        exact AllReadyH.nil
                      exact AllReadyH.nil
                    exact AllReadyH.nil
                  refine AllReadyH.cons (o := ⟨_, _, _, _, _, _⟩) rfl (fun K hK => ?_) ?_
                  · -- 11
                    go_simp
                    have hbx := Aid.b1 wd4 (.cells #[.slice none 0 0] 27)
                    have kB := heap_alloc_new wd4 (.cells #[.slice none 0 0] 27)
                    have gB0 := hX.size
                    refine hK.out _ _ (HQ.out _ (Aid.bt hX hbx)) (fun hHeld => ?_)
                    clear hK K hHeld
                    try simp only [Act.put, List.setIfInBounds_toArray, List.set_cons_zero, List.set_cons_succ]
                    have hne : gA ≠ wd4.heap.size := Nat.ne_of_lt (Aid.blk_lt kA)
                    replace hX := Aid.bt hX hbx
                    replace htx := htx.below hbx
                    replace hty := hty.below hbx
                    replace htz := htz.below hbx
                    replace htu1 := htu1.below hbx
                    replace htu2 := htu2.below hbx
                    replace htu3 := htu3.below hbx
                    replace kA := Aid.blk hbx kA
                    clear hbx
                    generalize wd4.alloc (.cells #[.slice none 0 0] 27) = wd5 at *
                    generalize wd4.heap.size = gB at *
                    try clear wd4
                    refine wpAnyH_ready (rs := [9]) (by kernel_rfl) (by simp) ?_
                    refine AllReadyH.cons (o := ⟨_, _, _, _, _, _⟩) rfl (fun K hK => ?_) ?_
                    · -- 9
                      go_simp
                      refine (Tryd.t_Over2 (k := 3) _ htu3 htz nu3 nC (by decide) (by decide) (by omega) HE).mono ?_
                      rintro e wd6 ⟨au4, cu4, vu4, rfl, nu4, htu4, hbx⟩
                      go_wp2_with fail
                      refine hK.out _ _ (HQ.out _ (Aid.bt hX hbx)) (fun hHeld => ?_)
                      clear hK K hHeld
                      try simp only [Act.put, List.setIfInBounds_toArray, List.set_cons_zero, List.set_cons_succ]
                      replace hX := Aid.bt hX hbx
                      replace htx := htx.below hbx
                      replace hty := hty.below hbx
                      replace htz := htz.below hbx
                      replace htu1 := htu1.below hbx
                      replace htu2 := htu2.below hbx
                      replace htu3 := htu3.below hbx
                      replace kA := Aid.blk hbx kA
                      replace kB := Aid.blk hbx kB
                      clear hbx
                      clear wd5
                      refine wpAnyH_ready (rs := [12]) (by kernel_rfl) (by simp) ?_
                      refine AllReadyH.cons (o := ⟨_, _, _, _, _, _⟩) rfl (fun K hK => ?_) ?_
                      · -- 12
                        obtain ⟨z0, z1⟩ := Aid.one kA
                        go_simp
                        have hX2 : Below w11.heap.size w11 (wd6.setCell ⟨gA, 0, none⟩ (.slice au2 vu2.length cu2)) := hX.setCell gA0 _
                        refine hK.out _ _ (HQ.out _ hX2) (fun hHeld => ?_)
                        clear hK K hHeld
                        try simp only [Act.put, List.setIfInBounds_toArray, List.set_cons_zero, List.set_cons_succ]
                        replace hX := hX2
                        replace htu2 := htu2.set (u := .slice au2 vu2.length cu2) (j := 0) ⟨_, _, kA⟩ (by decide) (by decide) (by decide)
                        replace htu4 := htu4.set (u := .slice au2 vu2.length cu2) (j := 0) ⟨_, _, kA⟩ (by decide) (by decide) (by decide)
                        replace kB := Aid.set_far (u := .slice au2 vu2.length cu2) kB (hne)
                        replace kA := Aid.set_same (u := .slice au2 vu2.length cu2) kA
                        clear hX2 z0 z1
                        generalize wd6.setCell ⟨gA, 0, none⟩ (.slice au2 vu2.length cu2) = wd7 at *
                        try clear wd6
                        refine wpAnyH_ready (rs := [13]) (by kernel_rfl) (by simp) ?_
                        refine AllReadyH.cons (o := ⟨_, _, _, _, _, _⟩) rfl (fun K hK => ?_) ?_
                        · -- 13
                          obtain ⟨z0, z1⟩ := Aid.one kB
                          go_simp
                          have hX2 : Below w11.heap.size w11 (wd7.setCell ⟨gB, 0, none⟩ (.slice au4 vu4.length cu4)) := hX.setCell gB0 _
                          refine hK.out _ _ (HQ.out _ hX2) (fun hHeld => ?_)
                          clear hK K hHeld
                          try simp only [Act.put, List.setIfInBounds_toArray, List.set_cons_zero, List.set_cons_succ]
                          replace hX := hX2
                          replace htu2 := htu2.set (u := .slice au4 vu4.length cu4) (j := 0) ⟨_, _, kB⟩ (by decide) (by decide) (by decide)
                          replace htu4 := htu4.set (u := .slice au4 vu4.length cu4) (j := 0) ⟨_, _, kB⟩ (by decide) (by decide) (by decide)
                          replace kA := Aid.set_far (u := .slice au4 vu4.length cu4) kA (hne.symm)
                          replace kB := Aid.set_same (u := .slice au4 vu4.length cu4) kB
                          clear hX2 z0 z1
                          generalize wd7.setCell ⟨gB, 0, none⟩ (.slice au4 vu4.length cu4) = wd8 at *
                          try clear wd7
                          refine wpAnyH_done (by kernel_rfl) ?_ _
                          go_wp2_with fail
                          go_meet
                          exact ⟨gA, gB, au2, au4, cu2, cu4, vu2, vu4, rfl, rfl, (Aid.one kA).1, (Aid.one kB).1, htu2, htu4, hX⟩
                        exact AllReadyH.nil
                      exact AllReadyH.nil
                    exact AllReadyH.nil
                  exact AllReadyH.nil
                refine AllReadyH.cons (o := ⟨_, _, _, _, _, _⟩) rfl (fun K hK => ?_) ?_
                · -- 11
                  go_simp
                  have hbx := Aid.b1 wd3 (.cells #[.slice none 0 0] 27)
                  have kB := heap_alloc_new wd3 (.cells #[.slice none 0 0] 27)
                  have gB0 := hX.size
                  refine hK.out _ _ (HQ.out _ (Aid.bt hX hbx)) (fun hHeld => ?_)
                  clear hK K hHeld
                  try simp only [Act.put, List.setIfInBounds_toArray, List.set_cons_zero, List.set_cons_succ]
                  have hne : gA ≠ wd3.heap.size := Nat.ne_of_lt (Aid.blk_lt kA)
                  replace hX := Aid.bt hX hbx
                  replace htx := htx.below hbx
                  replace hty := hty.below hbx
                  replace htz := htz.below hbx
                  replace htu1 := htu1.below hbx
                  replace htu2 := htu2.below hbx
                  replace kA := Aid.blk hbx kA
                  clear hbx
                  generalize wd3.alloc (.cells #[.slice none 0 0] 27) = wd4 at *
                  generalize wd3.heap.size = gB at *
                  try clear wd3
                  refine wpAnyH_ready (rs := [7]) (by kernel_rfl) (by simp) ?_
                  refine AllReadyH.cons (o := ⟨_, _, _, _, _, _⟩) rfl (fun K hK => ?_) ?_
                  · -- 7
                    go_simp
                    refine (Tryd.t_Over2 (k := 2) _ htx hty nA nB (by decide) (by decide) (by omega) HAB).mono ?_
                    rintro e wd5 ⟨au3, cu3, vu3, rfl, nu3, htu3, hbx⟩
                    go_wp2_with fail
                    refine hK.out _ _ (HQ.out _ (Aid.bt hX hbx)) (fun hHeld => ?_)
                    clear hK K hHeld
                    try simp only [Act.put, List.setIfInBounds_toArray, List.set_cons_zero, List.set_cons_succ]
                    replace hX := Aid.bt hX hbx
                    replace htx := htx.below hbx
                    replace hty := hty.below hbx
                    replace htz := htz.below hbx
                    replace htu1 := htu1.below hbx
                    replace htu2 := htu2.below hbx
                    replace kA := Aid.blk hbx kA
                    replace kB := Aid.blk hbx kB
                    clear hbx
                    clear wd4
                    refine wpAnyH_ready (rs := [9]) (by kernel_rfl) (by simp) ?_
                    refine AllReadyH.cons (o := ⟨_, _, _, _, _, _⟩) rfl (fun K hK => ?_) ?_
                    · -- 9
                      go_simp
                      refine (Tryd.t_Over2 (k := 3) _ htu3 htz nu3 nC (by decide) (by decide) (by omega) HE).mono ?_
                      rintro e wd6 ⟨au4, cu4, vu4, rfl, nu4, htu4, hbx⟩
                      go_wp2_with fail
                      refine hK.out _ _ (HQ.out _ (Aid.bt hX hbx)) (fun hHeld => ?_)
                      clear hK K hHeld
                      try simp only [Act.put, List.setIfInBounds_toArray, List.set_cons_zero, List.set_cons_succ]
                      replace hX := Aid.bt hX hbx
                      replace htx := htx.below hbx
                      replace hty := hty.below hbx
                      replace htz := htz.below hbx
                      replace htu1 := htu1.below hbx
                      replace htu2 := htu2.below hbx
                      replace htu3 := htu3.below hbx
                      replace kA := Aid.blk hbx kA
                      replace kB := Aid.blk hbx kB
                      clear hbx
                      clear wd5
                      refine wpAnyH_ready (rs := [12]) (by kernel_rfl) (by simp) ?_
                      refine AllReadyH.cons (o := ⟨_, _, _, _, _, _⟩) rfl (fun K hK => ?_) ?_
                      · -- 12
                        obtain ⟨z0, z1⟩ := Aid.one kA
                        go_simp
                        have hX2 : Below w11.heap.size w11 (wd6.setCell ⟨gA, 0, none⟩ (.slice au2 vu2.length cu2)) := hX.setCell gA0 _
                        refine hK.out _ _ (HQ.out _ hX2) (fun hHeld => ?_)
                        clear hK K hHeld
                        try simp only [Act.put, List.setIfInBounds_toArray, List.set_cons_zero, List.set_cons_succ]
                        replace hX := hX2
                        replace htu2 := htu2.set (u := .slice au2 vu2.length cu2) (j := 0) ⟨_, _, kA⟩ (by decide) (by decide) (by decide)
                        replace htu4 := htu4.set (u := .slice au2 vu2.length cu2) (j := 0) ⟨_, _, kA⟩ (by decide) (by decide) (by decide)
                        replace kB := Aid.set_far (u := .slice au2 vu2.length cu2) kB (hne)
                        replace kA := Aid.set_same (u := .slice au2 vu2.length cu2) kA
                        clear hX2 z0 z1
                        generalize wd6.setCell ⟨gA, 0, none⟩ (.slice au2 vu2.length cu2) = wd7 at *
                        try clear wd6
                        refine wpAnyH_ready (rs := [13]) (by kernel_rfl) (by simp) ?_
                        refine AllReadyH.cons (o := ⟨_, _, _, _, _, _⟩) rfl (fun K hK => ?_) ?_
                        · -- 13
                          obtain ⟨z0, z1⟩ := Aid.one kB
                          go_simp
                          have hX2 : Below w11.heap.size w11 (wd7.setCell ⟨gB, 0, none⟩ (.slice au4 vu4.length cu4)) := hX.setCell gB0 _
                          refine hK.out _ _ (HQ.out _ hX2) (fun hHeld => ?_)
                          clear hK K hHeld
                          try simp only [Act.put, List.setIfInBounds_toArray, List.set_cons_zero, List.set_cons_succ]
                          replace hX := hX2
                          replace htu2 := htu2.set (u := .slice au4 vu4.length cu4) (j := 0) ⟨_, _, kB⟩ (by decide) (by decide) (by decide)
                          replace htu4 := htu4.set (u := .slice au4 vu4.length cu4) (j := 0) ⟨_, _, kB⟩ (by decide) (by decide) (by decide)
                          replace kA := Aid.set_far (u := .slice au4 vu4.length cu4) kA (hne.symm)
                          replace kB := Aid.set_same (u := .slice au4 vu4.length cu4) kB
                          clear hX2 z0 z1
                          generalize wd7.setCell ⟨gB, 0, none⟩ (.slice au4 vu4.length cu4) = wd8 at *
                          try clear wd7
                          refine wpAnyH_done (by kernel_rfl) ?_ _
                          go_wp2_with fail
                          go_meet
                          exact ⟨gA, gB, au2, au4, cu2, cu4, vu2, vu4, rfl, rfl, (Aid.one kA).1, (Aid.one kB).1, htu2, htu4, hX⟩
                        exact AllReadyH.nil
                      exact AllReadyH.nil
                    exact AllReadyH.nil
                  exact AllReadyH.nil
                exact AllReadyH.nil
              refine AllReadyH.cons (o := ⟨_, _, _, _, _, _⟩) rfl (fun K hK => ?_) ?_
              · -- 11
                go_simp
                have hbx := Aid.b1 wd2 (.cells #[.slice none 0 0] 27)
                have kB := heap_alloc_new wd2 (.cells #[.slice none 0 0] 27)
                have gB0 := hX.size
                refine hK.out _ _ (HQ.out _ (Aid.bt hX hbx)) (fun hHeld => ?_)
                clear hK K hHeld
                try simp only [Act.put, List.setIfInBounds_toArray, List.set_cons_zero, List.set_cons_succ]
                have hne : gA ≠ wd2.heap.size := Nat.ne_of_lt (Aid.blk_lt kA)
                replace hX := Aid.bt hX hbx
                replace htx := htx.below hbx
                replace hty := hty.below hbx
                replace htz := htz.below hbx
                replace htu1 := htu1.below hbx
                replace kA := Aid.blk hbx kA
                clear hbx
                generalize wd2.alloc (.cells #[.slice none 0 0] 27) = wd3 at *
                generalize wd2.heap.size = gB at *
                try clear wd2
                refine wpAnyH_ready (rs := [4]) (by kernel_rfl) (by simp) ?_
                refine AllReadyH.cons (o := ⟨_, _, _, _, _, _⟩) rfl (fun K hK => ?_) ?_
                · -- 4
                  go_simp
                  refine (Tryd.t_Over2 (k := 3) _ htx htu1 nA nu1 (by decide) (by decide) (by omega) HABC).mono ?_
                  rintro e wd4 ⟨au2, cu2, vu2, rfl, nu2, htu2, hbx⟩
                  go_wp2_with fail
                  refine hK.out _ _ (HQ.out _ (Aid.bt hX hbx)) (fun hHeld => ?_)
                  clear hK K hHeld
                  try simp only [Act.put, List.setIfInBounds_toArray, List.set_cons_zero, List.set_cons_succ]
                  replace hX := Aid.bt hX hbx
                  replace htx := htx.below hbx
                  replace hty := hty.below hbx
                  replace htz := htz.below hbx
                  replace htu1 := htu1.below hbx
                  replace kA := Aid.blk hbx kA
                  replace kB := Aid.blk hbx kB
                  clear hbx
                  clear wd3
                  refine wpAnyH_ready (rs := [7]) (by kernel_rfl) (by simp) ?_
                  refine AllReadyH.cons (o := ⟨_, _, _, _, _, _⟩) rfl (fun K hK => ?_) ?_
                  · -- 7
                    go_simp
                    refine (Tryd.t_Over2 (k := 2) _ htx hty nA nB (by decide) (by decide) (by omega) HAB).mono ?_
                    rintro e wd5 ⟨au3, cu3, vu3, rfl, nu3, htu3, hbx⟩
                    go_wp2_with fail
                    refine hK.out _ _ (HQ.out _ (Aid.bt hX hbx)) (fun hHeld => ?_)
                    clear hK K hHeld
                    try simp only [Act.put, List.setIfInBounds_toArray, List.set_cons_zero, List.set_cons_succ]
                    replace hX := Aid.bt hX hbx
                    replace htx := htx.below hbx
                    replace hty := hty.below hbx
                    replace htz := htz.below hbx
                    replace htu1 := htu1.below hbx
                    replace htu2 := htu2.below hbx
                    replace kA := Aid.blk hbx kA
                    replace kB := Aid.blk hbx kB
                    clear hbx
                    clear wd4
                    refine wpAnyH_ready (rs := [9]) (by kernel_rfl) (by simp) ?_
                    refine AllReadyH.cons (o := ⟨_, _, _, _, _, _⟩) rfl (fun K hK => ?_) ?_
                    · -- 9
                      go_simp
                      refine (Tryd.t_Over2 (k := 3) _ htu3 htz nu3 nC (by decide) (by decide) (by omega) HE).mono ?_
                      rintro e wd6 ⟨au4, cu4, vu4, rfl, nu4, htu4, hbx⟩
                      go_wp2_with fail
                      refine hK.out _ _ (HQ.out _ (Aid.bt hX hbx)) (fun hHeld => ?_)
                      clear hK K hHeld
                      try simp only [Act.put, List.setIfInBounds_toArray, List.set_cons_zero, List.set_cons_succ]
                      replace hX := Aid.bt hX hbx
                      replace htx := htx.below hbx
                      replace hty := hty.below hbx
                      replace htz := htz.below hbx
                      replace htu1 := htu1.below hbx
                      replace htu2 := htu2.below hbx
                      replace htu3 := htu3.below hbx
                      replace kA := Aid.blk hbx kA
                      replace kB := Aid.blk hbx kB
                      clear hbx
                      clear wd5
                      refine wpAnyH_ready (rs := [12]) (by kernel_rfl) (by simp) ?_
                      refine AllReadyH.cons (o := ⟨_, _, _, _, _, _⟩) rfl (fun K hK => ?_) ?_
                      · -- 12
                        obtain ⟨z0, z1⟩ := Aid.one kA
                        go_simp
                        have hX2 : Below w11.heap.size w11 (wd6.setCell ⟨gA, 0, none⟩ (.slice au2 vu2.length cu2)) := hX.setCell gA0 _
                        refine hK.out _ _ (HQ.out _ hX2) (fun hHeld => ?_)
                        clear hK K hHeld
                        try simp only [Act.put, List.setIfInBounds_toArray, List.set_cons_zero, List.set_cons_succ]
                        replace hX := hX2
                        replace htu2 := htu2.set (u := .slice au2 vu2.length cu2) (j := 0) ⟨_, _, kA⟩ (by decide) (by decide) (by decide)
                        replace htu4 := htu4.set (u := .slice au2 vu2.length cu2) (j := 0) ⟨_, _, kA⟩ (by decide) (by decide) (by decide)
                        replace kB := Aid.set_far (u := .slice au2 vu2.length cu2) kB (hne)
                        replace kA := Aid.set_same (u := .slice au2 vu2.length cu2) kA
                        clear hX2 z0 z1
                        generalize wd6.setCell ⟨gA, 0, none⟩ (.slice au2 vu2.length cu2) = wd7 at *
                        try clear wd6
                        refine wpAnyH_ready (rs := [13]) (by kernel_rfl) (by simp) ?_
                        refine AllReadyH.cons (o := ⟨_, _, _, _, _, _⟩) rfl (fun K hK => ?_) ?_
                        · -- 13
                          obtain ⟨z0, z1⟩ := Aid.one kB
                          go_simp
                          have hX2 : Below w11.heap.size w11 (wd7.setCell ⟨gB, 0, none⟩ (.slice au4 vu4.length cu4)) := hX.setCell gB0 _
                          refine hK.out _ _ (HQ.out _ hX2) (fun hHeld => ?_)
                          clear hK K hHeld
                          try simp only [Act.put, List.setIfInBounds_toArray, List.set_cons_zero, List.set_cons_succ]
                          replace hX := hX2
                          replace htu2 := htu2.set (u := .slice au4 vu4.length cu4) (j := 0) ⟨_, _, kB⟩ (by decide) (by decide) (by decide)
                          replace htu4 := htu4.set (u := .slice au4 vu4.length cu4) (j := 0) ⟨_, _, kB⟩ (by decide) (by decide) (by decide)
                          replace kA := Aid.set_far (u := .slice au4 vu4.length cu4) kA (hne.symm)
                          replace kB := Aid.set_same (u := .slice au4 vu4.length cu4) kB
                          clear hX2 z0 z1
                          generalize wd7.setCell ⟨gB, 0, none⟩ (.slice au4 vu4.length cu4) = wd8 at *
                          try clear wd7
                          refine wpAnyH_done (by kernel_rfl) ?_ _
                          go_wp2_with fail
                          go_meet
                          exact ⟨gA, gB, au2, au4, cu2, cu4, vu2, vu4, rfl, rfl, (Aid.one kA).1, (Aid.one kB).1, htu2, htu4, hX⟩
                        exact AllReadyH.nil
                      exact AllReadyH.nil
                    exact AllReadyH.nil
                  exact AllReadyH.nil
                exact AllReadyH.nil
              exact AllReadyH.nil
            refine AllReadyH.cons (o := ⟨_, _, _, _, _, _⟩) rfl (fun K hK => ?_) ?_
            · -- 11
              go_simp
              have hbx := Aid.b1 wd1 (.cells #[.slice none 0 0] 27)
              have kB := heap_alloc_new wd1 (.cells #[.slice none 0 0] 27)
              have gB0 := hX.size
              refine hK.out _ _ (HQ.out _ (Aid.bt hX hbx)) (fun hHeld => ?_)
              clear hK K hHeld
              try simp only [Act.put, List.setIfInBounds_toArray, List.set_cons_zero, List.set_cons_succ]
              have hne : gA ≠ wd1.heap.size := Nat.ne_of_lt (Aid.blk_lt kA)
              replace hX := Aid.bt hX hbx
              replace htx := htx.below hbx
              replace hty := hty.below hbx
              replace htz := htz.below hbx
              replace kA := Aid.blk hbx kA
              clear hbx
              generalize wd1.alloc (.cells #[.slice none 0 0] 27) = wd2 at *
              generalize wd1.heap.size = gB at *
              try clear wd1
              refine wpAnyH_ready (rs := [3]) (by kernel_rfl) (by simp) ?_
              refine AllReadyH.cons (o := ⟨_, _, _, _, _, _⟩) rfl (fun K hK => ?_) ?_
              · -- 3
                go_simp
                refine (Tryd.t_Over2 (k := 2) _ hty htz nB nC (by decide) (by decide) (by omega) HBC).mono ?_
                rintro e wd3 ⟨au1, cu1, vu1, rfl, nu1, htu1, hbx⟩
                go_wp2_with fail
                refine hK.out _ _ (HQ.out _ (Aid.bt hX hbx)) (fun hHeld => ?_)
                clear hK K hHeld
                try simp only [Act.put, List.setIfInBounds_toArray, List.set_cons_zero, List.set_cons_succ]
                replace hX := Aid.bt hX hbx
                replace htx := htx.below hbx
                replace hty := hty.below hbx
                replace htz := htz.below hbx
                replace kA := Aid.blk hbx kA
                replace kB := Aid.blk hbx kB
                clear hbx
                clear wd2
                refine wpAnyH_ready (rs := [4]) (by kernel_rfl) (by simp) ?_
                refine AllReadyH.cons (o := ⟨_, _, _, _, _, _⟩) rfl (fun K hK => ?_) ?_
                · -- 4
                  go_simp
                  refine (Tryd.t_Over2 (k := 3) _ htx htu1 nA nu1 (by decide) (by decide) (by omega) HABC).mono ?_
                  rintro e wd4 ⟨au2, cu2, vu2, rfl, nu2, htu2, hbx⟩
                  go_wp2_with fail
                  refine hK.out _ _ (HQ.out _ (Aid.bt hX hbx)) (fun hHeld => ?_)
                  clear hK K hHeld
                  try simp only [Act.put, List.setIfInBounds_toArray, List.set_cons_zero, List.set_cons_succ]
                  replace hX := Aid.bt hX hbx
                  replace htx := htx.below hbx
                  replace hty := hty.below hbx
                  replace htz := htz.below hbx
                  replace htu1 := htu1.below hbx
                  replace kA := Aid.blk hbx kA
                  replace kB := Aid.blk hbx kB
                  clear hbx
                  clear wd3
                  refine wpAnyH_ready (rs := [7]) (by kernel_rfl) (by simp) ?_
                  refine AllReadyH.cons (o := ⟨_, _, _, _, _, _⟩) rfl (fun K hK => ?_) ?_
                  · -- 7
                    go_simp
                    refine (Tryd.t_Over2 (k := 2) _ htx hty nA nB (by decide) (by decide) (by omega) HAB).mono ?_
                    rintro e wd5 ⟨au3, cu3, vu3, rfl, nu3, htu3, hbx⟩
                    go_wp2_with fail
                    refine hK.out _ _ (HQ.out _ (Aid.bt hX hbx)) (fun hHeld => ?_)
                    clear hK K hHeld
                    try simp only [Act.put, List.setIfInBounds_toArray, List.set_cons_zero, List.set_cons_succ]
                    replace hX := Aid.bt hX hbx
                    replace htx := htx.below hbx
                    replace hty := hty.below hbx
                    replace htz := htz.below hbx
                    replace htu1 := htu1.below hbx
                    replace htu2 := htu2.below hbx
                    replace kA := Aid.blk hbx kA
                    replace kB := Aid.blk hbx kB
                    clear hbx
                    clear wd4
                    refine wpAnyH_ready (rs := [9]) (by kernel_rfl) (by simp) ?_
                    refine AllReadyH.cons (o := ⟨_, _, _, _, _, _⟩) rfl (fun K hK => ?_) ?_
                    · -- 9
                      go_simp
                      refine (Tryd.t_Over2 (k := 3) _ htu3 htz nu3 nC (by decide) (by decide) (by omega) HE).mono ?_
                      rintro e wd6 ⟨au4, cu4, vu4, rfl, nu4, htu4, hbx⟩
                      go_wp2_with fail
                      refine hK.out _ _ (HQ.out _ (Aid.bt hX hbx)) (fun hHeld => ?_)
                      clear hK K hHeld
                      try simp only [Act.put, List.setIfInBounds_toArray, List.set_cons_zero, List.set_cons_succ]
                      replace hX := Aid.bt hX hbx
                      replace htx := htx.below hbx
                      replace hty := hty.below hbx
                      replace htz := htz.below hbx
                      replace htu1 := htu1.below hbx
                      replace htu2 := htu2.below hbx
                      replace htu3 := htu3.below hbx
                      replace kA := Aid.blk hbx kA
                      replace kB := Aid.blk hbx kB
                      clear hbx
                      clear wd5
                      refine wpAnyH_ready (rs := [12]) (by kernel_rfl) (by simp) ?_
                      refine AllReadyH.cons (o := ⟨_, _, _, _, _, _⟩) rfl (fun K hK => ?_) ?_
                      · -- 12
                        obtain ⟨z0, z1⟩ := Aid.one kA
                        go_simp
                        have hX2 : Below w11.heap.size w11 (wd6.setCell ⟨gA, 0, none⟩ (.slice au2 vu2.length cu2)) := hX.setCell gA0 _
                        refine hK.out _ _ (HQ.out _ hX2) (fun hHeld => ?_)
                        clear hK K hHeld
                        try simp only [Act.put, List.setIfInBounds_toArray, List.set_cons_zero, List.set_cons_succ]
                        replace hX := hX2
                        replace htu2 := htu2.set (u := .slice au2 vu2.length cu2) (j := 0) ⟨_, _, kA⟩ (by decide) (by decide) (by decide)
                        replace htu4 := htu4.set (u := .slice au2 vu2.length cu2) (j := 0) ⟨_, _, kA⟩ (by decide) (by decide) (by decide)
                        replace kB := Aid.set_far (u := .slice au2 vu2.length cu2) kB (hne)
                        replace kA := Aid.set_same (u := .slice au2 vu2.length cu2) kA
                        clear hX2 z0 z1
                        generalize wd6.setCell ⟨gA, 0, none⟩ (.slice au2 vu2.length cu2) = wd7 at *
                        try clear wd6
                        refine wpAnyH_ready (rs := [13]) (by kernel_rfl) (by simp) ?_
                        refine AllReadyH.cons (o := ⟨_, _, _, _, _, _⟩) rfl (fun K hK => ?_) ?_
                        · -- 13
                          obtain ⟨z0, z1⟩ := Aid.one kB
                          go_simp
                          have hX2 : Below w11.heap.size w11 (wd7.setCell ⟨gB, 0, none⟩ (.slice au4 vu4.length cu4)) := hX.setCell gB0 _
                          refine hK.out _ _ (HQ.out _ hX2) (fun hHeld => ?_)
                          clear hK K hHeld
                          try simp only [Act.put, List.setIfInBounds_toArray, List.set_cons_zero, List.set_cons_succ]
                          replace hX := hX2
                          replace htu2 := htu2.set (u := .slice au4 vu4.length cu4) (j := 0) ⟨_, _, kB⟩ (by decide) (by decide) (by decide)
                          replace htu4 := htu4.set (u := .slice au4 vu4.length cu4) (j := 0) ⟨_, _, kB⟩ (by decide) (by decide) (by decide)
                          replace kA := Aid.set_far (u := .slice au4 vu4.length cu4) kA (hne.symm)
                          replace kB := Aid.set_same (u := .slice au4 vu4.length cu4) kB
                          clear hX2 z0 z1
                          generalize wd7.setCell ⟨gB, 0, none⟩ (.slice au4 vu4.length cu4) = wd8 at *
                          try clear wd7
                          refine wpAnyH_done (by kernel_rfl) ?_ _
                          go_wp2_with fail
                          go_meet
                          exact ⟨gA, gB, au2, au4, cu2, cu4, vu2, vu4, rfl, rfl, (Aid.one kA).1, (Aid.one kB).1, htu2, htu4, hX⟩
                        exact AllReadyH.nil
                      exact AllReadyH.nil
                    exact AllReadyH.nil
                  exact AllReadyH.nil
                exact AllReadyH.nil
              exact AllReadyH.nil
            exact AllReadyH.nil
          refine AllReadyH.cons (o := ⟨_, _, _, _, _, _⟩) rfl (fun K hK => ?_) ?_
          · -- 11
            go_simp
            have hbx := Aid.b1 wd0 (.cells #[.slice none 0 0] 27)
            have kB := heap_alloc_new wd0 (.cells #[.slice none 0 0] 27)
            have gB0 := hX.size
            refine hK.out _ _ (HQ.out _ (Aid.bt hX hbx)) (fun hHeld => ?_)
            clear hK K hHeld
            try simp only [Act.put, List.setIfInBounds_toArray, List.set_cons_zero, List.set_cons_succ]
            replace hX := Aid.bt hX hbx
            replace htx := htx.below hbx
            replace hty := hty.below hbx
            replace htz := htz.below hbx
            clear hbx
            generalize wd0.alloc (.cells #[.slice none 0 0] 27) = wd1 at *
            generalize wd0.heap.size = gB at *
            try clear wd0
            refine wpAnyH_ready (rs := [3, 10]) (by kernel_rfl) (by simp) ?_
            refine AllReadyH.cons (o := ⟨_, _, _, _, _, _⟩) rfl (fun K hK => ?_) ?_
            · -- 3
              go_simp
              refine (Tryd.t_Over2 (k := 2) _ hty htz nB nC (by decide) (by decide) (by omega) HBC).mono ?_
              rintro e wd2 ⟨au1, cu1, vu1, rfl, nu1, htu1, hbx⟩
              go_wp2_with fail
              refine hK.out _ _ (HQ.out _ (Aid.bt hX hbx)) (fun hHeld => ?_)
              clear hK K hHeld
              try simp only [Act.put, List.setIfInBounds_toArray, List.set_cons_zero, List.set_cons_succ]
              replace hX := Aid.bt hX hbx
              replace htx := htx.below hbx
              replace hty := hty.below hbx
              replace htz := htz.below hbx
              replace kB := Aid.blk hbx kB
              clear hbx
              clear wd1
              refine wpAnyH_ready (rs := [4, 10]) (by kernel_rfl) (by simp) ?_
              refine AllReadyH.cons (o := ⟨_, _, _, _, _, _⟩) rfl (fun K hK => ?_) ?_
              · -- 4
                go_simp
                refine (Tryd.t_Over2 (k := 3) _ htx htu1 nA nu1 (by decide) (by decide) (by omega) HABC).mono ?_
                rintro e wd3 ⟨au2, cu2, vu2, rfl, nu2, htu2, hbx⟩
                go_wp2_with fail
                refine hK.out _ _ (HQ.out _ (Aid.bt hX hbx)) (fun hHeld => ?_)
                clear hK K hHeld
                try simp only [Act.put, List.setIfInBounds_toArray, List.set_cons_zero, List.set_cons_succ]
                replace hX := Aid.bt hX hbx
                replace htx := htx.below hbx
                replace hty := hty.below hbx
                replace htz := htz.below hbx
                replace htu1 := htu1.below hbx
                replace kB := Aid.blk hbx kB
                clear hbx
                clear wd2
                refine wpAnyH_ready (rs := [7, 10]) (by kernel_rfl) (by simp) ?_
                refine AllReadyH.cons (o := ⟨_, _, _, _, _, _⟩) rfl (fun K hK => ?_) ?_
                · -- 7
                  go_simp
                  refine (Tryd.t_Over2 (k := 2) _ htx hty nA nB (by decide) (by decide) (by omega) HAB).mono ?_
                  rintro e wd4 ⟨au3, cu3, vu3, rfl, nu3, htu3, hbx⟩
                  go_wp2_with fail
                  refine hK.out _ _ (HQ.out _ (Aid.bt hX hbx)) (fun hHeld => ?_)
                  clear hK K hHeld
                  try simp only [Act.put, List.setIfInBounds_toArray, List.set_cons_zero, List.set_cons_succ]
                  replace hX := Aid.bt hX hbx
                  replace htx := htx.below hbx
                  replace hty := hty.below hbx
                  replace htz := htz.below hbx
                  replace htu1 := htu1.below hbx
                  replace htu2 := htu2.below hbx
                  replace kB := Aid.blk hbx kB
                  clear hbx
                  clear wd3
                  refine wpAnyH_ready (rs := [9, 10]) (by kernel_rfl) (by simp) ?_
                  refine AllReadyH.cons (o := ⟨_, _, _, _, _, _⟩) rfl (fun K hK => ?_) ?_
                  · -- 9
                    go_simp
                    refine (Tryd.t_Over2 (k := 3) _ htu3 htz nu3 nC (by decide) (by decide) (by omega) HE).mono ?_
                    rintro e wd5 ⟨au4, cu4, vu4, rfl, nu4, htu4, hbx⟩
                    go_wp2_with fail
                    refine hK.out _ _ (HQ.out _ (Aid.bt hX hbx)) (fun hHeld => ?_)
                    clear hK K hHeld
                    try simp only [Act.put, List.setIfInBounds_toArray, List.set_cons_zero, List.set_cons_succ]
                    replace hX := Aid.bt hX hbx
                    replace htx := htx.below hbx
                    replace hty := hty.below hbx
                    replace htz := htz.below hbx
                    replace htu1 := htu1.below hbx
                    replace htu2 := htu2.below hbx
                    replace htu3 := htu3.below hbx
                    replace kB := Aid.blk hbx kB
                    clear hbx
                    clear wd4
                    refine wpAnyH_ready (rs := [10]) (by kernel_rfl) (by simp) ?_
                    refine AllReadyH.cons (o := ⟨_, _, _, _, _, _⟩) rfl (fun K hK => ?_) ?_
                    · -- 10
                      go_simp
                      have hbx := Aid.b1 wd5 (.cells #[.slice none 0 0] 27)
                      have kA := heap_alloc_new wd5 (.cells #[.slice none 0 0] 27)
                      have gA0 := hX.size
                      refine hK.out _ _ (HQ.out _ (Aid.bt hX hbx)) (fun hHeld => ?_)
                      clear hK K hHeld
                      try simp only [Act.put, List.setIfInBounds_toArray, List.set_cons_zero, List.set_cons_succ]
                      have hne : gB ≠ wd5.heap.size := Nat.ne_of_lt (Aid.blk_lt kB)
                      replace hX := Aid.bt hX hbx
                      replace htx := htx.below hbx
                      replace hty := hty.below hbx
                      replace htz := htz.below hbx
                      replace htu1 := htu1.below hbx
                      replace htu2 := htu2.below hbx
                      replace htu3 := htu3.below hbx
                      replace htu4 := htu4.below hbx
                      replace kB := Aid.blk hbx kB
                      clear hbx
                      generalize wd5.alloc (.cells #[.slice none 0 0] 27) = wd6 at *
                      generalize wd5.heap.size = gA at *
                      try clear wd5
                      refine wpAnyH_ready (rs := [12]) (by kernel_rfl) (by simp) ?_
                      refine AllReadyH.cons (o := ⟨_, _, _, _, _, _⟩) rfl (fun K hK => ?_) ?_
                      · -- 12
                        obtain ⟨z0, z1⟩ := Aid.one kA
                        go_simp
                        have hX2 : Below w11.heap.size w11 (wd6.setCell ⟨gA, 0, none⟩ (.slice au2 vu2.length cu2)) := hX.setCell gA0 _
                        refine hK.out _ _ (HQ.out _ hX2) (fun hHeld => ?_)
                        clear hK K hHeld
                        try simp only [Act.put, List.setIfInBounds_toArray, List.set_cons_zero, List.set_cons_succ]
                        replace hX := hX2
                        replace htu2 := htu2.set (u := .slice au2 vu2.length cu2) (j := 0) ⟨_, _, kA⟩ (by decide) (by decide) (by decide)
                        replace htu4 := htu4.set (u := .slice au2 vu2.length cu2) (j := 0) ⟨_, _, kA⟩ (by decide) (by decide) (by decide)
                        replace kB := Aid.set_far (u := .slice au2 vu2.length cu2) kB (hne.symm)
                        replace kA := Aid.set_same (u := .slice au2 vu2.length cu2) kA
                        clear hX2 z0 z1
                        generalize wd6.setCell ⟨gA, 0, none⟩ (.slice au2 vu2.length cu2) = wd7 at *
                        try clear wd6
                        refine wpAnyH_ready (rs := [13]) (by kernel_rfl) (by simp) ?_
                        refine AllReadyH.cons (o := ⟨_, _, _, _, _, _⟩) rfl (fun K hK => ?_) ?_
                        · -- 13
                          obtain ⟨z0, z1⟩ := Aid.one kB
                          go_simp
                          have hX2 : Below w11.heap.size w11 (wd7.setCell ⟨gB, 0, none⟩ (.slice au4 vu4.length cu4)) := hX.setCell gB0 _
                          refine hK.out _ _ (HQ.out _ hX2) (fun hHeld => ?_)
                          clear hK K hHeld
                          try simp only [Act.put, List.setIfInBounds_toArray, List.set_cons_zero, List.set_cons_succ]
                          replace hX := hX2
                          replace htu2 := htu2.set (u := .slice au4 vu4.length cu4) (j := 0) ⟨_, _, kB⟩ (by decide) (by decide) (by decide)
                          replace htu4 := htu4.set (u := .slice au4 vu4.length cu4) (j := 0) ⟨_, _, kB⟩ (by decide) (by decide) (by decide)
                          replace kA := Aid.set_far (u := .slice au4 vu4.length cu4) kA (hne)
                          replace kB := Aid.set_same (u := .slice au4 vu4.length cu4) kB
                          clear hX2 z0 z1
                          generalize wd7.setCell ⟨gB, 0, none⟩ (.slice au4 vu4.length cu4) = wd8 at *
                          try clear wd7
                          refine wpAnyH_done (by kernel_rfl) ?_ _
                          go_wp2_with fail
                          go_meet
                          exact ⟨gA, gB, au2, au4, cu2, cu4, vu2, vu4, rfl, rfl, (Aid.one kA).1, (Aid.one kB).1, htu2, htu4, hX⟩
                        exact AllReadyH.nil
                      exact AllReadyH.nil
                    exact AllReadyH.nil
                  refine AllReadyH.cons (o := ⟨_, _, _, _, _, _⟩) rfl (fun K hK => ?_) ?_
                  · -- 10
                    go_simp
                    have hbx := Aid.b1 wd4 (.cells #[.slice none 0 0] 27)
                    have kA := heap_alloc_new wd4 (.cells #[.slice none 0 0] 27)
                    have gA0 := hX.size
                    refine hK.out _ _ (HQ.out _ (Aid.bt hX hbx)) (fun hHeld => ?_)
                    clear hK K hHeld
                    try simp only [Act.put, List.setIfInBounds_toArray, List.set_cons_zero, List.set_cons_succ]
                    have hne : gB ≠ wd4.heap.size := Nat.ne_of_lt (Aid.blk_lt kB)
                    replace hX := Aid.bt hX hbx
                    replace htx := htx.below hbx
                    replace hty := hty.below hbx
                    replace htz := htz.below hbx
                    replace htu1 := htu1.below hbx
                    replace htu2 := htu2.below hbx
                    replace htu3 := htu3.below hbx
                    replace kB := Aid.blk hbx kB
                    clear hbx
                    generalize wd4.alloc (.cells #[.slice none 0 0] 27) = wd5 at *
                    generalize wd4.heap.size = gA at *
                    try clear wd4
                    refine wpAnyH_ready (rs := [9]) (by kernel_rfl) (by simp) ?_
                    refine AllReadyH.cons (o := ⟨_, _, _, _, _, _⟩) rfl (fun K hK => ?_) ?_
                    · -- 9
                      go_simp
                      refine (Tryd.t_Over2 (k := 3) _ htu3 htz nu3 nC (by decide) (by decide) (by omega) HE).mono ?_
                      rintro e wd6 ⟨au4, cu4, vu4, rfl, nu4, htu4, hbx⟩
                      go_wp2_with fail
                      refine hK.out _ _ (HQ.out _ (Aid.bt hX hbx)) (fun hHeld => ?_)
                      clear hK K hHeld
                      try simp only [Act.put, List.setIfInBounds_toArray, List.set_cons_zero, List.set_cons_succ]
                      replace hX := Aid.bt hX hbx
                      replace htx := htx.below hbx
                      replace hty := hty.below hbx
                      replace htz := htz.below hbx
                      replace htu1 := htu1.below hbx
                      replace htu2 := htu2.below hbx
                      replace htu3 := htu3.below hbx
                      replace kB := Aid.blk hbx kB
                      replace kA := Aid.blk hbx kA
                      clear hbx
                      clear wd5
                      refine wpAnyH_ready (rs := [12]) (by kernel_rfl) (by simp) ?_
                      refine AllReadyH.cons (o := ⟨_, _, _, _, _, _⟩) rfl (fun K hK => ?_) ?_
                      · -- 12
                        obtain ⟨z0, z1⟩ := Aid.one kA
                        go_simp
                        have hX2 : Below w11.heap.size w11 (wd6.setCell ⟨gA, 0, none⟩ (.slice au2 vu2.length cu2)) := hX.setCell gA0 _
                        refine hK.out _ _ (HQ.out _ hX2) (fun hHeld => ?_)
                        clear hK K hHeld
                        try simp only [Act.put, List.setIfInBounds_toArray, List.set_cons_zero, List.set_cons_succ]
                        replace hX := hX2
                        replace htu2 := htu2.set (u := .slice au2 vu2.length cu2) (j := 0) ⟨_, _, kA⟩ (by decide) (by decide) (by decide)
                        replace htu4 := htu4.set (u := .slice au2 vu2.length cu2) (j := 0) ⟨_, _, kA⟩ (by decide) (by decide) (by decide)
                        replace kB := Aid.set_far (u := .slice au2 vu2.length cu2) kB (hne.symm)
                        replace kA := Aid.set_same (u := .slice au2 vu2.length cu2) kA
                        clear hX2 z0 z1
                        generalize wd6.setCell ⟨gA, 0, none⟩ (.slice au2 vu2.length cu2) = wd7 at *
                        try clear wd6
                        refine wpAnyH_ready (rs := [13]) (by kernel_rfl) (by simp) ?_
                        refine AllReadyH.cons (o := ⟨_, _, _, _, _, _⟩) rfl (fun K hK => ?_) ?_
                        · -- 13
                          obtain ⟨z0, z1⟩ := Aid.one kB
                          go_simp
                          have hX2 : Below w11.heap.size w11 (wd7.setCell ⟨gB, 0, none⟩ (.slice au4 vu4.length cu4)) := hX.setCell gB0 _
                          refine hK.out _ _ (HQ.out _ hX2) (fun hHeld => ?_)
                          clear hK K hHeld
                          try simp only [Act.put, List.setIfInBounds_toArray, List.set_cons_zero, List.set_cons_succ]
                          replace hX := hX2
                          replace htu2 := htu2.set (u := .slice au4 vu4.length cu4) (j := 0) ⟨_, _, kB⟩ (by decide) (by decide) (by decide)
                          replace htu4 := htu4.set (u := .slice au4 vu4.length cu4) (j := 0) ⟨_, _, kB⟩ (by decide) (by decide) (by decide)
                          replace kA := Aid.set_far (u := .slice au4 vu4.length cu4) kA (hne)
                          replace kB := Aid.set_same (u := .slice au4 vu4.length cu4) kB
                          clear hX2 z0 z1
                          generalize wd7.setCell ⟨gB, 0, none⟩ (.slice au4 vu4.length cu4) = wd8 at *
                          try clear wd7
                          refine wpAnyH_done (by kernel_rfl) ?_ _
                          go_wp2_with fail
                          go_meet
                          exact ⟨gA, gB, au2, au4, cu2, cu4, vu2, vu4, rfl, rfl, (Aid.one kA).1, (Aid.one kB).1, htu2, htu4, hX⟩
                        exact AllReadyH.nil
                      exact AllReadyH.nil
                    exact AllReadyH.nil
                  exact AllReadyH.nil
                refine AllReadyH.cons (o := ⟨_, _, _, _, _, _⟩) rfl (fun K hK => ?_) ?_
                · -- 10
                  go_simp
                  have hbx := Aid.b1 wd3 (.cells #[.slice none 0 0] 27)
                  have kA := heap_alloc_new wd3 (.cells #[.slice none 0 0] 27)
                  have gA0 := hX.size
                  refine hK.out _ _ (HQ.out _ (Aid.bt hX hbx)) (fun hHeld => ?_)
                  clear hK K hHeld
                  try simp only [Act.put, List.setIfInBounds_toArray, List.set_cons_zero, List.set_cons_succ]
                  have hne : gB ≠ wd3.heap.size := Nat.ne_of_lt (Aid.blk_lt kB)
                  replace hX := Aid.bt hX hbx
                  replace htx := htx.below hbx
                  replace hty := hty.below hbx
                  replace htz := htz.below hbx
                  replace htu1 := htu1.below hbx
                  replace htu2 := htu2.below hbx
                  replace kB := Aid.blk hbx kB
                  clear hbx
                  generalize wd3.alloc (.cells #[.slice none 0 0] 27) = wd4 at *
                  generalize wd3.heap.size = gA at *
                  try clear wd3
                  refine wpAnyH_ready (rs := [7]) (by kernel_rfl) (by simp) ?_
                  refine AllReadyH.cons (o := ⟨_, _, _, _, _, _⟩) rfl (fun K hK => ?_) ?_
                  · -- 7
                    go_simp
                    refine (Tryd.t_Over2 (k := 2) _ htx hty nA nB (by decide) (by decide) (by omega) HAB).mono ?_
                    rintro e wd5 ⟨au3, cu3, vu3, rfl, nu3, htu3, hbx⟩
                    go_wp2_with fail
                    refine hK.out _ _ (HQ.out _ (Aid.bt hX hbx)) (fun hHeld => ?_)
                    clear hK K hHeld
                    try simp only [Act.put, List.setIfInBounds_toArray, List.set_cons_zero, List.set_cons_succ]
                    replace hX := Aid.bt hX hbx
                    replace htx := htx.below hbx
                    replace hty := hty.below hbx
                    replace htz := htz.below hbx
                    replace htu1 := htu1.below hbx
                    replace htu2 := htu2.below hbx
                    replace kB := Aid.blk hbx kB
                    replace kA := Aid.blk hbx kA
                    clear hbx
                    clear wd4
                    refine wpAnyH_ready (rs := [9]) (by kernel_rfl) (by simp) ?_
                    refine AllReadyH.cons (o := ⟨_, _, _, _, _, _⟩) rfl (fun K hK => ?_) ?_
                    · -- 9
                      go_simp
                      refine (Tryd.t_Over2 (k := 3) _ htu3 htz nu3 nC (by decide) (by decide) (by omega) HE).mono ?_
                      rintro e wd6 ⟨au4, cu4, vu4, rfl, nu4, htu4, hbx⟩
                      go_wp2_with fail
                      refine hK.out _ _ (HQ.out _ (Aid.bt hX hbx)) (fun hHeld => ?_)
                      clear hK K hHeld
                      try simp only [Act.put, List.setIfInBounds_toArray, List.set_cons_zero, List.set_cons_succ]
                      replace hX := Aid.bt hX hbx
                      replace htx := htx.below hbx
                      replace hty := hty.below hbx
                      replace htz := htz.below hbx
                      replace htu1 := htu1.below hbx
                      replace htu2 := htu2.below hbx
                      replace htu3 := htu3.below hbx
                      replace kB := Aid.blk hbx kB
                      replace kA := Aid.blk hbx kA
                      clear hbx
                      clear wd5
                      refine wpAnyH_ready (rs := [12]) (by kernel_rfl) (by simp) ?_
                      refine AllReadyH.cons (o := ⟨_, _, _, _, _, _⟩) rfl (fun K hK => ?_) ?_
                      · -- 12
                        obtain ⟨z0, z1⟩ := Aid.one kA
                        go_simp
                        have hX2 : Below w11.heap.size w11 (wd6.setCell ⟨gA, 0, none⟩ (.slice au2 vu2.length cu2)) := hX.setCell gA0 _
                        refine hK.out _ _ (HQ.out _ hX2) (fun hHeld => ?_)
                        clear hK K hHeld
                        try simp only [Act.put, List.setIfInBounds_toArray, List.set_cons_zero, List.set_cons_succ]
                        replace hX := hX2
                        replace htu2 := htu2.set (u := .slice au2 vu2.length cu2) (j := 0) ⟨_, _, kA⟩ (by decide) (by decide) (by decide)
                        replace htu4 := htu4.set (u := .slice au2 vu2.length cu2) (j := 0) ⟨_, _, kA⟩ (by decide) (by decide) (by decide)
                        replace kB := Aid.set_far (u := .slice au2 vu2.length cu2) kB (hne.symm)
                        replace kA := Aid.set_same (u := .slice au2 vu2.length cu2) kA
                        clear hX2 z0 z1
                        generalize wd6.setCell ⟨gA, 0, none⟩ (.slice au2 vu2.length cu2) = wd7 at *
                        try clear wd6
                        refine wpAnyH_ready (rs := [13]) (by kernel_rfl) (by simp) ?_
                        refine AllReadyH.cons (o := ⟨_, _, _, _, _, _⟩) rfl (fun K hK => ?_) ?_
                        · -- 13
                          obtain ⟨z0, z1⟩ := Aid.one kB
                          go_simp
                          have hX2 : Below w11.heap.size w11 (wd7.setCell ⟨gB, 0, none⟩ (.slice au4 vu4.length cu4)) := hX.setCell gB0 _
                          refine hK.out _ _ (HQ.out _ hX2) (fun hHeld => ?_)
                          clear hK K hHeld
                          try simp only [Act.put, List.setIfInBounds_toArray, List.set_cons_zero, List.set_cons_succ]
                          replace hX := hX2
                          replace htu2 := htu2.set (u := .slice au4 vu4.length cu4) (j := 0) ⟨_, _, kB⟩ (by decide) (by decide) (by decide)
                          replace htu4 := htu4.set (u := .slice au4 vu4.length cu4) (j := 0) ⟨_, _, kB⟩ (by decide) (by decide) (by decide)
                          replace kA := Aid.set_far (u := .slice au4 vu4.length cu4) kA (hne)
                          replace kB := Aid.set_same (u := .slice au4 vu4.length cu4) kB
                          clear hX2 z0 z1
                          generalize wd7.setCell ⟨gB, 0, none⟩ (.slice au4 vu4.length cu4) = wd8 at *
                          try clear wd7
                          refine wpAnyH_done (by kernel_rfl) ?_ _
                          go_wp2_with fail
                          go_meet
                          exact ⟨gA, gB, au2, au4, cu2, cu4, vu2, vu4, rfl, rfl, (Aid.one kA).1, (Aid.one kB).1, htu2, htu4, hX⟩
                        exact AllReadyH.nil
                      exact AllReadyH.nil
                    exact AllReadyH.nil
                  exact AllReadyH.nil
                exact AllReadyH.nil
              refine AllReadyH.cons (o := ⟨_, _, _, _, _, _⟩) rfl (fun K hK => ?_) ?_
              · -- 10
                go_simp
                have hbx := Aid.b1 wd2 (.cells #[.slice none 0 0] 27)
                have kA := heap_alloc_new wd2 (.cells #[.slice none 0 0] 27)
                have gA0 := hX.size
                refine hK.out _ _ (HQ.out _ (Aid.bt hX hbx)) (fun hHeld => ?_)
                clear hK K hHeld
                try simp only [Act.put, List.setIfInBounds_toArray, List.set_cons_zero, List.set_cons_succ]
                have hne : gB ≠ wd2.heap.size := Nat.ne_of_lt (Aid.blk_lt kB)
                replace hX := Aid.bt hX hbx
                replace htx := htx.below hbx
                replace hty := hty.below hbx
                replace htz := htz.below hbx
                replace htu1 := htu1.below hbx
                replace kB := Aid.blk hbx kB
                clear hbx
                generalize wd2.alloc (.cells #[.slice none 0 0] 27) = wd3 at *
                generalize wd2.heap.size = gA at *
                try clear wd2
                refine wpAnyH_ready (rs := [4]) (by kernel_rfl) (by simp) ?_
                refine AllReadyH.cons (o := ⟨_, _, _, _, _, _⟩) rfl (fun K hK => ?_) ?_
                · -- 4
                  go_simp
                  refine (Tryd.t_Over2 (k := 3) _ htx htu1 nA nu1 (by decide) (by decide) (by omega) HABC).mono ?_
                  rintro e wd4 ⟨au2, cu2, vu2, rfl, nu2, htu2, hbx⟩
                  go_wp2_with fail
                  refine hK.out _ _ (HQ.out _ (Aid.bt hX hbx)) (fun hHeld => ?_)
                  clear hK K hHeld
                  try simp only [Act.put, List.setIfInBounds_toArray, List.set_cons_zero, List.set_cons_succ]
                  replace hX := Aid.bt hX hbx
                  replace htx := htx.below hbx
                  replace hty := hty.below hbx
                  replace htz := htz.below hbx
                  replace htu1 := htu1.below hbx
                  replace kB := Aid.blk hbx kB
                  replace kA := Aid.blk hbx kA
                  clear hbx
                  clear wd3
                  refine wpAnyH_ready (rs := [7]) (by kernel_rfl) (by simp) ?_
                  refine AllReadyH.cons (o := ⟨_, _, _, _, _, _⟩) rfl (fun K hK => ?_) ?_
                  · -- 7
                    go_simp
                    refine (Tryd.t_Over2 (k := 2) _ htx hty nA nB (by decide) (by decide) (by omega) HAB).mono ?_
                    rintro e wd5 ⟨au3, cu3, vu3, rfl, nu3, htu3, hbx⟩
                    go_wp2_with fail
                    refine hK.out _ _ (HQ.out _ (Aid.bt hX hbx)) (fun hHeld => ?_)
                    clear hK K hHeld
                    try simp only [Act.put, List.setIfInBounds_toArray, List.set_cons_zero, List.set_cons_succ]
                    replace hX := Aid.bt hX hbx
                    replace htx := htx.below hbx
                    replace hty := hty.below hbx
                    replace htz := htz.below hbx
                    replace htu1 := htu1.below hbx
                    replace htu2 := htu2.below hbx
                    replace kB := Aid.blk hbx kB
                    replace kA := Aid.blk hbx kA
                    clear hbx
                    clear wd4
                    refine wpAnyH_ready (rs := [9]) (by kernel_rfl) (by simp) ?_
                    refine AllReadyH.cons (o := ⟨_, _, _, _, _, _⟩) rfl (fun K hK => ?_) ?_
                    · -- 9
                      go_simp
                      refine (Tryd.t_Over2 (k := 3) _ htu3 htz nu3 nC (by decide) (by decide) (by omega) HE).mono ?_
                      rintro e wd6 ⟨au4, cu4, vu4, rfl, nu4, htu4, hbx⟩
                      go_wp2_with fail
                      refine hK.out _ _ (HQ.out _ (Aid.bt hX hbx)) (fun hHeld => ?_)
                      clear hK K hHeld
                      try simp only [Act.put, List.setIfInBounds_toArray, List.set_cons_zero, List.set_cons_succ]
                      replace hX := Aid.bt hX hbx
                      replace htx := htx.below hbx
                      replace hty := hty.below hbx
                      replace htz := htz.below hbx
                      replace htu1 := htu1.below hbx
                      replace htu2 := htu2.below hbx
                      replace htu3 := htu3.below hbx
                      replace kB := Aid.blk hbx kB
                      replace kA := Aid.blk hbx kA
                      clear hbx
                      clear wd5
                      refine wpAnyH_ready (rs := [12]) (by kernel_rfl) (by simp) ?_
                      refine AllReadyH.cons (o := ⟨_, _, _, _, _, _⟩) rfl (fun K hK => ?_) ?_
                      · -- 12
                        obtain ⟨z0, z1⟩ := Aid.one kA
                        go_simp
                        have hX2 : Below w11.heap.size w11 (wd6.setCell ⟨gA, 0, none⟩ (.slice au2 vu2.length cu2)) := hX.setCell gA0 _
                        refine hK.out _ _ (HQ.out _ hX2) (fun hHeld => ?_)
                        clear hK K hHeld
                        try simp only [Act.put, List.setIfInBounds_toArray, List.set_cons_zero, List.set_cons_succ]
                        replace hX := hX2
                        replace htu2 := htu2.set (u := .slice au2 vu2.length cu2) (j := 0) ⟨_, _, kA⟩ (by decide) (by decide) (by decide)
                        replace htu4 := htu4.set (u := .slice au2 vu2.length cu2) (j := 0) ⟨_, _, kA⟩ (by decide) (by decide) (by decide)
                        replace kB := Aid.set_far (u := .slice au2 vu2.length cu2) kB (hne.symm)
                        replace kA := Aid.set_same (u := .slice au2 vu2.length cu2) kA
                        clear hX2 z0 z1
                        generalize wd6.setCell ⟨gA, 0, none⟩ (.slice au2 vu2.length cu2) = wd7 at *
                        try clear wd6
                        refine wpAnyH_ready (rs := [13]) (by kernel_rfl) (by simp) ?_
                        refine AllReadyH.cons (o := ⟨_, _, _, _, _, _⟩) rfl (fun K hK => ?_) ?_
                        · -- 13
                          obtain ⟨z0, z1⟩ := Aid.one kB
                          go_simp
                          have hX2 : Below w11.heap.size w11 (wd7.setCell ⟨gB, 0, none⟩ (.slice au4 vu4.length cu4)) := hX.setCell gB0 _
                          refine hK.out _ _ (HQ.out _ hX2) (fun hHeld => ?_)
                          clear hK K hHeld
                          try simp only [Act.put, List.setIfInBounds_toArray, List.set_cons_zero, List.set_cons_succ]
                          replace hX := hX2
                          replace htu2 := htu2.set (u := .slice au4 vu4.length cu4) (j := 0) ⟨_, _, kB⟩ (by decide) (by decide) (by decide)
                          replace htu4 := htu4.set (u := .slice au4 vu4.length cu4) (j := 0) ⟨_, _, kB⟩ (by decide) (by decide) (by decide)
                          replace kA := Aid.set_far (u := .slice au4 vu4.length cu4) kA (hne)
                          replace kB := Aid.set_same (u := .slice au4 vu4.length cu4) kB
                          clear hX2 z0 z1
                          generalize wd7.setCell ⟨gB, 0, none⟩ (.slice au4 vu4.length cu4) = wd8 at *
                          try clear wd7
                          refine wpAnyH_done (by kernel_rfl) ?_ _
                          go_wp2_with fail
                          go_meet
                          exact ⟨gA, gB, au2, au4, cu2, cu4, vu2, vu4, rfl, rfl, (Aid.one kA).1, (Aid.one kB).1, htu2, htu4, hX⟩
                        exact AllReadyH.nil
                      exact AllReadyH.nil
                    exact AllReadyH.nil
                  exact AllReadyH.nil
                exact AllReadyH.nil
              exact AllReadyH.nil
            refine AllReadyH.cons (o := ⟨_, _, _, _, _, _⟩) rfl (fun K hK => ?_) ?_
            · -- 10
              go_simp
              have hbx := Aid.b1 wd1 (.cells #[.slice none 0 0] 27)
              have kA := heap_alloc_new wd1 (.cells #[.slice none 0 0] 27)
              have gA0 := hX.size
              refine hK.out _ _ (HQ.out _ (Aid.bt hX hbx)) (fun hHeld => ?_)
              clear hK K hHeld
              try simp only [Act.put, List.setIfInBounds_toArray, List.set_cons_zero, List.set_cons_succ]
              have hne : gB ≠ wd1.heap.size := Nat.ne_of_lt (Aid.blk_lt kB)
              replace hX := Aid.bt hX hbx
              replace htx := htx.below hbx
              replace hty := hty.below hbx
              replace htz := htz.below hbx
              replace kB := Aid.blk hbx kB
              clear hbx
              generalize wd1.alloc (.cells #[.slice none 0 0] 27) = wd2 at *
              generalize wd1.heap.size = gA at *
              try clear wd1
              refine wpAnyH_ready (rs := [3]) (by kernel_rfl) (by simp) ?_
              refine AllReadyH.cons (o := ⟨_, _, _, _, _, _⟩) rfl (fun K hK => ?_) ?_
              · -- 3
                go_simp
                refine (Tryd.t_Over2 (k := 2) _ hty htz nB nC (by decide) (by decide) (by omega) HBC).mono ?_
                rintro e wd3 ⟨au1, cu1, vu1, rfl, nu1, htu1, hbx⟩
                go_wp2_with fail
                refine hK.out _ _ (HQ.out _ (Aid.bt hX hbx)) (fun hHeld => ?_)
                clear hK K hHeld
                try simp only [Act.put, List.setIfInBounds_toArray, List.set_cons_zero, List.set_cons_succ]
                replace hX := Aid.bt hX hbx
                replace htx := htx.below hbx
                replace hty := hty.below hbx
                replace htz := htz.below hbx
                replace kB := Aid.blk hbx kB
                replace kA := Aid.blk hbx kA
                clear hbx
                clear wd2
                refine wpAnyH_ready (rs := [4]) (by kernel_rfl) (by simp) ?_
                refine AllReadyH.cons (o := ⟨_, _, _, _, _, _⟩) rfl (fun K hK => ?_) ?_
                · -- 4
                  go_simp
                  refine (Tryd.t_Over2 (k := 3) _ htx htu1 nA nu1 (by decide) (by decide) (by omega) HABC).mono ?_
                  rintro e wd4 ⟨au2, cu2, vu2, rfl, nu2, htu2, hbx⟩
                  go_wp2_with fail
                  refine hK.out _ _ (HQ.out _ (Aid.bt hX hbx)) (fun hHeld => ?_)
                  clear hK K hHeld
                  try simp only [Act.put, List.setIfInBounds_toArray, List.set_cons_zero, List.set_cons_succ]
                  replace hX := Aid.bt hX hbx
                  replace htx := htx.below hbx
                  replace hty := hty.below hbx
                  replace htz := htz.below hbx
                  replace htu1 := htu1.below hbx
                  replace kB := Aid.blk hbx kB
                  replace kA := Aid.blk hbx kA
                  clear hbx
                  clear wd3
                  refine wpAnyH_ready (rs := [7]) (by kernel_rfl) (by simp) ?_
                  refine AllReadyH.cons (o := ⟨_, _, _, _, _, _⟩) rfl (fun K hK => ?_) ?_
                  · -- 7
                    go_simp
                    refine (Tryd.t_Over2 (k := 2) _ htx hty nA nB (by decide) (by decide) (by omega) HAB).mono ?_
                    rintro e wd5 ⟨au3, cu3, vu3, rfl, nu3, htu3, hbx⟩
                    go_wp2_with fail
                    refine hK.out _ _ (HQ.out _ (Aid.bt hX hbx)) (fun hHeld => ?_)
                    clear hK K hHeld
                    try simp only [Act.put, List.setIfInBounds_toArray, List.set_cons_zero, List.set_cons_succ]
                    replace hX := Aid.bt hX hbx
                    replace htx := htx.below hbx
                    replace hty := hty.below hbx
                    replace htz := htz.below hbx
                    replace htu1 := htu1.below hbx
                    replace htu2 := htu2.below hbx
                    replace kB := Aid.blk hbx kB
                    replace kA := Aid.blk hbx kA
                    clear hbx
                    clear wd4
                    refine wpAnyH_ready (rs := [9]) (by kernel_rfl) (by simp) ?_
                    refine AllReadyH.cons (o := ⟨_, _, _, _, _, _⟩) rfl (fun K hK => ?_) ?_
                    · -- 9
                      go_simp
                      refine (Tryd.t_Over2 (k := 3) _ htu3 htz nu3 nC (by decide) (by decide) (by omega) HE).mono ?_
                      rintro e wd6 ⟨au4, cu4, vu4, rfl, nu4, htu4, hbx⟩
                      go_wp2_with fail
                      refine hK.out _ _ (HQ.out _ (Aid.bt hX hbx)) (fun hHeld => ?_)
                      clear hK K hHeld
                      try simp only [Act.put, List.setIfInBounds_toArray, List.set_cons_zero, List.set_cons_succ]
                      replace hX := Aid.bt hX hbx
                      replace htx := htx.below hbx
                      replace hty := hty.below hbx
                      replace htz := htz.below hbx
                      replace htu1 := htu1.below hbx
                      replace htu2 := htu2.below hbx
                      replace htu3 := htu3.below hbx
                      replace kB := Aid.blk hbx kB
                      replace kA := Aid.blk hbx kA
                      clear hbx
                      clear wd5
                      refine wpAnyH_ready (rs := [12]) (by kernel_rfl) (by simp) ?_
                      refine AllReadyH.cons (o := ⟨_, _, _, _, _, _⟩) rfl (fun K hK => ?_) ?_
                      · -- 12
                        obtain ⟨z0, z1⟩ := Aid.one kA
                        go_simp
                        have hX2 : Below w11.heap.size w11 (wd6.setCell ⟨gA, 0, none⟩ (.slice au2 vu2.length cu2)) := hX.setCell gA0 _
                        refine hK.out _ _ (HQ.out _ hX2) (fun hHeld => ?_)
                        clear hK K hHeld
                        try simp only [Act.put, List.setIfInBounds_toArray, List.set_cons_zero, List.set_cons_succ]
                        replace hX := hX2
                        replace htu2 := htu2.set (u := .slice au2 vu2.length cu2) (j := 0) ⟨_, _, kA⟩ (by decide) (by decide) (by decide)
                        replace htu4 := htu4.set (u := .slice au2 vu2.length cu2) (j := 0) ⟨_, _, kA⟩ (by decide) (by decide) (by decide)
                        replace kB := Aid.set_far (u := .slice au2 vu2.length cu2) kB (hne.symm)
                        replace kA := Aid.set_same (u := .slice au2 vu2.length cu2) kA
                        clear hX2 z0 z1
                        generalize wd6.setCell ⟨gA, 0, none⟩ (.slice au2 vu2.length cu2) = wd7 at *
                        try clear wd6
                        refine wpAnyH_ready (rs := [13]) (by kernel_rfl) (by simp) ?_
                        refine AllReadyH.cons (o := ⟨_, _, _, _, _, _⟩) rfl (fun K hK => ?_) ?_
                        · -- 13
                          obtain ⟨z0, z1⟩ := Aid.one kB
                          go_simp
                          have hX2 : Below w11.heap.size w11 (wd7.setCell ⟨gB, 0, none⟩ (.slice au4 vu4.length cu4)) := hX.setCell gB0 _
                          refine hK.out _ _ (HQ.out _ hX2) (fun hHeld => ?_)
                          clear hK K hHeld
                          try simp only [Act.put, List.setIfInBounds_toArray, List.set_cons_zero, List.set_cons_succ]
                          replace hX := hX2
                          replace htu2 := htu2.set (u := .slice au4 vu4.length cu4) (j := 0) ⟨_, _, kB⟩ (by decide) (by decide) (by decide)
                          replace htu4 := htu4.set (u := .slice au4 vu4.length cu4) (j := 0) ⟨_, _, kB⟩ (by decide) (by decide) (by decide)
                          replace kA := Aid.set_far (u := .slice au4 vu4.length cu4) kA (hne)
                          replace kB := Aid.set_same (u := .slice au4 vu4.length cu4) kB
                          clear hX2 z0 z1
                          generalize wd7.setCell ⟨gB, 0, none⟩ (.slice au4 vu4.length cu4) = wd8 at *
                          try clear wd7
                          refine wpAnyH_done (by kernel_rfl) ?_ _
                          go_wp2_with fail
                          go_meet
                          exact ⟨gA, gB, au2, au4, cu2, cu4, vu2, vu4, rfl, rfl, (Aid.one kA).1, (Aid.one kB).1, htu2, htu4, hX⟩
                        exact AllReadyH.nil
                      exact AllReadyH.nil
                    exact AllReadyH.nil
                  exact AllReadyH.nil
                exact AllReadyH.nil
              exact AllReadyH.nil
            exact AllReadyH.nil
          exact AllReadyH.nil
        case rest =>
          obtain ⟨g1, g2, a1, a2, c1, c2, v1, v2, rfl, rfl, x1, x2, t1, t2, hbc⟩ := hcut
          replace htx := htx.below hbc
          replace hty := hty.below hbc
          replace hm1 := hm1.below hbc
          replace hm2 := hm2.below hbc
          replace hm5 := hm5.below hbc
          replace qx := Aid.cell_ext hbc qx
          replace qy := Aid.cell_ext hbc qy
          have hB := Aid.bt hB hbc
          clear htz kx ky kz qz HE HAB HBC HABC
          have n1 : lw.length ≤ 100000 := by omega
          have n2 : la.length ≤ 100000 := by omega
          have n3 : lb.length ≤ 100000 := by omega
          clear hbc mBC mAB mABC mA mB mC nA nB nC
          rcases HFCH.out with ⟨i, hi, f1, f2, _⟩ | ⟨f1, f2⟩
          · have FW := Aid.Hid2.mk f1
            have FI := Aid.Hid2.mk f2
            clear f1 f2
            obtain ⟨yb, yo, rfl, y0, y1⟩ := hm5.get hi
            generalize lw[i] = q at *
            obtain ⟨q1, q2⟩ := q
            simp only at y0 y1 FW
            have hi' : (i : Int) < (lw.length : Int) := by omega
            clear y0
            rcases HRCH.out with ⟨k, k0, k1, r1, r2⟩ | ⟨r1, r2⟩
            · have RV := Aid.Hid2.mk r1
              have RR := Aid.Hid2.mk r2
              clear r1 r2 HFCH HRCH
              go_wp2_with fail
              refine (Tryd.t_Is cp5 _ t1 hm5 n1).mono ?_
              rintro e wr0 ⟨rfl, hbr⟩
              replace htx := htx.below hbr
              replace hty := hty.below hbr
              replace hm1 := hm1.below hbr
              replace hm2 := hm2.below hbr
              replace hm5 := hm5.below hbr
              replace t1 := t1.below hbr
              replace t2 := t2.below hbr
              replace qx := Aid.cell_ext hbr qx
              replace qy := Aid.cell_ext hbr qy
              replace x1 := Aid.cell_ext hbr x1
              replace x2 := Aid.cell_ext hbr x2
              replace y1 := Aid.cell_ext hbr y1
              replace hB := Aid.bt hB hbr
              clear hbr
              go_wp2_with fail
              refine (Tryd.t_Is cp5 _ t2 hm5 n1).mono ?_
              rintro e wr1 ⟨rfl, hbr⟩
              replace htx := htx.below hbr
              replace hty := hty.below hbr
              replace hm1 := hm1.below hbr
              replace hm2 := hm2.below hbr
              replace hm5 := hm5.below hbr
              replace t1 := t1.below hbr
              replace t2 := t2.below hbr
              replace qx := Aid.cell_ext hbr qx
              replace qy := Aid.cell_ext hbr qy
              replace x1 := Aid.cell_ext hbr x1
              replace x2 := Aid.cell_ext hbr x2
              replace y1 := Aid.cell_ext hbr y1
              replace hB := Aid.bt hB hbr
              clear hbr
              go_wp2_with fail
              refine (Tryd.t_Is cp1 _ htx hm1 n2).mono ?_
              rintro e wr2 ⟨rfl, hbr⟩
              replace htx := htx.below hbr
              replace hty := hty.below hbr
              replace hm1 := hm1.below hbr
              replace hm2 := hm2.below hbr
              replace hm5 := hm5.below hbr
              replace t1 := t1.below hbr
              replace t2 := t2.below hbr
              replace qx := Aid.cell_ext hbr qx
              replace qy := Aid.cell_ext hbr qy
              replace x1 := Aid.cell_ext hbr x1
              replace x2 := Aid.cell_ext hbr x2
              replace y1 := Aid.cell_ext hbr y1
              replace hB := Aid.bt hB hbr
              clear hbr
              go_wp2_with fail
              refine (Tryd.t_Is cp2 _ hty hm2 n3).mono ?_
              rintro e wr3 ⟨rfl, hbr⟩
              replace htx := htx.below hbr
              replace hty := hty.below hbr
              replace hm1 := hm1.below hbr
              replace hm2 := hm2.below hbr
              replace hm5 := hm5.below hbr
              replace t1 := t1.below hbr
              replace t2 := t2.below hbr
              replace qx := Aid.cell_ext hbr qx
              replace qy := Aid.cell_ext hbr qy
              replace x1 := Aid.cell_ext hbr x1
              replace x2 := Aid.cell_ext hbr x2
              replace y1 := Aid.cell_ext hbr y1
              replace hB := Aid.bt hB hbr
              clear hbr
              go_wp2_with fail
              refine (Tryd.t_Forward code _ t1 hcode).mono ?_
              rw [FW.out]
              rintro e wr4 ⟨rfl, hbr⟩
              replace htx := htx.below hbr
              replace hty := hty.below hbr
              replace hm1 := hm1.below hbr
              replace hm2 := hm2.below hbr
              replace hm5 := hm5.below hbr
              replace t1 := t1.below hbr
              replace t2 := t2.below hbr
              replace qx := Aid.cell_ext hbr qx
              replace qy := Aid.cell_ext hbr qy
              replace x1 := Aid.cell_ext hbr x1
              replace x2 := Aid.cell_ext hbr x2
              replace y1 := Aid.cell_ext hbr y1
              replace hB := Aid.bt hB hbr
              clear hbr
              go_wp2_with fail
              refine (Tryd.c_rFind _ lw cp5 code _ hm5 (by omega)).mono ?_
              rw [FI.out]
              rintro e wr5 ⟨rfl, rfl⟩
              go_wp2_with fail
              refine (Tryd.t_Reverse p _ t2 hp).mono ?_
              rw [RV.out]
              rintro e wr6 ⟨rfl, hbr⟩
              replace htx := htx.below hbr
              replace hty := hty.below hbr
              replace hm1 := hm1.below hbr
              replace hm2 := hm2.below hbr
              replace hm5 := hm5.below hbr
              replace t1 := t1.below hbr
              replace t2 := t2.below hbr
              replace qx := Aid.cell_ext hbr qx
              replace qy := Aid.cell_ext hbr qy
              replace x1 := Aid.cell_ext hbr x1
              replace x2 := Aid.cell_ext hbr x2
              replace y1 := Aid.cell_ext hbr y1
              replace hB := Aid.bt hB hbr
              clear hbr
              go_wp2_with fail
              refine (Tryd.c_rReverse _ lw cp5 p _ hm5 (by omega)).mono ?_
              rw [RR.out]
              rintro e wr7 ⟨rfl, rfl⟩
              go_wp2_with fail
              refine (Tryd.c_awake04 _ (hT.below hB)).mono ?_
              rintro e wr8 ⟨rfl, hbr⟩
              replace y1 := Aid.cell_ext hbr y1
              go_wp2
              go_ret
              exact ⟨rfl, Aid.bt hB hbr⟩
            · have RV := Aid.Hid2.mk r1
              have RR := Aid.Hid2.mk r2
              clear r1 r2 HFCH HRCH
              go_wp2_with fail
              refine (Tryd.t_Is cp5 _ t1 hm5 n1).mono ?_
              rintro e wr0 ⟨rfl, hbr⟩
              replace htx := htx.below hbr
              replace hty := hty.below hbr
              replace hm1 := hm1.below hbr
              replace hm2 := hm2.below hbr
              replace hm5 := hm5.below hbr
              replace t1 := t1.below hbr
              replace t2 := t2.below hbr
              replace qx := Aid.cell_ext hbr qx
              replace qy := Aid.cell_ext hbr qy
              replace x1 := Aid.cell_ext hbr x1
              replace x2 := Aid.cell_ext hbr x2
              replace y1 := Aid.cell_ext hbr y1
              replace hB := Aid.bt hB hbr
              clear hbr
              go_wp2_with fail
              refine (Tryd.t_Is cp5 _ t2 hm5 n1).mono ?_
              rintro e wr1 ⟨rfl, hbr⟩
              replace htx := htx.below hbr
              replace hty := hty.below hbr
              replace hm1 := hm1.below hbr
              replace hm2 := hm2.below hbr
              replace hm5 := hm5.below hbr
              replace t1 := t1.below hbr
              replace t2 := t2.below hbr
              replace qx := Aid.cell_ext hbr qx
              replace qy := Aid.cell_ext hbr qy
              replace x1 := Aid.cell_ext hbr x1
              replace x2 := Aid.cell_ext hbr x2
              replace y1 := Aid.cell_ext hbr y1
              replace hB := Aid.bt hB hbr
              clear hbr
              go_wp2_with fail
              refine (Tryd.t_Is cp1 _ htx hm1 n2).mono ?_
              rintro e wr2 ⟨rfl, hbr⟩
              replace htx := htx.below hbr
              replace hty := hty.below hbr
              replace hm1 := hm1.below hbr
              replace hm2 := hm2.below hbr
              replace hm5 := hm5.below hbr
              replace t1 := t1.below hbr
              replace t2 := t2.below hbr
              replace qx := Aid.cell_ext hbr qx
              replace qy := Aid.cell_ext hbr qy
              replace x1 := Aid.cell_ext hbr x1
              replace x2 := Aid.cell_ext hbr x2
              replace y1 := Aid.cell_ext hbr y1
              replace hB := Aid.bt hB hbr
              clear hbr
              go_wp2_with fail
              refine (Tryd.t_Is cp2 _ hty hm2 n3).mono ?_
              rintro e wr3 ⟨rfl, hbr⟩
              replace htx := htx.below hbr
              replace hty := hty.below hbr
              replace hm1 := hm1.below hbr
              replace hm2 := hm2.below hbr
              replace hm5 := hm5.below hbr
              replace t1 := t1.below hbr
              replace t2 := t2.below hbr
              replace qx := Aid.cell_ext hbr qx
              replace qy := Aid.cell_ext hbr qy
              replace x1 := Aid.cell_ext hbr x1
              replace x2 := Aid.cell_ext hbr x2
              replace y1 := Aid.cell_ext hbr y1
              replace hB := Aid.bt hB hbr
              clear hbr
              go_wp2_with fail
              refine (Tryd.t_Forward code _ t1 hcode).mono ?_
              rw [FW.out]
              rintro e wr4 ⟨rfl, hbr⟩
              replace htx := htx.below hbr
              replace hty := hty.below hbr
              replace hm1 := hm1.below hbr
              replace hm2 := hm2.below hbr
              replace hm5 := hm5.below hbr
              replace t1 := t1.below hbr
              replace t2 := t2.below hbr
              replace qx := Aid.cell_ext hbr qx
              replace qy := Aid.cell_ext hbr qy
              replace x1 := Aid.cell_ext hbr x1
              replace x2 := Aid.cell_ext hbr x2
              replace y1 := Aid.cell_ext hbr y1
              replace hB := Aid.bt hB hbr
              clear hbr
              go_wp2_with fail
              refine (Tryd.c_rFind _ lw cp5 code _ hm5 (by omega)).mono ?_
              rw [FI.out]
              rintro e wr5 ⟨rfl, rfl⟩
              go_wp2_with fail
              refine (Tryd.t_Reverse p _ t2 hp).mono ?_
              rw [RV.out]
              rintro e wr6 ⟨rfl, hbr⟩
              replace htx := htx.below hbr
              replace hty := hty.below hbr
              replace hm1 := hm1.below hbr
              replace hm2 := hm2.below hbr
              replace hm5 := hm5.below hbr
              replace t1 := t1.below hbr
              replace t2 := t2.below hbr
              replace qx := Aid.cell_ext hbr qx
              replace qy := Aid.cell_ext hbr qy
              replace x1 := Aid.cell_ext hbr x1
              replace x2 := Aid.cell_ext hbr x2
              replace y1 := Aid.cell_ext hbr y1
              replace hB := Aid.bt hB hbr
              clear hbr
              go_wp2_with fail
              refine (Tryd.c_rReverse _ lw cp5 p _ hm5 (by omega)).mono ?_
              rw [RR.out]
              rintro e wr7 ⟨rfl, rfl⟩
              go_wp2_with fail
              refine (Tryd.c_awake04 _ (hT.below hB)).mono ?_
              rintro e wr8 ⟨rfl, hbr⟩
              replace y1 := Aid.cell_ext hbr y1
              go_wp2
              go_ret
              exact ⟨rfl, Aid.bt hB hbr⟩
          · have FW := Aid.Hid2.mk f1
            have FI := Aid.Hid2.mk f2
            clear f1 f2
            rcases HRCH.out with ⟨k, k0, k1, r1, r2⟩ | ⟨r1, r2⟩
            · have RV := Aid.Hid2.mk r1
              have RR := Aid.Hid2.mk r2
              clear r1 r2 HFCH HRCH
              go_wp2_with fail
              refine (Tryd.t_Is cp5 _ t1 hm5 n1).mono ?_
              rintro e wr0 ⟨rfl, hbr⟩
              replace htx := htx.below hbr
              replace hty := hty.below hbr
              replace hm1 := hm1.below hbr
              replace hm2 := hm2.below hbr
              replace hm5 := hm5.below hbr
              replace t1 := t1.below hbr
              replace t2 := t2.below hbr
              replace qx := Aid.cell_ext hbr qx
              replace qy := Aid.cell_ext hbr qy
              replace x1 := Aid.cell_ext hbr x1
              replace x2 := Aid.cell_ext hbr x2
              replace hB := Aid.bt hB hbr
              clear hbr
              go_wp2_with fail
              refine (Tryd.t_Is cp5 _ t2 hm5 n1).mono ?_
              rintro e wr1 ⟨rfl, hbr⟩
              replace htx := htx.below hbr
              replace hty := hty.below hbr
              replace hm1 := hm1.below hbr
              replace hm2 := hm2.below hbr
              replace hm5 := hm5.below hbr
              replace t1 := t1.below hbr
              replace t2 := t2.below hbr
              replace qx := Aid.cell_ext hbr qx
              replace qy := Aid.cell_ext hbr qy
              replace x1 := Aid.cell_ext hbr x1
              replace x2 := Aid.cell_ext hbr x2
              replace hB := Aid.bt hB hbr
              clear hbr
              go_wp2_with fail
              refine (Tryd.t_Is cp1 _ htx hm1 n2).mono ?_
              rintro e wr2 ⟨rfl, hbr⟩
              replace htx := htx.below hbr
              replace hty := hty.below hbr
              replace hm1 := hm1.below hbr
              replace hm2 := hm2.below hbr
              replace hm5 := hm5.below hbr
              replace t1 := t1.below hbr
              replace t2 := t2.below hbr
              replace qx := Aid.cell_ext hbr qx
              replace qy := Aid.cell_ext hbr qy
              replace x1 := Aid.cell_ext hbr x1
              replace x2 := Aid.cell_ext hbr x2
              replace hB := Aid.bt hB hbr
              clear hbr
              go_wp2_with fail
              refine (Tryd.t_Is cp2 _ hty hm2 n3).mono ?_
              rintro e wr3 ⟨rfl, hbr⟩
              replace htx := htx.below hbr
              replace hty := hty.below hbr
              replace hm1 := hm1.below hbr
              replace hm2 := hm2.below hbr
              replace hm5 := hm5.below hbr
              replace t1 := t1.below hbr
              replace t2 := t2.below hbr
              replace qx := Aid.cell_ext hbr qx
              replace qy := Aid.cell_ext hbr qy
              replace x1 := Aid.cell_ext hbr x1
              replace x2 := Aid.cell_ext hbr x2
              replace hB := Aid.bt hB hbr
              clear hbr
              go_wp2_with fail
              refine (Tryd.t_Forward code _ t1 hcode).mono ?_
              rw [FW.out]
              rintro e wr4 ⟨rfl, hbr⟩
              replace htx := htx.below hbr
              replace hty := hty.below hbr
              replace hm1 := hm1.below hbr
              replace hm2 := hm2.below hbr
              replace hm5 := hm5.below hbr
              replace t1 := t1.below hbr
              replace t2 := t2.below hbr
              replace qx := Aid.cell_ext hbr qx
              replace qy := Aid.cell_ext hbr qy
              replace x1 := Aid.cell_ext hbr x1
              replace x2 := Aid.cell_ext hbr x2
              replace hB := Aid.bt hB hbr
              clear hbr
              go_wp2_with fail
              refine (Tryd.c_rFind _ lw cp5 code _ hm5 (by omega)).mono ?_
              rw [FI.out]
              rintro e wr5 ⟨rfl, rfl⟩
              go_wp2_with fail
              refine (Tryd.t_Reverse p _ t2 hp).mono ?_
              rw [RV.out]
              rintro e wr6 ⟨rfl, hbr⟩
              replace htx := htx.below hbr
              replace hty := hty.below hbr
              replace hm1 := hm1.below hbr
              replace hm2 := hm2.below hbr
              replace hm5 := hm5.below hbr
              replace t1 := t1.below hbr
              replace t2 := t2.below hbr
              replace qx := Aid.cell_ext hbr qx
              replace qy := Aid.cell_ext hbr qy
              replace x1 := Aid.cell_ext hbr x1
              replace x2 := Aid.cell_ext hbr x2
              replace hB := Aid.bt hB hbr
              clear hbr
              go_wp2_with fail
              refine (Tryd.c_rReverse _ lw cp5 p _ hm5 (by omega)).mono ?_
              rw [RR.out]
              rintro e wr7 ⟨rfl, rfl⟩
              go_wp2_with fail
              refine (Tryd.c_awake04 _ (hT.below hB)).mono ?_
              rintro e wr8 ⟨rfl, hbr⟩
              go_wp2
              go_ret
              exact ⟨rfl, Aid.bt hB hbr⟩
            · have RV := Aid.Hid2.mk r1
              have RR := Aid.Hid2.mk r2
              clear r1 r2 HFCH HRCH
              go_wp2_with fail
              refine (Tryd.t_Is cp5 _ t1 hm5 n1).mono ?_
              rintro e wr0 ⟨rfl, hbr⟩
              replace htx := htx.below hbr
              replace hty := hty.below hbr
              replace hm1 := hm1.below hbr
              replace hm2 := hm2.below hbr
              replace hm5 := hm5.below hbr
              replace t1 := t1.below hbr
              replace t2 := t2.below hbr
              replace qx := Aid.cell_ext hbr qx
              replace qy := Aid.cell_ext hbr qy
              replace x1 := Aid.cell_ext hbr x1
              replace x2 := Aid.cell_ext hbr x2
              replace hB := Aid.bt hB hbr
              clear hbr
              go_wp2_with fail
              refine (Tryd.t_Is cp5 _ t2 hm5 n1).mono ?_
              rintro e wr1 ⟨rfl, hbr⟩
              replace htx := htx.below hbr
              replace hty := hty.below hbr
              replace hm1 := hm1.below hbr
              replace hm2 := hm2.below hbr
              replace hm5 := hm5.below hbr
              replace t1 := t1.below hbr
              replace t2 := t2.below hbr
              replace qx := Aid.cell_ext hbr qx
              replace qy := Aid.cell_ext hbr qy
              replace x1 := Aid.cell_ext hbr x1
              replace x2 := Aid.cell_ext hbr x2
              replace hB := Aid.bt hB hbr
              clear hbr
              go_wp2_with fail
              refine (Tryd.t_Is cp1 _ htx hm1 n2).mono ?_
              rintro e wr2 ⟨rfl, hbr⟩
              replace htx := htx.below hbr
              replace hty := hty.below hbr
              replace hm1 := hm1.below hbr
              replace hm2 := hm2.below hbr
              replace hm5 := hm5.below hbr
              replace t1 := t1.below hbr
              replace t2 := t2.below hbr
              replace qx := Aid.cell_ext hbr qx
              replace qy := Aid.cell_ext hbr qy
              replace x1 := Aid.cell_ext hbr x1
              replace x2 := Aid.cell_ext hbr x2
              replace hB := Aid.bt hB hbr
              clear hbr
              go_wp2_with fail
              refine (Tryd.t_Is cp2 _ hty hm2 n3).mono ?_
              rintro e wr3 ⟨rfl, hbr⟩
              replace htx := htx.below hbr
              replace hty := hty.below hbr
              replace hm1 := hm1.below hbr
              replace hm2 := hm2.below hbr
              replace hm5 := hm5.below hbr
              replace t1 := t1.below hbr
              replace t2 := t2.below hbr
              replace qx := Aid.cell_ext hbr qx
              replace qy := Aid.cell_ext hbr qy
              replace x1 := Aid.cell_ext hbr x1
              replace x2 := Aid.cell_ext hbr x2
              replace hB := Aid.bt hB hbr
              clear hbr
              go_wp2_with fail
              refine (Tryd.t_Forward code _ t1 hcode).mono ?_
              rw [FW.out]
              rintro e wr4 ⟨rfl, hbr⟩
              replace htx := htx.below hbr
              replace hty := hty.below hbr
              replace hm1 := hm1.below hbr
              replace hm2 := hm2.below hbr
              replace hm5 := hm5.below hbr
              replace t1 := t1.below hbr
              replace t2 := t2.below hbr
              replace qx := Aid.cell_ext hbr qx
              replace qy := Aid.cell_ext hbr qy
              replace x1 := Aid.cell_ext hbr x1
              replace x2 := Aid.cell_ext hbr x2
              replace hB := Aid.bt hB hbr
              clear hbr
              go_wp2_with fail
              refine (Tryd.c_rFind _ lw cp5 code _ hm5 (by omega)).mono ?_
              rw [FI.out]
              rintro e wr5 ⟨rfl, rfl⟩
              go_wp2_with fail
              refine (Tryd.t_Reverse p _ t2 hp).mono ?_
              rw [RV.out]
              rintro e wr6 ⟨rfl, hbr⟩
              replace htx := htx.below hbr
              replace hty := hty.below hbr
              replace hm1 := hm1.below hbr
              replace hm2 := hm2.below hbr
              replace hm5 := hm5.below hbr
              replace t1 := t1.below hbr
              replace t2 := t2.below hbr
              replace qx := Aid.cell_ext hbr qx
              replace qy := Aid.cell_ext hbr qy
              replace x1 := Aid.cell_ext hbr x1
              replace x2 := Aid.cell_ext hbr x2
              replace hB := Aid.bt hB hbr
              clear hbr
              go_wp2_with fail
              refine (Tryd.c_rReverse _ lw cp5 p _ hm5 (by omega)).mono ?_
              rw [RR.out]
              rintro e wr7 ⟨rfl, rfl⟩
              go_wp2_with fail
              refine (Tryd.c_awake04 _ (hT.below hB)).mono ?_
              rintro e wr8 ⟨rfl, hbr⟩
              go_wp2
              go_ret
              exact ⟨rfl, Aid.bt hB hbr⟩
end Go.Proofs
