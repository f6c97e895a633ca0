/- walks of run: Over; tables as the laws see them: by their pairs (for the seats without layer 4's laws) -/
import Derived.Test.YtoaojojapebamaaGreatDoorM15
import Derived.Laws.AppendOwnNone
namespace Go.Proofs
open Go.RowKit

/-- a slice of one-cell elements that comes in -/
structure Dia.Src where
  a : Option Addr
  vals : List Value
  cap : Nat
def Dia.Src.v (s : Dia.Src) : Value := .slice s.a s.vals.length s.cap
def Dia.Src.In (w : World) (s : Dia.Src) : Prop := Aid.RowAt w s.a s.vals ∧ (s.a = none → s.cap = 0) ∧ ∀ u ∈ s.vals, u.oneCell' = true
theorem Dia.Src.In.below {w w' : World} {s : Dia.Src} (h : s.In w) (hb : Below w.heap.size w w') : s.In w' := ⟨h.1.below hb, h.2⟩
def Dia.Src.sum (l : List Dia.Src) : Nat := (l.map fun s => s.vals.length).sum
theorem Dia.sum_snoc (l : List Dia.Src) (s : Dia.Src) : Dia.Src.sum (l ++ [s]) = Dia.Src.sum l + s.vals.length := by simp [Dia.Src.sum]
theorem Dia.sum_flat (l : List Dia.Src) : (l.flatMap (·.vals)).length = Dia.Src.sum l := by
  induction l with
  | nil => rfl
  | cons s l ih => simp [Dia.Src.sum, List.flatMap_cons] at *
theorem Dia.sum_take (l : List Dia.Src) (k : Nat) : Dia.Src.sum (l.take k) ≤ Dia.Src.sum l := by
  have h := congrArg Dia.Src.sum (List.take_append_drop k l)
  simp only [Dia.Src.sum, List.map_append, List.sum_append] at *
  omega

set_option maxRecDepth 100000 in
theorem Tryz.c_Grow0 (w : World) : Calls Tryz.prog 105 #[.slice none 0 0, .int .i64 0] w fun e w' => e = .returned (.slice none 0 0) ∧ w' = w :=
  Any8.slices_Grow_room Tryz.growRows none 0 0 0 w (Nat.le_refl _) (by decide) (by decide) (by decide)
theorem Tryz.info_rows : (Tryz.prog.info? 94).map (fun i => (i.zero, i.size, i.bytes)) = some (some (.slice none 0 0), 1, 24) := by kernel_rfl
/-- what Grow hands back -/
def Tryz.IsRoom (w w' : World) (e : Ending) : Prop := ∃ v, e = .returned v ∧ w'.ownsRow w.heap.size 94 1 v 0 [] ∧ Below w.heap.size w w'
theorem Tryz.c_Grow (n : Nat) (hn : n ≤ 1000000) (w : World) : Calls Tryz.prog 105 #[.slice none 0 0, .int .i64 n] w fun e w' => Tryz.IsRoom w w' e := by
  by_cases h0 : n = 0
  · subst h0
    exact (Tryz.c_Grow0 w).mono fun e w' ⟨h1, h2⟩ => ⟨_, h1, World.ownsRow_nil _ _ _ _, by rw [h2]; exact Below.refl _ _⟩
  · obtain ⟨i0, hi, hz0, hz1, hz2⟩ := info_parts Tryz.info_rows
    have hcon := Any8.slices_Grow_grow Tryz.growRows i0 (.slice none 0 0) hi hz0 (by omega) none 0 0 n [] w (Nat.le_refl _) (by omega) (by rw [hz2]; omega) (by omega) (by simp) (fun _ => rfl) (fun a h => by cases h)
    change Calls Tryz.prog 105 _ _ _ at hcon
    refine hcon.mono fun e w' ⟨h1, h2⟩ => ⟨_, h1, ?_, ?_⟩
    · rw [h2]
      refine ⟨rfl, .inr ⟨w.heap.size, _, _, rfl, Nat.le_refl _, heap_alloc_new w.drew _, Nat.zero_le _, grownCap_le_maxLen _ _ _ _ (by unfold maxLen; omega), ?_, rfl⟩⟩
      have hg : n ≤ grownCap w n 0 (Tryz.growRows_ren.t 25) := grownCap_ge w n 0 _
      simp [Builtin.zeroCells, Value.cells]
      omega
    · rw [h2]
      exact (Below.refl _ _).drew.alloc (Nat.le_refl _) _

set_option maxRecDepth 100000 in
set_option maxHeartbeats 1000000 in
theorem Tryz.c_Concat (a : Option Addr) (ss : List Dia.Src) (cap : Nat) (w : World) (hrow : Aid.RowAt w a (ss.map (·.v))) (hin : ∀ s ∈ ss, s.In w) (hn : ss.length ≤ 1000) (hsum : Dia.Src.sum ss ≤ 1000000) :
    Calls Tryz.prog 86 #[.slice a ss.length cap] w fun e w' => ∃ v, e = .returned v ∧ w'.ownsRow w.heap.size 94 1 v (ss.flatMap (·.vals)).length (ss.flatMap (·.vals)) ∧ Below w.heap.size w w' := by
  obtain ⟨i0, hi, hz0, hz1, hz2⟩ := info_parts Tryz.info_rows
  go_enter Tryz.func86, Tryz.ntmps86
  go_wp2
  go_loop [3, 5, 11] (fun sz _ i => ∃ k : Nat, k ≤ ss.length ∧ i = .int .i64 k ∧ sz = .int .i64 (Dia.Src.sum (ss.take k) : Nat)) (fun _ _ i => ss.length - (intOf i).toNat)
  case atStart => exact ⟨0, Nat.zero_le _, rfl, rfl⟩
  case round =>
    obtain ⟨k, hk, rfl, rfl⟩ := hrel
    have hst := Dia.sum_take ss k
    by_cases hlt : k < ss.length
    · obtain ⟨b, off, rfl, hcell⟩ := hrow.get (k := k) (by simpa using hlt)
      simp only [List.getElem_map, Dia.Src.v] at hcell
      have HS : Aid.Hid2 (Dia.Src.sum (ss.take (k + 1)) = Dia.Src.sum (ss.take k) + ss[k].vals.length) := ⟨by rw [Dia.take_snoc ss k hlt, Dia.sum_snoc]⟩
      have hst2 : Dia.Src.sum (ss.take k) + ss[k].vals.length ≤ 1000000 := by rw [← HS.out]; exact Nat.le_trans (Dia.sum_take ss (k + 1)) hsum
      generalize ss[k] = s at *
      generalize Dia.Src.sum (ss.take k) = S at *
      have hp0 : (0 : Int) ≤ (S : Int) + (s.vals.length : Int) := by omega
      have hp1 : (S : Int) + (s.vals.length : Int) ≤ 1000000 := by omega
      go_wp2
      go_round
      case rel => exact ⟨k + 1, by omega, by go_num, by rw [HS.out]; go_num⟩
      case measure => simp [intOf]; omega
    · have e : ss.take k = ss := List.take_of_length_le (by omega)
      rw [e]
      clear e hst
      have HG := Aid.Hid2.mk (Tryz.c_Grow (Dia.Src.sum ss) hsum w)
      go_wp2_with (go_at_call 105; refine HG.out.mono ?_; rintro e w1 ⟨v0, rfl, hown0, hb0⟩)
      go_loopw [6, 8, 27] (fun v _ i wr => ∃ m : Nat, m ≤ ss.length ∧ i = .int .i64 m ∧ wr.ownsRow w.heap.size 94 1 v ((ss.take m).flatMap (·.vals)).length ((ss.take m).flatMap (·.vals)) ∧ Below w.heap.size w wr)
        (fun _ _ i _ => ss.length - (intOf i).toNat)
      case atStart => exact ⟨0, Nat.zero_le _, rfl, hown0, hb0⟩
      case round =>
        obtain ⟨m, hm, rfl, hown, hb⟩ := hrel
        have hs0 := hb.size
        by_cases hlm : m < ss.length
        · obtain ⟨b, off, rfl, hcell⟩ := (hrow.below hb).get (k := m) (by simpa using hlm)
          simp only [List.getElem_map, Dia.Src.v] at hcell
          have HS : Aid.Hid2 ((ss.take (m + 1)).flatMap (·.vals) = (ss.take m).flatMap (·.vals) ++ ss[m].vals) := ⟨by rw [Dia.take_snoc ss m hlm, List.flatMap_append, List.flatMap_cons, List.flatMap_nil, List.append_nil]⟩
          have hbd : ((ss.take m).flatMap (·.vals)).length + ss[m].vals.length ≤ 1000000 := by
            have h1 := Dia.sum_flat (ss.take (m + 1))
            have h2 := Dia.sum_take ss (m + 1)
            rw [HS.out, List.length_append] at h1
            omega
          have hsin := (hin ss[m] (List.getElem_mem _)).below hb
          generalize ss[m] = s at *
          generalize (ss.take m).flatMap (·.vals) = O at *
          obtain ⟨sa, vals, sc⟩ := s
          obtain ⟨hra, hnone, hone⟩ := hsin
          simp only at hcell HS hbd hra hnone hone
          cases sa with
          | none =>
            have hv : vals = [] := by
              rcases hra with h | ⟨b, off, h, _⟩
              · exact h
              · cases h
            subst hv
            obtain rfl := hnone rfl
            have HS2 : Aid.Hid2 ((ss.take (m + 1)).flatMap (·.vals) = O) := ⟨by rw [HS.out, List.append_nil]⟩
            go_wp2_with (at_builtin; refine wpList_append_own_none rfl _ _ 41 rfl w.heap.size 94 i0 1 Tryz.underlying41 hi _ _ _ rfl hown rfl ?_)
            go_roundw
            case rel => exact ⟨m + 1, by omega, by go_num, by rw [HS2.out]; exact hown, hb⟩
            case measure => simp [intOf]; omega
          | some ad =>
            have hcs : ∀ j u, vals[j]? = some u → wr.cell? (ad.add j) = some u := by
              intro j u hj
              rcases hra with h | ⟨b, off, h, h2⟩
              · rw [h] at hj; simp at hj
              · cases h
                have hp : (⟨b, off, none⟩ : Addr).add j = ⟨b, off + j, none⟩ := by unfold Addr.add; split <;> simp_all
                rw [hp]
                exact h2 j u hj
            go_wp2_with (at_builtin; refine wpList_append_own _ rfl _ _ 41 rfl w.heap.size 94 i0 (.slice none 0 0) 1 24 Tryz.underlying41 hi hz0 hz1 hz2 rfl (by decide) _ _ _ rfl hown ad vals.length sc vals rfl (by omega) hcs hone ?_ ?_ hs0 ?_)
            · unfold maxLen; omega
            · omega
            · intro v' w2 hown2 hg2 _
              have hb2 : Below w.heap.size w w2 := hb.grown hg2 hs0 (fun k hk => (hown.lt k hk).1)
              clear hcs hone
              go_wp2
              go_roundw
              case rel => exact ⟨m + 1, by omega, by go_num, by rw [HS.out, List.length_append]; exact hown2, hb2⟩
              case measure => simp [intOf]; omega
        · have e : ss.take m = ss := List.take_of_length_le (by omega)
          rw [e] at hown
          clear e
          generalize hF : ss.flatMap (·.vals) = F at hown
          have HF := Aid.Hid2.mk hF
          clear hF
          obtain ⟨va, vc, rfl⟩ := Aid.own_val hown
          go_wp2
          go_ret
          exact ⟨.slice va F.length vc, rfl, by rw [HF.out]; exact hown, hb⟩

/-- a level, and where its rows lie -/
structure Dia.Lev where
  a : Option Addr
  cap : Nat
  rows : List Dia.Row
def Dia.Lev.v (y : Dia.Lev) : Value := .slice y.a y.rows.length y.cap
theorem Dia.levs_of : ∀ (ls : List (List Dia.Row)) (P : Nat → Dia.Lev → Prop), (∀ k rs, ls[k]? = some rs → ∃ a c, P k ⟨a, c, rs⟩) → ∃ Y : List Dia.Lev, Y.map (·.rows) = ls ∧ ∀ k y, Y[k]? = some y → P k y
  | [], _, _ => ⟨[], rfl, by simp⟩
  | rs :: ls, P, h => by
    obtain ⟨a, c, h0⟩ := h 0 rs rfl
    obtain ⟨Y, h1, h2⟩ := Dia.levs_of ls (fun k y => P (k + 1) y) (fun k rs' hk => h (k + 1) rs' (by simpa using hk))
    refine ⟨⟨a, c, rs⟩ :: Y, by simp [h1], ?_⟩
    intro k y hk
    cases k with
    | zero => simp at hk; subst hk; exact h0
    | succ k => exact h2 k y (by simpa using hk)
theorem Dia.LevelsAt.levs {w : World} {a : Option Addr} {ls : List (List Dia.Row)} (h : Dia.LevelsAt w a ls) : ∃ Y : List Dia.Lev, Y.map (·.rows) = ls ∧ Aid.RowAt w a (Y.map (·.v)) ∧ ∀ y ∈ Y, Dia.RowsAt w y.a y.rows := by
  rcases h with rfl | ⟨b, off, rfl, _, h⟩
  · exact ⟨[], rfl, .inl rfl, by simp⟩
  · obtain ⟨Y, h1, h2⟩ := Dia.levs_of ls (fun k y => w.cell? ⟨b, off + k, none⟩ = some y.v ∧ Dia.RowsAt w y.a y.rows) (fun k rs hk => by
      obtain ⟨ar, cr, h3, h4⟩ := h k rs hk
      exact ⟨ar, cr, h3, h4⟩)
    refine ⟨Y, h1, .inr ⟨b, off, rfl, fun j u hj => ?_⟩, fun y hy => ?_⟩
    · rw [List.getElem?_map] at hj
      cases e : Y[j]? with
      | none => rw [e] at hj; cases hj
      | some y => rw [e] at hj; cases hj; exact (h2 j y e).1
    · obtain ⟨k, hk⟩ := List.getElem?_of_mem hy
      exact (h2 k y hk).2
theorem Dia.levelsAt_of {w : World} {a : Option Addr} {Y : List Dia.Lev} (ht : ∀ b off, a = some ⟨b, off, none⟩ → Aid.Tag w b 94) (h1 : Aid.RowAt w a (Y.map (·.v))) (h2 : ∀ y ∈ Y, Dia.RowsAt w y.a y.rows) : Dia.LevelsAt w a (Y.map (·.rows)) := by
  rcases h1 with h | ⟨b, off, rfl, h⟩
  · left
    have : Y = [] := by simpa using h
    rw [this]; rfl
  · refine .inr ⟨b, off, rfl, ht b off rfl, fun k rs hk => ?_⟩
    rw [List.getElem?_map] at hk
    cases e : Y[k]? with
    | none => rw [e] at hk; cases hk
    | some y =>
      rw [e] at hk
      cases hk
      exact ⟨y.a, y.cap, h k _ (by rw [List.getElem?_map, e]; rfl), h2 y (List.mem_of_getElem? e)⟩
theorem Aid.own_tag {w : World} {B : Nat} {e : TypeId} {sz : Nat} {a : Option Addr} {m cap n : Nat} {xs : List Value} (h : w.ownsRow B e sz (.slice a m cap) n xs) : ∀ b off, a = some ⟨b, off, none⟩ → Aid.Tag w b e := by
  intro b off ha
  rcases h.2 with ⟨h2, _⟩ | ⟨g, cap, cur, h2, _, h5, _⟩
  · cases h2; cases ha
  · cases h2; cases ha; exact ⟨_, _, h5⟩
/-- a table that the call has made -/
def Dia.TabIn (ls : List (List Dia.Row)) (a : Option Addr) (cap : Nat) (w w' : World) : Prop := ls.length ≤ cap ∧ (a = none → cap = 0) ∧ Dia.LevelsAt w' a ls ∧ Below w.heap.size w w'
/-- a table is handed back -/
def Dia.IsTable (ls : List (List Dia.Row)) (w w' : World) (e : Ending) : Prop :=
  ∃ (a : Option Addr) (cap : Nat), e = .returned (Dia.tabv a ls.length cap) ∧ Dia.TabIn ls a cap w w'

set_option maxRecDepth 100000 in
set_option maxHeartbeats 1000000 in
theorem Tryz.c_Over (a b : Option Addr) (ls ms : List (List Dia.Row)) (ca cb : Nat) (w : World) (ha : Dia.LevelsAt w a ls) (hb : Dia.LevelsAt w b ms) (hna : a = none → ca = 0) (hnb : b = none → cb = 0) (hl : ls.length ≤ 400000) (hm : ms.length ≤ 400000) :
    Calls Tryz.prog 44 #[Dia.tabv a ls.length ca, Dia.tabv b ms.length cb] w fun e w' => Dia.IsTable (ls ++ ms) w w' e := by
  obtain ⟨Y, rfl, hY1, hY2⟩ := ha.levs
  obtain ⟨Z, rfl, hZ1, hZ2⟩ := hb.levs
  rw [List.length_map, List.length_map]
  rw [List.length_map] at hl hm
  have HC : Aid.Hid2 (∀ w1 : World, Below w.heap.size w w1 →
      Calls Tryz.prog 86 #[.slice (some ⟨w1.heap.size, 0, none⟩) 2 2] (w1.alloc (.cells #[.slice a Y.length ca, .slice b Z.length cb] 41)) fun e w' => ∃ va vc, e = .returned (.slice va (Y ++ Z).length vc) ∧
        w'.ownsRow 0 94 1 (.slice va (Y ++ Z).length vc) (Y ++ Z).length ((Y ++ Z).map (·.v)) ∧ Below (w1.alloc (.cells #[.slice a Y.length ca, .slice b Z.length cb] 41)).heap.size (w1.alloc (.cells #[.slice a Y.length ca, .slice b Z.length cb] 41)) w') := by
    refine ⟨fun w1 hb1 => ?_⟩
    have hb2 := Aid.bt hb1 (Aid.b1 w1 (.cells #[.slice a Y.length ca, .slice b Z.length cb] 41))
    have hone : ∀ (L : List Dia.Lev), ∀ u ∈ L.map (·.v), u.oneCell' = true := by
      intro L u hu
      obtain ⟨y, _, rfl⟩ := List.mem_map.1 hu
      rfl
    have hcon := Tryz.c_Concat (some ⟨w1.heap.size, 0, none⟩) [⟨a, Y.map (·.v), ca⟩, ⟨b, Z.map (·.v), cb⟩] 2 (w1.alloc (.cells #[.slice a Y.length ca, .slice b Z.length cb] 41))
      (Aid.row_new w1 _ _ _ (by simp [Dia.Src.v])) (by
        intro s hs
        simp only [List.mem_cons, List.not_mem_nil, or_false] at hs
        rcases hs with rfl | rfl
        · exact ⟨hY1.below hb2, hna, hone Y⟩
        · exact ⟨hZ1.below hb2, hnb, hone Z⟩) (by simp) (by simp [Dia.Src.sum]; omega)
    refine hcon.mono fun e w' ⟨v, he, hown, hbc⟩ => ?_
    subst he
    have e1 : [(⟨a, Y.map (·.v), ca⟩ : Dia.Src), ⟨b, Z.map (·.v), cb⟩].flatMap (·.vals) = (Y ++ Z).map (·.v) := by simp
    rw [e1, List.length_map] at hown
    obtain ⟨va, vc, rfl⟩ := Aid.own_val hown
    exact ⟨va, vc, rfl, Aid.ownsRow_base hown (Nat.zero_le _), hbc⟩
  have HR : Aid.Hid2 (∀ y ∈ Y ++ Z, Dia.RowsAt w y.a y.rows) := ⟨by
    intro y hy
    rcases List.mem_append.1 hy with h | h
    · exact hY2 y h
    · exact hZ2 y h⟩
  rw [← List.map_append]
  clear hna hnb hY2 hZ2 hY1 hZ1 ha hb
  generalize Y ++ Z = YZ at *
  have hc2 := HC.out (((w.alloc (.cells #[.slice a Y.length ca] 43)).alloc (.cells #[.slice b Z.length cb] 43)).alloc (.cells #[.slice none 0 0] 43)) (Aid.b3 _ _ _ _)
  simp only [World.size_alloc] at hc2
  have HC2 := Aid.Hid2.mk hc2
  clear hc2 HC
  unfold Dia.tabv
  go_enter Tryz.func44, Tryz.ntmps44
  go_wp2_with (go_at_call 86; refine HC2.out.mono ?_; rintro e w3 ⟨va, vc, rfl, hown, hb3⟩; have k4 := Aid.blkB hb3 (Aid.blk_alloc (Aid.heap3 _ _ _ _).2) (by omega); obtain ⟨p0, p0f⟩ := Aid.one k4)
  have hb4 : Below w.heap.size w w3 := ((Aid.b3 _ _ _ _).alloc (by simp; omega) _).trans (hb3.mono (by omega))
  exact bodyPost_ret (v := .agg #[.slice va YZ.length vc]) (by simp [results, Tryz.results44, go_sem, p0]) rfl (by
    have t4 : Aid.Tag w3 (w.heap.size + 1 + 1) 43 := ⟨_, _, k4⟩
    have hown4 := Aid.own_set (j := 0) (u := .slice va YZ.length vc) hown t4 (by decide)
    have hb5 : Below w.heap.size w (w3.setCell ⟨w.heap.size + 1 + 1, 0, none⟩ (.slice va YZ.length vc)) := hb4.setCell (by show w.heap.size ≤ w.heap.size + 1 + 1; omega) _
    refine ⟨va, vc, by rw [List.length_map]; rfl, ?_, ?_, Dia.levelsAt_of (Aid.own_tag hown4) (Aid.own_at hown4) (fun y hy => (HR.out y hy).below hb5), hb5⟩
    · rw [List.length_map]
      rcases hown.2 with ⟨h, h0⟩ | ⟨g, vc', cur, h, _, _, h5, _⟩
      · rw [h0]; exact Nat.zero_le _
      · cases h; exact h5
    · intro h
      subst h
      rcases hown.2 with ⟨h, h0⟩ | ⟨g, vc', cur, h, _, _, h5, _⟩
      · exact (Value.slice.inj h).2.2
      · cases h)
end Go.Proofs
namespace Go.Proofs
open Go.RowKit

/-- a table that isn't great, and its pairs -/
structure Dia.Tab (ls : List (List Dia.Row)) (l : List (Int × Int)) : Prop where
  wf : Dia.WF ls
  tab : Dia.IsTab ls l
  n : ls.length ≤ 1000
  n2 : ∀ rs ∈ ls, rs.length ≤ 1000
  len : l.length ≤ 100000
def Dia.fwdl (l : List (Int × Int)) (c : Int) : Int × Bool := match l.find? (fun q => q.1 == c) with | some q => (q.2, true) | none => (0, false)
def Dia.revl (l : List (Int × Int)) (p : Int) : Int × Bool := match l.find? (fun q => q.2 == p) with | some q => (q.1, true) | none => (0, false)
theorem Dia.newL_len : ∀ (ps : List Dia.Piece) (rs : List Dia.Row) (i : Int), (Dia.newL rs i ps).1.length ≤ rs.length + ps.length
  | [], rs, i => by simp [Dia.newL]
  | p :: ps, rs, i => by
    unfold Dia.newL
    split
    · simp
    · split
      · refine Nat.le_trans (Dia.newL_len ps _ _) ?_
        simp
        omega
      · simp
theorem Dia.tab_made {ps : List Dia.Piece} (hg : (Dia.madeL [] 0 ps).1.length ≤ 100000) (hn : ps.length ≤ 100) : Dia.Tab (Dia.lv (Dia.newL [] 0 ps)) (Dia.madeL [] 0 ps).1 := by
  obtain ⟨h1, h2, h3⟩ := Dia.made_ok ps
  have h4 := Dia.newL_len ps [] 0
  refine ⟨h2, h3, ?_, ?_, ?_⟩
  · unfold Dia.lv; split <;> simp
  · intro rs hrs
    unfold Dia.lv at hrs
    split at hrs
    · rw [List.mem_singleton] at hrs
      subst hrs
      simp at h4
      omega
    · simp at hrs
  · exact hg
theorem Dia.over_len (l : List (Int × Int)) : ∀ (m o : List (Int × Int)), (m.foldl (Dia.ostep l) o).length ≤ o.length + m.length
  | [], o => by simp
  | q :: m, o => by
    rw [List.foldl_cons]
    have h1 := Dia.over_len l m (Dia.ostep l o q)
    have h2 : (Dia.ostep l o q).length ≤ o.length + 1 := by
      unfold Dia.ostep
      split
      · rw [Dia.rput_len]; omega
      · omega
    simp
    omega
theorem Dia.tab_over {ls ms : List (List Dia.Row)} {l m : List (Int × Int)} (h1 : Dia.Tab ls l) (h2 : Dia.Tab ms m) (hn : ls.length + ms.length ≤ 1000) (hl : l.length + m.length ≤ 100000) : Dia.Tab (ls ++ ms) (Dia.rover l m) where
  wf := Dia.wf_append h1.wf h2.wf
  tab := Dia.over_tab h1.wf h2.wf h1.tab h2.tab
  n := by rw [List.length_append]; exact hn
  n2 rs hrs := by
    rcases List.mem_append.1 hrs with h | h
    · exact h1.n2 rs h
    · exact h2.n2 rs h
  len := by
    have := Dia.over_len l m l
    unfold Dia.rover
    omega
/-- a table in memory -/
structure Dia.T (w : World) (a : Option Addr) (cap : Nat) (ls : List (List Dia.Row)) (l : List (Int × Int)) : Prop where
  lev : Dia.LevelsAt w a ls
  cap' : ls.length ≤ cap
  nil : a = none → cap = 0
  tab : Dia.Tab ls l
theorem Dia.T.below {w w' : World} {a : Option Addr} {cap : Nat} {ls : List (List Dia.Row)} {l : List (Int × Int)} (h : Dia.T w a cap ls l) (hb : Below w.heap.size w w') : Dia.T w' a cap ls l :=
  ⟨h.lev.below hb, h.cap', h.nil, h.tab⟩

theorem Dia.T.set {w : World} {a : Option Addr} {cap : Nat} {ls : List (List Dia.Row)} {l : List (Int × Int)} {k j : Nat} {T : TypeId} {u : Value} (h : Dia.T w a cap ls l) (hk : Aid.Tag w k T) (g0 : T ≠ 94) (g1 : T ≠ 96) (g2 : T ≠ 21) :
    Dia.T (w.setCell ⟨k, j, none⟩ u) a cap ls l := ⟨h.lev.set hk g0 g1 g2, h.cap', h.nil, h.tab⟩

theorem Tryz.t_Forward {a : Option Addr} {cap : Nat} {ls : List (List Dia.Row)} {l : List (Int × Int)} (c : Int) (w : World) (h : Dia.T w a cap ls l) (hc : -9223372036854775808 ≤ c ∧ c ≤ 9223372036854775807) :
    Calls Tryz.prog 50 #[.agg #[.slice a ls.length cap], .int .i64 c] w fun e w' => e = .returned (.tuple #[.int .i32 (Dia.fwdl l c).1, .bool (Dia.fwdl l c).2]) ∧ Below w.heap.size w w' := by
  have h1 := Tryz.c_Forward a ls cap c w h.lev h.tab.wf.ok (by have := h.tab.n; omega) (fun rs hrs => by have := h.tab.n2 rs hrs; omega) hc
  rw [Dia.fwd_tab h.tab.tab] at h1
  exact h1
theorem Tryz.t_Reverse' {a : Option Addr} {cap : Nat} {ls : List (List Dia.Row)} {l : List (Int × Int)} (p : Int) (w : World) (h : Dia.T w a cap ls l) :
    Calls Tryz.prog 45 #[.agg #[.slice a ls.length cap], .int .i32 p] w fun e w' => e = .returned (.tuple #[.int .i64 (Dia.revl l p).1, .bool (Dia.revl l p).2]) ∧ Below w.heap.size w w' := by
  have h1 := Tryz.c_Reverse a ls cap p w h.lev h.tab.wf.ok h.cap' (by have := h.tab.n; omega) (fun rs hrs => by have := h.tab.n2 rs hrs; omega)
  rw [Dia.rev_tab h.tab.tab h.tab.wf.ok] at h1
  exact h1
theorem Tryz.t_Reverse {a : Option Addr} {cap : Nat} {ls : List (List Dia.Row)} {l : List (Int × Int)} (p : Int) (w : World) (h : Dia.T w a cap ls l) (_hp : -2147483648 ≤ p ∧ p ≤ 2147483647) :
    Calls Tryz.prog 45 #[.agg #[.slice a ls.length cap], .int .i32 p] w fun e w' => e = .returned (.tuple #[.int .i64 (Dia.revl l p).1, .bool (Dia.revl l p).2]) ∧ Below w.heap.size w w' := Tryz.t_Reverse' p w h
theorem Dia.Tab.prs_len {ls : List (List Dia.Row)} {l : List (Int × Int)} (h : Dia.Tab ls l) : (Dia.prs ls).length = l.length := h.tab.2.length_eq.symm
theorem Tryz.t_Size {a : Option Addr} {cap : Nat} {ls : List (List Dia.Row)} {l : List (Int × Int)} (w : World) (h : Dia.T w a cap ls l) :
    Calls Tryz.prog 68 #[.agg #[.slice a ls.length cap]] w fun e w' => e = .returned (.int .i64 l.length) ∧ Below w.heap.size w w' := by
  have h1 := Tryz.c_Size a ls cap w h.lev h.tab.wf.ok h.cap' (by have := h.tab.n; omega) (fun rs hrs => by have := h.tab.n2 rs hrs; omega) (by rw [h.tab.prs_len]; have := h.tab.len; omega)
  rw [h.tab.prs_len] at h1
  exact h1
/-- pairs are handed back, in memory of the call's own -/
def Tryz.IsPS (l : List (Int × Int)) (w w' : World) (e : Ending) : Prop :=
  ∃ (va : Option Addr) (vc : Nat), e = .returned (.slice va l.length vc) ∧ w'.ownsRow w.heap.size 34 2 (.slice va l.length vc) l.length (l.flatMap Dia.pcells) ∧ Below w.heap.size w w'
theorem Tryz.t_Pairs {a : Option Addr} {cap : Nat} {ls : List (List Dia.Row)} {l : List (Int × Int)} (w : World) (h : Dia.T w a cap ls l) :
    Calls Tryz.prog 28 #[.agg #[.slice a ls.length cap]] w fun e w' => Tryz.IsPS l w w' e := by
  have h1 := Tryz.c_Pairs a ls cap w h.lev h.tab.wf.ok h.cap' (by have := h.tab.n; omega) (fun rs hrs => by have := h.tab.n2 rs hrs; omega) (by rw [h.tab.prs_len]; have := h.tab.len; omega)
  refine h1.mono fun e w' ⟨v, l', he, ⟨hp, hs⟩, hown, hb⟩ => ?_
  have hl : l' = l := Dia.rise_unique (Dia.rise_of hs hp (Dia.prs_nodup ls h.tab.wf)) h.tab.tab.1 (hp.trans h.tab.tab.2.symm)
  subst hl
  obtain ⟨va, vc, rfl⟩ := Aid.own_val hown
  exact ⟨va, vc, he, hown, hb⟩
/-- a table is handed back -/
def Dia.IsT (ls : List (List Dia.Row)) (l : List (Int × Int)) (w w' : World) (e : Ending) : Prop :=
  ∃ (a : Option Addr) (cap : Nat), e = .returned (.agg #[.slice a ls.length cap]) ∧ Dia.T w' a cap ls l ∧ Below w.heap.size w w'
theorem Tryz.t_Over {a b : Option Addr} {ca cb : Nat} {ls ms : List (List Dia.Row)} {l m : List (Int × Int)} (w : World) (h1 : Dia.T w a ca ls l) (h2 : Dia.T w b cb ms m) (hn : ls.length + ms.length ≤ 1000) (hl : l.length + m.length ≤ 100000) :
    Calls Tryz.prog 44 #[.agg #[.slice a ls.length ca], .agg #[.slice b ms.length cb]] w fun e w' => Dia.IsT (ls ++ ms) (Dia.rover l m) w w' e :=
  (Tryz.c_Over a b ls ms ca cb w h1.lev h2.lev h1.nil h2.nil (by omega) (by omega)).mono fun e w' ⟨x, c, he, g1, g2, g3, g4⟩ =>
    ⟨x, c, he, ⟨g3, g1, g2, Dia.tab_over h1.tab h2.tab hn hl⟩, g4⟩
/-- New hands back a table of pieces, or a fault -/
def Dia.IsN (ps : List Dia.Piece) (w w' : World) (e : Ending) : Prop :=
  ∃ (a : Option Addr) (cap : Nat) (A B : Int), e = .returned (.tuple #[.agg #[.slice a (Dia.lv (Dia.newL [] 0 ps)).length cap], .agg #[.int .i64 A, .int .i64 B]]) ∧ Dia.T w' a cap (Dia.lv (Dia.newL [] 0 ps)) (Dia.madeL [] 0 ps).1 ∧
    ((Dia.madeL [] 0 ps).2 < 0 → A = 0 ∧ B = 0) ∧ (0 ≤ (Dia.madeL [] 0 ps).2 → A = 5 ∧ B = (Dia.madeL [] 0 ps).2) ∧ Below w.heap.size w w'
theorem Tryz.t_New (a : Option Addr) (ps : List Dia.Piece) (cap : Nat) (w : World) (hps : Dia.PiecesAt w a ps) (hin : ∀ p ∈ ps, p.In) (hg : (Dia.madeL [] 0 ps).1.length ≤ 100000) (hn : ps.length ≤ 100) (hT : Tryz.Tabs w) :
    Calls Tryz.prog 67 #[.slice a ps.length cap] w fun e w' => Dia.IsN ps w w' e :=
  (Tryz.c_New a ps cap w hps hin (by omega) hT).mono fun e w' ⟨x, c, A, B, he, g1, g2, g3, g4, g5, g6⟩ => by
    have h := (Dia.made_ok ps).1
    rw [← h] at g4 g5
    exact ⟨x, c, A, B, he, ⟨g3, g1, g2, Dia.tab_made hg hn⟩, g4, g5, g6⟩

end Go.Proofs
