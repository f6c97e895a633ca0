/- walks of run: Over -/
import Derived.Test.YtfdkolodpealmaaDoorN11
import Derived.Laws.AppendOwnNone
namespace Go.Proofs
open Go.RowKit

/-- a slice of one-cell elements that comes in -/
structure Dia.Src where
  a : Option Addr
  vals : List Value
  cap : Nat
def Dia.Src.v (s : Dia.Src) : Value := .slice s.a s.vals.length s.cap
def Dia.Src.In (w : World) (s : Dia.Src) : Prop := Aid.RowAt w s.a s.vals ∧ (s.a = none → s.cap = 0) ∧ ∀ u ∈ s.vals, u.oneCell' = true
theorem Dia.Src.In.below {w w' : World} {s : Dia.Src} (h : s.In w) (hb : Below w.heap.size w w') : s.In w' := ⟨h.1.below hb, h.2⟩
def Dia.Src.sum (l : List Dia.Src) : Nat := (l.map fun s => s.vals.length).sum
theorem Dia.sum_snoc (l : List Dia.Src) (s : Dia.Src) : Dia.Src.sum (l ++ [s]) = Dia.Src.sum l + s.vals.length := by simp [Dia.Src.sum]
theorem Dia.sum_flat (l : List Dia.Src) : (l.flatMap (·.vals)).length = Dia.Src.sum l := by
  induction l with
  | nil => rfl
  | cons s l ih => simp [Dia.Src.sum, List.flatMap_cons] at *
theorem Dia.sum_take (l : List Dia.Src) (k : Nat) : Dia.Src.sum (l.take k) ≤ Dia.Src.sum l := by
  have h := congrArg Dia.Src.sum (List.take_append_drop k l)
  simp only [Dia.Src.sum, List.map_append, List.sum_append] at *
  omega

set_option maxRecDepth 100000 in
theorem Tryd.c_Grow0 (w : World) : Calls Tryd.prog 56 #[.slice none 0 0, .int .i64 0] w fun e w' => e = .returned (.slice none 0 0) ∧ w' = w :=
  Any8.slices_Grow_room Tryd.growRows none 0 0 0 w (Nat.le_refl _) (by decide) (by decide) (by decide)
theorem Tryd.info_rows : (Tryd.prog.info? 86).map (fun i => (i.zero, i.size, i.bytes)) = some (some (.slice none 0 0), 1, 24) := by kernel_rfl
/-- what Grow hands back -/
def Tryd.IsRoom (w w' : World) (e : Ending) : Prop := ∃ v, e = .returned v ∧ w'.ownsRow w.heap.size 86 1 v 0 [] ∧ Below w.heap.size w w'
theorem Tryd.c_Grow (n : Nat) (hn : n ≤ 1000000) (w : World) : Calls Tryd.prog 56 #[.slice none 0 0, .int .i64 n] w fun e w' => Tryd.IsRoom w w' e := by
  by_cases h0 : n = 0
  · subst h0
    exact (Tryd.c_Grow0 w).mono fun e w' ⟨h1, h2⟩ => ⟨_, h1, World.ownsRow_nil _ _ _ _, by rw [h2]; exact Below.refl _ _⟩
  · obtain ⟨i0, hi, hz0, hz1, hz2⟩ := info_parts Tryd.info_rows
    have hcon := Any8.slices_Grow_grow Tryd.growRows i0 (.slice none 0 0) hi hz0 (by omega) none 0 0 n [] w (Nat.le_refl _) (by omega) (by rw [hz2]; omega) (by omega) (by simp) (fun _ => rfl) (fun a h => by cases h)
    change Calls Tryd.prog 56 _ _ _ at hcon
    refine hcon.mono fun e w' ⟨h1, h2⟩ => ⟨_, h1, ?_, ?_⟩
    · rw [h2]
      refine ⟨rfl, .inr ⟨w.heap.size, _, _, rfl, Nat.le_refl _, heap_alloc_new w.drew _, Nat.zero_le _, grownCap_le_maxLen _ _ _ _ (by unfold maxLen; omega), ?_, rfl⟩⟩
      have hg : n ≤ grownCap w n 0 (Tryd.growRows_ren.t 25) := grownCap_ge w n 0 _
      simp [Builtin.zeroCells, Value.cells]
      omega
    · rw [h2]
      exact (Below.refl _ _).drew.alloc (Nat.le_refl _) _

set_option maxRecDepth 100000 in
set_option maxHeartbeats 1000000 in
theorem Tryd.c_Concat (a : Option Addr) (ss : List Dia.Src) (cap : Nat) (w : World) (hrow : Aid.RowAt w a (ss.map (·.v))) (hin : ∀ s ∈ ss, s.In w) (hn : ss.length ≤ 1000) (hsum : Dia.Src.sum ss ≤ 1000000) :
    Calls Tryd.prog 39 #[.slice a ss.length cap] w fun e w' => ∃ v, e = .returned v ∧ w'.ownsRow w.heap.size 86 1 v (ss.flatMap (·.vals)).length (ss.flatMap (·.vals)) ∧ Below w.heap.size w w' := by
  obtain ⟨i0, hi, hz0, hz1, hz2⟩ := info_parts Tryd.info_rows
  go_enter Tryd.func39, Tryd.ntmps39
  go_wp2
  go_loop [3, 5, 11] (fun sz _ i => ∃ k : Nat, k ≤ ss.length ∧ i = .int .i64 k ∧ sz = .int .i64 (Dia.Src.sum (ss.take k) : Nat)) (fun _ _ i => ss.length - (intOf i).toNat)
  case atStart => exact ⟨0, Nat.zero_le _, rfl, rfl⟩
  case round =>
    obtain ⟨k, hk, rfl, rfl⟩ := hrel
    have hst := Dia.sum_take ss k
    by_cases hlt : k < ss.length
    · obtain ⟨b, off, rfl, hcell⟩ := hrow.get (k := k) (by simpa using hlt)
      simp only [List.getElem_map, Dia.Src.v] at hcell
      have HS : Aid.Hid2 (Dia.Src.sum (ss.take (k + 1)) = Dia.Src.sum (ss.take k) + ss[k].vals.length) := ⟨by rw [Dia.take_snoc ss k hlt, Dia.sum_snoc]⟩
      have hst2 : Dia.Src.sum (ss.take k) + ss[k].vals.length ≤ 1000000 := by rw [← HS.out]; exact Nat.le_trans (Dia.sum_take ss (k + 1)) hsum
      generalize ss[k] = s at *
      generalize Dia.Src.sum (ss.take k) = S at *
      have hp0 : (0 : Int) ≤ (S : Int) + (s.vals.length : Int) := by omega
      have hp1 : (S : Int) + (s.vals.length : Int) ≤ 1000000 := by omega
      go_wp2
      go_round
      case rel => exact ⟨k + 1, by omega, by go_num, by rw [HS.out]; go_num⟩
      case measure => simp [intOf]; omega
    · have e : ss.take k = ss := List.take_of_length_le (by omega)
      rw [e]
      clear e hst
      have HG := Aid.Hid2.mk (Tryd.c_Grow (Dia.Src.sum ss) hsum w)
      go_wp2_with (go_at_call 56; refine HG.out.mono ?_; rintro e w1 ⟨v0, rfl, hown0, hb0⟩)
      go_loopw [6, 8, 27] (fun v _ i wr => ∃ m : Nat, m ≤ ss.length ∧ i = .int .i64 m ∧ wr.ownsRow w.heap.size 86 1 v ((ss.take m).flatMap (·.vals)).length ((ss.take m).flatMap (·.vals)) ∧ Below w.heap.size w wr)
        (fun _ _ i _ => ss.length - (intOf i).toNat)
      case atStart => exact ⟨0, Nat.zero_le _, rfl, hown0, hb0⟩
      case round =>
        obtain ⟨m, hm, rfl, hown, hb⟩ := hrel
        have hs0 := hb.size
        by_cases hlm : m < ss.length
        · obtain ⟨b, off, rfl, hcell⟩ := (hrow.below hb).get (k := m) (by simpa using hlm)
          simp only [List.getElem_map, Dia.Src.v] at hcell
          have HS : Aid.Hid2 ((ss.take (m + 1)).flatMap (·.vals) = (ss.take m).flatMap (·.vals) ++ ss[m].vals) := ⟨by rw [Dia.take_snoc ss m hlm, List.flatMap_append, List.flatMap_cons, List.flatMap_nil, List.append_nil]⟩
          have hbd : ((ss.take m).flatMap (·.vals)).length + ss[m].vals.length ≤ 1000000 := by
            have h1 := Dia.sum_flat (ss.take (m + 1))
            have h2 := Dia.sum_take ss (m + 1)
            rw [HS.out, List.length_append] at h1
            omega
          have hsin := (hin ss[m] (List.getElem_mem _)).below hb
          generalize ss[m] = s at *
          generalize (ss.take m).flatMap (·.vals) = O at *
          obtain ⟨sa, vals, sc⟩ := s
          obtain ⟨hra, hnone, hone⟩ := hsin
          simp only at hcell HS hbd hra hnone hone
          cases sa with
          | none =>
            have hv : vals = [] := by
              rcases hra with h | ⟨b, off, h, _⟩
              · exact h
              · cases h
            subst hv
            obtain rfl := hnone rfl
            have HS2 : Aid.Hid2 ((ss.take (m + 1)).flatMap (·.vals) = O) := ⟨by rw [HS.out, List.append_nil]⟩
            go_wp2_with (at_builtin; refine wpList_append_own_none rfl _ _ 22 rfl w.heap.size 86 i0 1 Tryd.underlying22 hi _ _ _ rfl hown rfl ?_)
            go_roundw
            case rel => exact ⟨m + 1, by omega, by go_num, by rw [HS2.out]; exact hown, hb⟩
            case measure => simp [intOf]; omega
          | some ad =>
            have hcs : ∀ j u, vals[j]? = some u → wr.cell? (ad.add j) = some u := by
              intro j u hj
              rcases hra with h | ⟨b, off, h, h2⟩
              · rw [h] at hj; simp at hj
              · cases h
                have hp : (⟨b, off, none⟩ : Addr).add j = ⟨b, off + j, none⟩ := by unfold Addr.add; split <;> simp_all
                rw [hp]
                exact h2 j u hj
            go_wp2_with (at_builtin; refine wpList_append_own _ rfl _ _ 22 rfl w.heap.size 86 i0 (.slice none 0 0) 1 24 Tryd.underlying22 hi hz0 hz1 hz2 rfl (by decide) _ _ _ rfl hown ad vals.length sc vals rfl (by omega) hcs hone ?_ ?_ hs0 ?_)
            · unfold maxLen; omega
            · omega
            · intro v' w2 hown2 hg2 _
              have hb2 : Below w.heap.size w w2 := hb.grown hg2 hs0 (fun k hk => (hown.lt k hk).1)
              clear hcs hone
              go_wp2
              go_roundw
              case rel => exact ⟨m + 1, by omega, by go_num, by rw [HS.out, List.length_append]; exact hown2, hb2⟩
              case measure => simp [intOf]; omega
        · have e : ss.take m = ss := List.take_of_length_le (by omega)
          rw [e] at hown
          clear e
          generalize hF : ss.flatMap (·.vals) = F at hown
          have HF := Aid.Hid2.mk hF
          clear hF
          obtain ⟨va, vc, rfl⟩ := Aid.own_val hown
          go_wp2
          go_ret
          exact ⟨.slice va F.length vc, rfl, by rw [HF.out]; exact hown, hb⟩

/-- a level, and where its rows lie -/
structure Dia.Lev where
  a : Option Addr
  cap : Nat
  rows : List Dia.Row
def Dia.Lev.v (y : Dia.Lev) : Value := .slice y.a y.rows.length y.cap
theorem Dia.levs_of : ∀ (ls : List (List Dia.Row)) (P : Nat → Dia.Lev → Prop), (∀ k rs, ls[k]? = some rs → ∃ a c, P k ⟨a, c, rs⟩) → ∃ Y : List Dia.Lev, Y.map (·.rows) = ls ∧ ∀ k y, Y[k]? = some y → P k y
  | [], _, _ => ⟨[], rfl, by simp⟩
  | rs :: ls, P, h => by
    obtain ⟨a, c, h0⟩ := h 0 rs rfl
    obtain ⟨Y, h1, h2⟩ := Dia.levs_of ls (fun k y => P (k + 1) y) (fun k rs' hk => h (k + 1) rs' (by simpa using hk))
    refine ⟨⟨a, c, rs⟩ :: Y, by simp [h1], ?_⟩
    intro k y hk
    cases k with
    | zero => simp at hk; subst hk; exact h0
    | succ k => exact h2 k y (by simpa using hk)
theorem Dia.LevelsAt.levs {w : World} {a : Option Addr} {ls : List (List Dia.Row)} (h : Dia.LevelsAt w a ls) : ∃ Y : List Dia.Lev, Y.map (·.rows) = ls ∧ Aid.RowAt w a (Y.map (·.v)) ∧ ∀ y ∈ Y, Dia.RowsAt w y.a y.rows := by
  rcases h with rfl | ⟨b, off, rfl, _, h⟩
  · exact ⟨[], rfl, .inl rfl, by simp⟩
  · obtain ⟨Y, h1, h2⟩ := Dia.levs_of ls (fun k y => w.cell? ⟨b, off + k, none⟩ = some y.v ∧ Dia.RowsAt w y.a y.rows) (fun k rs hk => by
      obtain ⟨ar, cr, h3, h4⟩ := h k rs hk
      exact ⟨ar, cr, h3, h4⟩)
    refine ⟨Y, h1, .inr ⟨b, off, rfl, fun j u hj => ?_⟩, fun y hy => ?_⟩
    · rw [List.getElem?_map] at hj
      cases e : Y[j]? with
      | none => rw [e] at hj; cases hj
      | some y => rw [e] at hj; cases hj; exact (h2 j y e).1
    · obtain ⟨k, hk⟩ := List.getElem?_of_mem hy
      exact (h2 k y hk).2
theorem Dia.levelsAt_of {w : World} {a : Option Addr} {Y : List Dia.Lev} (ht : ∀ b off, a = some ⟨b, off, none⟩ → Aid.Tag w b 86) (h1 : Aid.RowAt w a (Y.map (·.v))) (h2 : ∀ y ∈ Y, Dia.RowsAt w y.a y.rows) : Dia.LevelsAt w a (Y.map (·.rows)) := by
  rcases h1 with h | ⟨b, off, rfl, h⟩
  · left
    have : Y = [] := by simpa using h
    rw [this]; rfl
  · refine .inr ⟨b, off, rfl, ht b off rfl, fun k rs hk => ?_⟩
    rw [List.getElem?_map] at hk
    cases e : Y[k]? with
    | none => rw [e] at hk; cases hk
    | some y =>
      rw [e] at hk
      cases hk
      exact ⟨y.a, y.cap, h k _ (by rw [List.getElem?_map, e]; rfl), h2 y (List.mem_of_getElem? e)⟩
theorem Aid.own_tag {w : World} {B : Nat} {e : TypeId} {sz : Nat} {a : Option Addr} {m cap n : Nat} {xs : List Value} (h : w.ownsRow B e sz (.slice a m cap) n xs) : ∀ b off, a = some ⟨b, off, none⟩ → Aid.Tag w b e := by
  intro b off ha
  rcases h.2 with ⟨h2, _⟩ | ⟨g, cap, cur, h2, _, h5, _⟩
  · cases h2; cases ha
  · cases h2; cases ha; exact ⟨_, _, h5⟩
/-- a table that the call has made -/
def Dia.TabIn (ls : List (List Dia.Row)) (a : Option Addr) (cap : Nat) (w w' : World) : Prop := ls.length ≤ cap ∧ (a = none → cap = 0) ∧ Dia.LevelsAt w' a ls ∧ Below w.heap.size w w'
/-- a table is handed back -/
def Dia.IsTable (ls : List (List Dia.Row)) (w w' : World) (e : Ending) : Prop :=
  ∃ (a : Option Addr) (cap : Nat), e = .returned (Dia.tabv a ls.length cap) ∧ Dia.TabIn ls a cap w w'

set_option maxRecDepth 100000 in
set_option maxHeartbeats 1000000 in
theorem Tryd.c_Over (a b : Option Addr) (ls ms : List (List Dia.Row)) (ca cb : Nat) (w : World) (ha : Dia.LevelsAt w a ls) (hb : Dia.LevelsAt w b ms) (hna : a = none → ca = 0) (hnb : b = none → cb = 0) (hl : ls.length ≤ 400000) (hm : ms.length ≤ 400000) :
    Calls Tryd.prog 25 #[Dia.tabv a ls.length ca, Dia.tabv b ms.length cb] w fun e w' => Dia.IsTable (ls ++ ms) w w' e := by
  obtain ⟨Y, rfl, hY1, hY2⟩ := ha.levs
  obtain ⟨Z, rfl, hZ1, hZ2⟩ := hb.levs
  rw [List.length_map, List.length_map]
  rw [List.length_map] at hl hm
  have HC : Aid.Hid2 (∀ w1 : World, Below w.heap.size w w1 →
      Calls Tryd.prog 39 #[.slice (some ⟨w1.heap.size, 0, none⟩) 2 2] (w1.alloc (.cells #[.slice a Y.length ca, .slice b Z.length cb] 22)) fun e w' => ∃ va vc, e = .returned (.slice va (Y ++ Z).length vc) ∧
        w'.ownsRow 0 86 1 (.slice va (Y ++ Z).length vc) (Y ++ Z).length ((Y ++ Z).map (·.v)) ∧ Below (w1.alloc (.cells #[.slice a Y.length ca, .slice b Z.length cb] 22)).heap.size (w1.alloc (.cells #[.slice a Y.length ca, .slice b Z.length cb] 22)) w') := by
    refine ⟨fun w1 hb1 => ?_⟩
    have hb2 := Aid.bt hb1 (Aid.b1 w1 (.cells #[.slice a Y.length ca, .slice b Z.length cb] 22))
    have hone : ∀ (L : List Dia.Lev), ∀ u ∈ L.map (·.v), u.oneCell' = true := by
      intro L u hu
      obtain ⟨y, _, rfl⟩ := List.mem_map.1 hu
      rfl
    have hcon := Tryd.c_Concat (some ⟨w1.heap.size, 0, none⟩) [⟨a, Y.map (·.v), ca⟩, ⟨b, Z.map (·.v), cb⟩] 2 (w1.alloc (.cells #[.slice a Y.length ca, .slice b Z.length cb] 22))
      (Aid.row_new w1 _ _ _ (by simp [Dia.Src.v])) (by
        intro s hs
        simp only [List.mem_cons, List.not_mem_nil, or_false] at hs
        rcases hs with rfl | rfl
        · exact ⟨hY1.below hb2, hna, hone Y⟩
        · exact ⟨hZ1.below hb2, hnb, hone Z⟩) (by simp) (by simp [Dia.Src.sum]; omega)
    refine hcon.mono fun e w' ⟨v, he, hown, hbc⟩ => ?_
    subst he
    have e1 : [(⟨a, Y.map (·.v), ca⟩ : Dia.Src), ⟨b, Z.map (·.v), cb⟩].flatMap (·.vals) = (Y ++ Z).map (·.v) := by simp
    rw [e1, List.length_map] at hown
    obtain ⟨va, vc, rfl⟩ := Aid.own_val hown
    exact ⟨va, vc, rfl, Aid.ownsRow_base hown (Nat.zero_le _), hbc⟩
  have HR : Aid.Hid2 (∀ y ∈ Y ++ Z, Dia.RowsAt w y.a y.rows) := ⟨by
    intro y hy
    rcases List.mem_append.1 hy with h | h
    · exact hY2 y h
    · exact hZ2 y h⟩
  rw [← List.map_append]
  clear hna hnb hY2 hZ2 hY1 hZ1 ha hb
  generalize Y ++ Z = YZ at *
  have hc2 := HC.out (((w.alloc (.cells #[.slice a Y.length ca] 24)).alloc (.cells #[.slice b Z.length cb] 24)).alloc (.cells #[.slice none 0 0] 24)) (Aid.b3 _ _ _ _)
  simp only [World.size_alloc] at hc2
  have HC2 := Aid.Hid2.mk hc2
  clear hc2 HC
  unfold Dia.tabv
  go_enter Tryd.func25, Tryd.ntmps25
  go_wp2_with (go_at_call 39; refine HC2.out.mono ?_; rintro e w3 ⟨va, vc, rfl, hown, hb3⟩; have k4 := Aid.blkB hb3 (Aid.blk_alloc (Aid.heap3 _ _ _ _).2) (by omega); obtain ⟨p0, p0f⟩ := Aid.one k4)
  have hb4 : Below w.heap.size w w3 := ((Aid.b3 _ _ _ _).alloc (by simp; omega) _).trans (hb3.mono (by omega))
  exact bodyPost_ret (v := .agg #[.slice va YZ.length vc]) (by simp [results, Tryd.results25, go_sem, p0]) rfl (by
    have t4 : Aid.Tag w3 (w.heap.size + 1 + 1) 24 := ⟨_, _, k4⟩
    have hown4 := Aid.own_set (j := 0) (u := .slice va YZ.length vc) hown t4 (by decide)
    have hb5 : Below w.heap.size w (w3.setCell ⟨w.heap.size + 1 + 1, 0, none⟩ (.slice va YZ.length vc)) := hb4.setCell (by show w.heap.size ≤ w.heap.size + 1 + 1; omega) _
    refine ⟨va, vc, by rw [List.length_map]; rfl, ?_, ?_, Dia.levelsAt_of (Aid.own_tag hown4) (Aid.own_at hown4) (fun y hy => (HR.out y hy).below hb5), hb5⟩
    · rw [List.length_map]
      rcases hown.2 with ⟨h, h0⟩ | ⟨g, vc', cur, h, _, _, h5, _⟩
      · rw [h0]; exact Nat.zero_le _
      · cases h; exact h5
    · intro h
      subst h
      rcases hown.2 with ⟨h, h0⟩ | ⟨g, vc', cur, h, _, _, h5, _⟩
      · exact (Value.slice.inj h).2.2
      · cases h)
end Go.Proofs
