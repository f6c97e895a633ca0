/- rows and levels in memory; walks of run: Forward; walks of run: right -/
import Derived.Test.YtoaojojapebamaaGreatDoorM08
import Derived.StillTailTactics
namespace Go.Proofs
open Go.RowKit

/-- a block of elements of a type -/
def Aid.Tag (w : World) (k : Nat) (T : TypeId) : Prop := ∃ C fr, w.heap[k]? = some (.cells C T fr)
theorem Aid.Tag.below {w w' : World} {k : Nat} {T : TypeId} (h : Aid.Tag w k T) (hb : Below w.heap.size w w') : Aid.Tag w' k T := by
  obtain ⟨C, fr, h⟩ := h
  exact ⟨C, fr, by rw [hb.block k (Array.getElem?_eq_some_iff.1 h).1, h]⟩
theorem Aid.Tag.set {w : World} {k k' j : Nat} {T : TypeId} {u : Value} (h : Aid.Tag w k T) : Aid.Tag (w.setCell ⟨k', j, none⟩ u) k T := by
  obtain ⟨C, fr, h⟩ := h
  by_cases e : k = k'
  · subst e
    refine ⟨C.setIfInBounds j u, fr, ?_⟩
    simp [World.setCell, Array.getElem?_modify, h]
  · refine ⟨C, fr, ?_⟩
    simp [World.setCell, Array.getElem?_modify, h, Ne.symm e]
theorem Aid.Tag.ne {w : World} {k k' : Nat} {T T' : TypeId} (h : Aid.Tag w k T) (h' : Aid.Tag w k' T') (hne : T ≠ T') : k ≠ k' := by
  intro e
  subst e
  obtain ⟨C, fr, h⟩ := h
  obtain ⟨C', fr', h'⟩ := h'
  rw [h] at h'
  simp at h'
  exact hne h'.2.1
theorem Aid.cell_set {w : World} {k k' j i : Nat} {u v : Value} (hne : k ≠ k') (h : w.cell? ⟨k, i, none⟩ = some v) : (w.setCell ⟨k', j, none⟩ u).cell? ⟨k, i, none⟩ = some v := by
  rw [World.cell?_setCell_other _ _ _ _ (fun e => hne (by simpa using (congrArg Addr.block e).symm)), h]
/-- a row's signs in memory -/
def Dia.ListAt (w : World) (al : Option Addr) (l : List Int) : Prop := l = [] ∨ ∃ b off, al = some ⟨b, off, none⟩ ∧ Aid.Tag w b 21 ∧ ∀ j u, (l.map Dia.rv)[j]? = some u → w.cell? ⟨b, off + j, none⟩ = some u
theorem Dia.ListAt.row {w : World} {al : Option Addr} {l : List Int} (h : Dia.ListAt w al l) : Aid.RowAt w al (l.map Dia.rv) := by
  rcases h with h | ⟨b, off, h1, _, h2⟩
  · left; rw [h]; rfl
  · exact .inr ⟨b, off, h1, h2⟩
theorem Dia.ListAt.below {w w' : World} {al : Option Addr} {l : List Int} (h : Dia.ListAt w al l) (hb : Below w.heap.size w w') : Dia.ListAt w' al l := by
  rcases h with h | ⟨b, off, h1, h2, h3⟩
  · exact .inl h
  · exact .inr ⟨b, off, h1, h2.below hb, fun j u hj => Aid.cell_ext hb (h3 j u hj)⟩
theorem Dia.ListAt.set {w : World} {al : Option Addr} {l : List Int} {k j : Nat} {T : TypeId} {u : Value} (h : Dia.ListAt w al l) (hk : Aid.Tag w k T) (hne : T ≠ 21) : Dia.ListAt (w.setCell ⟨k, j, none⟩ u) al l := by
  rcases h with h | ⟨b, off, h1, h2, h3⟩
  · exact .inl h
  · exact .inr ⟨b, off, h1, h2.set, fun i v hi => Aid.cell_set (h2.ne hk (Ne.symm hne)) (h3 i v hi)⟩
/-- a row, and where its signs lie -/
structure Dia.XRow where
  row : Dia.Row
  al : Option Addr
  cl : Nat
def Dia.XRow.cells (x : Dia.XRow) : List Value := [.int .i64 x.row.from', .int .i32 x.row.to, .int .i64 x.row.count, .slice x.al x.row.list.length x.cl]
theorem Dia.XRow.len (x : Dia.XRow) : x.cells.length = 4 := rfl
def Dia.XsAt (w : World) (a : Option Addr) (X : List Dia.XRow) : Prop :=
  X = [] ∨ ∃ b off, a = some ⟨b, off, none⟩ ∧ Aid.Tag w b 96 ∧ ∀ k x, X[k]? = some x → (∀ j v, x.cells[j]? = some v → w.cell? ⟨b, off + k * 4 + j, none⟩ = some v) ∧ Dia.ListAt w x.al x.row.list
/-- rows in memory -/
def Dia.RowsAt (w : World) (a : Option Addr) (rs : List Dia.Row) : Prop := ∃ X : List Dia.XRow, X.map (·.row) = rs ∧ Dia.XsAt w a X
def Dia.LevelsAt (w : World) (a : Option Addr) (ls : List (List Dia.Row)) : Prop :=
  ls = [] ∨ ∃ b off, a = some ⟨b, off, none⟩ ∧ Aid.Tag w b 94 ∧ ∀ k rs, ls[k]? = some rs → ∃ ar cr, w.cell? ⟨b, off + k, none⟩ = some (.slice ar rs.length cr) ∧ Dia.RowsAt w ar rs
/-- a row in memory: its four cells, and its signs -/
def Dia.RowIn (w : World) (b off : Nat) (r : Dia.Row) : Prop :=
  ∃ al cl, w.cell? ⟨b, off, none⟩ = some (.int .i64 r.from') ∧ w.cell? ⟨b, off + 1, none⟩ = some (.int .i32 r.to) ∧ w.cell? ⟨b, off + 2, none⟩ = some (.int .i64 r.count) ∧
    w.cell? ⟨b, off + 3, none⟩ = some (.slice al r.list.length cl) ∧ Aid.RowAt w al (r.list.map Dia.rv)
theorem Dia.XsAt.below {w w' : World} {a : Option Addr} {X : List Dia.XRow} (h : Dia.XsAt w a X) (hb : Below w.heap.size w w') : Dia.XsAt w' a X := by
  rcases h with h | ⟨b, off, ha, ht, h⟩
  · exact .inl h
  · exact .inr ⟨b, off, ha, ht.below hb, fun k x hk => ⟨fun j v hj => Aid.cell_ext hb ((h k x hk).1 j v hj), (h k x hk).2.below hb⟩⟩
theorem Dia.XsAt.set {w : World} {a : Option Addr} {X : List Dia.XRow} {k j : Nat} {T : TypeId} {u : Value} (h : Dia.XsAt w a X) (hk : Aid.Tag w k T) (h1 : T ≠ 96) (h2 : T ≠ 21) : Dia.XsAt (w.setCell ⟨k, j, none⟩ u) a X := by
  rcases h with h | ⟨b, off, ha, ht, h⟩
  · exact .inl h
  · exact .inr ⟨b, off, ha, ht.set, fun k x hx => ⟨fun j v hj => Aid.cell_set (ht.ne hk (Ne.symm h1)) ((h k x hx).1 j v hj), (h k x hx).2.set hk h2⟩⟩
theorem Dia.RowsAt.below {w w' : World} {a : Option Addr} {rs : List Dia.Row} (h : Dia.RowsAt w a rs) (hb : Below w.heap.size w w') : Dia.RowsAt w' a rs := by
  obtain ⟨X, h1, h2⟩ := h
  exact ⟨X, h1, h2.below hb⟩
theorem Dia.RowsAt.set {w : World} {a : Option Addr} {rs : List Dia.Row} {k j : Nat} {T : TypeId} {u : Value} (h : Dia.RowsAt w a rs) (hk : Aid.Tag w k T) (g1 : T ≠ 96) (g2 : T ≠ 21) : Dia.RowsAt (w.setCell ⟨k, j, none⟩ u) a rs := by
  obtain ⟨X, h1, h2⟩ := h
  exact ⟨X, h1, h2.set hk g1 g2⟩
theorem Dia.LevelsAt.below {w w' : World} {a : Option Addr} {ls : List (List Dia.Row)} (h : Dia.LevelsAt w a ls) (hb : Below w.heap.size w w') : Dia.LevelsAt w' a ls := by
  rcases h with h | ⟨b, off, ha, ht, h⟩
  · exact .inl h
  · exact .inr ⟨b, off, ha, ht.below hb, fun k r hk => by
      obtain ⟨ar, cr, h1, h2⟩ := h k r hk
      exact ⟨ar, cr, Aid.cell_ext hb h1, h2.below hb⟩⟩
/-- a store elsewhere -/
theorem Dia.LevelsAt.set {w : World} {a : Option Addr} {ls : List (List Dia.Row)} {k j : Nat} {T : TypeId} {u : Value} (h : Dia.LevelsAt w a ls) (hk : Aid.Tag w k T) (g0 : T ≠ 94) (g1 : T ≠ 96) (g2 : T ≠ 21) : Dia.LevelsAt (w.setCell ⟨k, j, none⟩ u) a ls := by
  rcases h with h | ⟨b, off, ha, ht, h⟩
  · exact .inl h
  · exact .inr ⟨b, off, ha, ht.set, fun i r hi => by
      obtain ⟨ar, cr, h1, h2⟩ := h i r hi
      exact ⟨ar, cr, Aid.cell_set (ht.ne hk (Ne.symm g0)) h1, h2.set hk g1 g2⟩⟩
theorem Dia.RowsAt.get {w : World} {a : Option Addr} {rs : List Dia.Row} (h : Dia.RowsAt w a rs) {k : Nat} (hk : k < rs.length) : ∃ b off, a = some ⟨b, off, none⟩ ∧ Dia.RowIn w b (off + k * 4) rs[k] := by
  obtain ⟨X, rfl, h⟩ := h
  rcases h with h | ⟨b, off, ha, _, h⟩
  · subst h; simp at hk
  · have hk' : k < X.length := by simpa using hk
    obtain ⟨h1, h2⟩ := h k _ (List.getElem?_eq_getElem hk')
    rw [List.getElem_map]
    exact ⟨b, off, ha, X[k].al, X[k].cl, h1 0 _ rfl, h1 1 _ rfl, h1 2 _ rfl, h1 3 _ rfl, h2.row⟩
theorem Dia.LevelsAt.get {w : World} {a : Option Addr} {ls : List (List Dia.Row)} (h : Dia.LevelsAt w a ls) {k : Nat} (hk : k < ls.length) :
    ∃ b off ar cr, a = some ⟨b, off, none⟩ ∧ w.cell? ⟨b, off + k, none⟩ = some (.slice ar ls[k].length cr) ∧ Dia.RowsAt w ar ls[k] := by
  rcases h with h | ⟨b, off, ha, _, h⟩
  · subst h; simp at hk
  · obtain ⟨ar, cr, h1, h2⟩ := h k _ (List.getElem?_eq_getElem hk)
    exact ⟨b, off, ar, cr, ha, h1, h2⟩
theorem Dia.fwd_some {ls : List (List Dia.Row)} {code : Int} {i k : Nat} (hi : i < ls.length) (hk : k < ls[i].length) (hl : ∀ rs ∈ ls.take i, ∀ r ∈ rs, r.has code = false) (hr : ∀ r ∈ ls[i].take k, r.has code = false) (hh : ls[i][k].has code = true) :
    Dia.fwd ls code = (ls[i][k].at code, true) := by
  have e : ls.flatten = (ls.take i).flatten ++ (ls[i].take k ++ ls[i][k] :: (ls[i].drop (k + 1) ++ (ls.drop (i + 1)).flatten)) := by
    have e1 := congrArg List.flatten (List.take_append_drop i ls)
    rw [List.drop_eq_getElem_cons hi, List.flatten_append, List.flatten_cons] at e1
    have e2 := List.take_append_drop k ls[i]
    rw [List.drop_eq_getElem_cons hk] at e2
    rw [← e1]
    congr 1
    have e3 : ls[i] ++ (List.drop (i + 1) ls).flatten = (List.take k ls[i] ++ ls[i][k] :: List.drop (k + 1) ls[i]) ++ (List.drop (i + 1) ls).flatten := by rw [e2]
    rw [e3]
    simp only [List.append_assoc, List.cons_append]
  unfold Dia.fwd
  rw [e, List.find?_append, List.find?_append, List.find?_cons, hh]
  rw [List.find?_eq_none.2 (by intro r hr'; obtain ⟨rs, h1, h2⟩ := List.mem_flatten.1 hr'; simp [hl rs h1 r h2]), List.find?_eq_none.2 (by intro r hr'; simp [hr r hr'])]
  rfl
theorem Dia.fwd_none {ls : List (List Dia.Row)} {code : Int} (hl : ∀ rs ∈ ls, ∀ r ∈ rs, r.has code = false) : Dia.fwd ls code = (0, false) := by
  unfold Dia.fwd
  rw [List.find?_eq_none.2 (by intro r hr'; obtain ⟨rs, h1, h2⟩ := List.mem_flatten.1 hr'; simp [hl rs h1 r h2])]
/-- a table's value -/
def Dia.tabv (a : Option Addr) (n c : Nat) : Value := .agg #[.slice a n c]

set_option maxRecDepth 100000 in
set_option maxHeartbeats 1000000 in
theorem Tryz.c_Forward (a : Option Addr) (ls : List (List Dia.Row)) (cap : Nat) (code : Int) (w : World) (hlv : Dia.LevelsAt w a ls) (hok : ∀ rs ∈ ls, ∀ r ∈ rs, r.Ok) (hn : ls.length ≤ 1000000) (hn2 : ∀ rs ∈ ls, rs.length ≤ 1000000)
    (hcode : -9223372036854775808 ≤ code ∧ code ≤ 9223372036854775807) :
    Calls Tryz.prog 50 #[Dia.tabv a ls.length cap, .int .i64 code] w fun e w' => e = .returned (.tuple #[.int .i32 (Dia.fwd ls code).1, .bool (Dia.fwd ls code).2]) ∧ Below w.heap.size w w' := by
  unfold Dia.tabv
  go_enter Tryz.func50, Tryz.ntmps50
  go_wp2
  go_loopw [7, 9, 13] (fun _ _ i wr => ∃ k : Nat, k ≤ ls.length ∧ i = .int .i64 k ∧ (∀ rs ∈ ls.take k, ∀ r ∈ rs, r.has code = false) ∧ Below w.heap.size w wr)
    (fun _ _ i _ => ls.length - (intOf i).toNat)
  case atStart => exact ⟨0, Nat.zero_le _, rfl, by simp, (Below.refl _ _).alloc (Nat.le_refl _) _⟩
  case round =>
    obtain ⟨i, hi, rfl, hl, hb⟩ := hrel
    obtain ⟨wo, rfl⟩ : ∃ wo : World, wo = wr := ⟨_, rfl⟩
    have HL := Aid.Hid2.mk hl
    clear hl
    by_cases hlt : i < ls.length
    · obtain ⟨b, off, ar, cr, rfl, hcell, hrows⟩ := (hlv.below hb).get hlt
      have hok2 := Aid.Hid2.mk (hok ls[i] (List.getElem_mem _))
      have hnn := hn2 ls[i] (List.getElem_mem _)
      have ht := Aid.Hid2.mk (Dia.take_snoc ls i hlt)
      have HF := Aid.Hid2.mk (fun k hk hr hh => Dia.fwd_some (ls := ls) (code := code) (i := i) (k := k) hlt hk HL.out hr hh)
      generalize ls[i] = rs at *
      go_wp2
      go_loopw [9, 19] (fun _ j wr => ∃ k : Nat, k ≤ rs.length ∧ j = .int .i64 k ∧ (∀ r ∈ rs.take k, r.has code = false) ∧ Below wo.heap.size wo wr)
        (fun _ j _ => rs.length - (intOf j).toNat)
      case atStart => exact ⟨0, Nat.zero_le _, rfl, by simp, Below.refl _ _⟩
      case round =>
        obtain ⟨k, hk, rfl, hr, hb2⟩ := hrel
        have HR := Aid.Hid2.mk hr
        clear hr
        by_cases hlk : k < rs.length
        · obtain ⟨b2, off2, rfl, al, cl, h0, h1, h2, h3, h4⟩ := (hrows.below hb2).get hlk
          have hR := hok2.out rs[k] (List.getElem_mem _)
          have ht2 := Aid.Hid2.mk (Dia.take_snoc rs k hlk)
          have HF2 := Aid.Hid2.mk (HF.out k hlk HR.out)
          generalize rs[k] = r at *
          obtain ⟨o1, o2, o3, o4, o5, o6⟩ := hR
          obtain ⟨f, t, c, L⟩ := r
          simp only at h0 h1 h2 h3 h4 o1 o2 o3 o4 o5 o6
          have hHas : Aid.Hid2 (∀ w, Calls Tryz.prog 90 #[.agg #[.int .i64 f, .int .i32 t, .int .i64 c, .slice al L.length cl], .int .i64 code] w fun e w' => e = .returned (.bool (Dia.Row.has ⟨f, t, c, L⟩ code)) ∧ Below w.heap.size w w') :=
            ⟨fun w => Tryz.c_has f t c code _ w ⟨o1, by omega⟩ ⟨by omega, by omega⟩ hcode⟩
          by_cases hh : Dia.Row.has ⟨f, t, c, L⟩ code = true
          · have HA : Aid.Hid2 (∀ w, Aid.RowAt w al (L.map Dia.rv) → Calls Tryz.prog 64 #[.agg #[.int .i64 f, .int .i32 t, .int .i64 c, .slice al L.length cl], .int .i64 code] w fun e w' => e = .returned (.int .i32 (Dia.Row.at ⟨f, t, c, L⟩ code)) ∧ Below w.heap.size w w') :=
              ⟨fun w hr => Tryz.c_at ⟨f, t, c, L⟩ al cl code w ⟨o1, by simp only; omega⟩ (fun h => ⟨o4 h, o5 h⟩) (by simp only; omega) o6 (by
                unfold Dia.Row.has at hh
                simpa using hh) hr⟩
            have HF3 := Aid.Hid2.mk (HF2.out hh)
            rw [hh] at hHas
            clear hh
            go_wp2_with (first
              | (go_at_call 90; refine (hHas.out _).mono ?_; rintro e w3 ⟨rfl, hb3⟩; have hb3' := hb3.mono (show wr.heap.size + 1 ≤ _ by simp); have q0 := Aid.cellsN hb3' 0 _ rfl; have q1 := Aid.cellsN hb3' 1 _ rfl; have q2 := Aid.cellsN hb3' 2 _ rfl; have q3 := Aid.cellsN hb3' 3 _ rfl)
              | (go_at_call 64; refine (HA.out _ (h4.below (Aid.below_new hb3' (Nat.le_refl _)))).mono ?_; rintro e w4 ⟨rfl, hb4⟩))
            go_ret2
            rw [HF3.out]
            exact ⟨rfl, Aid.bt (Aid.bt (Aid.bt hb hb2) (Aid.below_new hb3' (Nat.le_refl _))) hb4⟩
          · have hh' : Dia.Row.has ⟨f, t, c, L⟩ code = false := by simpa using hh
            clear hh
            have HH := Aid.Hid2.mk hh'
            rw [hh'] at hHas
            clear hh'
            go_wp2_with (first
              | (go_at_call 90; refine (hHas.out _).mono ?_; rintro e w3 ⟨rfl, hb3⟩))
            go_roundw
            case rel => exact ⟨k + 1, by omega, by go_num, by
              rw [ht2.out]
              intro x hx
              rcases List.mem_append.1 hx with hx | hx
              · exact HR.out x hx
              · rw [List.mem_singleton] at hx; subst hx; exact HH.out, Aid.bt hb2 (Aid.below_new (hb3.mono (by simp)) (Nat.le_refl _))⟩
            case measure => simp [intOf]; omega
        · have e : rs.take k = rs := List.take_of_length_le (by omega)
          have hr := HR.out
          rw [e] at hr
          have HR2 := Aid.Hid2.mk hr
          clear hr
          go_wp2
          go_roundw
          case rel => exact ⟨i + 1, by omega, by go_num, by
            rw [ht.out]
            intro xs hx
            rcases List.mem_append.1 hx with hx | hx
            · exact HL.out xs hx
            · rw [List.mem_singleton] at hx; subst hx; exact HR2.out, Aid.bt hb hb2⟩
          case measure => simp [intOf]; omega
    · have e : ls.take i = ls := List.take_of_length_le (by omega)
      have hl := HL.out
      rw [e] at hl
      have HF := Aid.Hid2.mk (Dia.fwd_none hl)
      clear hl
      go_wp2
      go_ret2
      rw [HF.out]
      exact ⟨rfl, hb⟩
end Go.Proofs
namespace Go.Proofs
open Go.RowKit

theorem Aid.ownsRow_base {w : World} {B B' : Nat} {e : TypeId} {sz : Nat} {v : Value} {n : Nat} {xs : List Value} (h : w.ownsRow B e sz v n xs) (hb : B' ≤ B) : w.ownsRow B' e sz v n xs := by
  refine ⟨h.1, ?_⟩
  rcases h.2 with h2 | ⟨g, cap, cur, h3, h4, h5⟩
  · exact .inl h2
  · exact .inr ⟨g, cap, cur, h3, Nat.le_trans hb h4, h5⟩
/-- two rows of elements of two types lie in two blocks -/
theorem Aid.own_apart {w : World} {B B' : Nat} {e e' : TypeId} {sz sz' : Nat} {v v' : Value} {n n' : Nat} {xs xs' : List Value} (h : w.ownsRow B e sz v n xs) (h' : w.ownsRow B' e' sz' v' n' xs') (hne : e ≠ e') :
    v.ownBlock = none ∨ v.ownBlock ≠ v'.ownBlock := by
  rcases h.2 with ⟨rfl, _⟩ | ⟨g, cap, cur, rfl, _, h5, _⟩
  · exact .inl rfl
  · right
    rcases h'.2 with ⟨rfl, _⟩ | ⟨g', cap', cur', rfl, _, h6, _⟩
    · simp [Value.ownBlock]
    · simp only [Value.ownBlock, ne_eq, Option.some.injEq]
      intro e
      subst e
      rw [h5] at h6
      simp at h6
      exact hne h6.2
theorem Aid.b3 (w : World) (o1 o2 o3 : Obj) : Below w.heap.size w (((w.alloc o1).alloc o2).alloc o3) :=
  (((Below.refl _ _).alloc (Nat.le_refl _) _).alloc (by simp) _).alloc (by simp; omega) _
theorem Aid.region_still_tail {P : Program} {id : Nat} {Q : Exit → Act → World → Prop} {a : Act} {w : World} {l : List Oper} (n : Nat) (hm : P.follows .mixedOrders = true) (hB : Region.lexTailB .any l.toArray n = true)
    (h : wpStill P l.toArray w.drew (fun a' => wpList P l.toArray Q (l.drop n) a' w.drew) (l.take n) a) : (Code.region id l.toArray true).wp P Q a w :=
  wp_region_still_tail n hm hB h
/-- what Points hands back: a row of the call's own -/
def Tryz.IsPointsF (l : List UInt8) (w w' : World) (e : Ending) : Prop :=
  ∃ (aa : Option Addr) (cap : Nat) (a b : Int), e = .returned (.tuple #[.slice aa (Dia.pts l).1.length cap, .agg #[.int .i64 a, .int .i64 b]]) ∧
    w'.ownsRow 0 21 1 (.slice aa (Dia.pts l).1.length cap) (Dia.pts l).1.length ((Dia.pts l).1.map Dia.rv) ∧ Dia.IsFault (Dia.pts l).2 a b ∧ Below w.heap.size w w'
theorem Aid.own_val {w : World} {B : Nat} {e : TypeId} {sz : Nat} {v : Value} {n : Nat} {xs : List Value} (h : w.ownsRow B e sz v n xs) : ∃ a cap, v = .slice a n cap := by
  rcases h.2 with ⟨rfl, rfl⟩ | ⟨g, cap, cur, rfl, _⟩
  · exact ⟨none, 0, rfl⟩
  · exact ⟨_, cap, rfl⟩

set_option maxRecDepth 100000 in
set_option maxHeartbeats 400000 in
theorem Tryz.c_PointsF (s : ByteArray) (w : World) (hs : s.size ≤ 1000000) (hT : Tryz.Tabs w) :
    Calls Tryz.prog 31 #[.string s] w fun e w' => Tryz.IsPointsF s.data.toList w w' e := by
  obtain ⟨i0, hi, hz0, hz1, hz2⟩ := info_parts Tryz.info_i32
  go_enter Tryz.func31, Tryz.ntmps31
  go_wp2
  go_loopw [4, 5, 6, 7] (fun v i _ _ wr => ∃ (k : Nat) (ps : List Int), i = .int .i64 k ∧ Dia.UpTo s.data.toList k ps ∧
      wr.ownsRow (w.heap.size + 1) 21 1 v ps.length (ps.map Dia.rv) ∧ Below (w.heap.size + 1) (w.alloc (.cells #[.int .i64 0, .int .i64 0] 26)) wr)
    (fun _ i _ _ _ => s.size - (intOf i).toNat)
  case atStart => exact ⟨0, [], rfl, Dia.upTo_zero _, World.ownsRow_nil _ _ _ _, Below.refl _ _⟩
  case round =>
    obtain ⟨k, ps, rfl, hu, hown, hb⟩ := hrel
    have hk : k ≤ s.size := Dia.upTo_le hu
    have hpl := Dia.upTo_len hu
    have hbw : Below w.heap.size w wr := Aid.below_new hb (Nat.le_refl _)
    have hBr := Aid.new_lt hb
    have hTr : Tryz.Tabs wr := hT.below hbw
    have h4 := Dia.hd_le (s.data.toList.drop k)
    by_cases hlt : k < s.size
    · go_wp2_with (first
        | (go_at_call 52; refine (Tryz.c_next s k _ hk (by omega) hTr).mono ?_; rintro e w1 ⟨rfl, hb1⟩; obtain ⟨c0, c1, f0, f1⟩ := Aid.cells2 (hb.trans (hb1.mono hBr)))
        | (at_builtin; refine Aid.wpList_app1 (w0 := w.alloc (.cells #[.int .i64 0, .int .i64 0] 26)) _ rfl _ _ 57 21 1 4 rfl Tryz.underlying57 i0 _ hi hz0 hz1 hz2 rfl (by decide) (w.heap.size + 1) _ _ _ #[.int .i32 (Dia.hd (List.drop k s.data.toList)).1] _ rfl _ rfl (Aid.ownsRow_below hown hb1) (hb.trans (hb1.mono hBr)) ?_ rfl rfl ?_ ?_ ?_ ?_))
      · have hz : (((Dia.hd (List.drop k s.data.toList)).2 : Int) == 0) = true := by assumption
        exact bodyPost_ret (v := .tuple #[.slice none 0 0, .agg #[.int .i64 2, .int .i64 k]]) (by simp [results, Tryz.results31, go_sem, c0, c1]) rfl (by
          unfold Tryz.IsPointsF
          rw [Dia.upTo_bad hu hlt (by simpa using hz)]
          exact ⟨none, 0, 2, k, rfl, World.ownsRow_nil _ _ _ _, Dia.isFault_at k, ((hbw.trans (hb1.mono (by omega))).setCell (Nat.le_refl _) _).setCell (Nat.le_refl _) _⟩)
      · have := hb1.size; omega
      · rfl
      · omega
      · omega
      · intro v' w2 hown2 hb2 hsz2 _
        have hz : (((Dia.hd (List.drop k s.data.toList)).2 : Int) == 0) = false := by assumption
        have hz' : (Dia.hd (List.drop k s.data.toList)).2 ≠ 0 := by simpa using hz
        go_wp2
        go_roundw
        case rel => exact ⟨k + (Dia.hd (List.drop k s.data.toList)).2, _, by go_num, Dia.upTo_step hu hz', by simpa [Dia.rv] using hown2, hb2⟩
        case measure => simp [intOf]; omega
    · obtain ⟨c0, c1, f0, f1⟩ := Aid.cells2 hb
      have hend := Lib.hid (Dia.upTo_end hu hlt)
      obtain ⟨aa, cap, rfl⟩ := Aid.own_val hown
      go_wp2
      exact bodyPost_ret (v := .tuple #[.slice aa ps.length cap, .agg #[.int .i64 0, .int .i64 0]]) (by simp [results, Tryz.results31, go_sem, c0, c1]) rfl (by
          unfold Tryz.IsPointsF
          rw [hend.out]
          have hbb : Below w.heap.size w ((wr.setCell ⟨w.heap.size, 0, none⟩ (.int .i64 0)).setCell ⟨w.heap.size, 1, none⟩ (.int .i64 0)) := (hbw.setCell (Nat.le_refl _) _).setCell (Nat.le_refl _) _
          refine ⟨aa, cap, 0, 0, rfl, ?_, Dia.isFault_none, hbb⟩
          exact Aid.ownsRow_base (ownsRow_setCell_below (ownsRow_setCell_below hown (by show w.heap.size < w.heap.size + 1; omega) _) (by show w.heap.size < w.heap.size + 1; omega) _) (Nat.zero_le _))

def Tryz.IsRight (o : Option Dia.Row) (w w' : World) (e : Ending) : Prop :=
  ∃ (f t c : Int) (al : Option Addr) (n cl : Nat), e = .returned (.tuple #[.agg #[.int .i64 f, .int .i32 t, .int .i64 c, .slice al n cl], .bool o.isSome]) ∧
    (∀ r, o = some r → f = r.from' ∧ t = r.to ∧ c = r.count ∧ n = r.list.length ∧ w'.ownsRow 0 21 1 (.slice al n cl) n (r.list.map Dia.rv)) ∧ Below w.heap.size w w'

end Go.Proofs
