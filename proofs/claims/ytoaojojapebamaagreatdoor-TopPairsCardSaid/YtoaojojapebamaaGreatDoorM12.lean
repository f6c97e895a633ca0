/- walks of run: right, of listed signs; rows of the call's own -/
import Derived.Test.YtoaojojapebamaaGreatDoorM11
namespace Go.Proofs
open Go.RowKit

theorem Aid.four {w : World} {k : Nat} {a b c d : Value} {T : TypeId} (h : w.heap[k]? = some (.cells #[a, b, c, d] T (0, 0))) :
    w.cell? ⟨k, 0, none⟩ = some a ∧ w.cell? ⟨k, 1, none⟩ = some b ∧ w.cell? ⟨k, 2, none⟩ = some c ∧ w.cell? ⟨k, 3, none⟩ = some d ∧
    w.frozen? ⟨k, 0, none⟩ = false ∧ w.frozen? ⟨k, 1, none⟩ = false ∧ w.frozen? ⟨k, 2, none⟩ = false ∧ w.frozen? ⟨k, 3, none⟩ = false := by
  refine ⟨?_, ?_, ?_, ?_, ?_, ?_, ?_, ?_⟩ <;> simp [World.cell?, World.frozen?, h]
theorem Aid.blk {W w1 : World} {k : Nat} {o : Obj} (hb : Below W.heap.size W w1) (hk : W.heap[k]? = some o) : w1.heap[k]? = some o := by
  rw [hb.block k (Array.getElem?_eq_some_iff.1 hk).1, hk]
theorem Aid.blk_alloc {w : World} {k : Nat} {o o' : Obj} (hk : w.heap[k]? = some o) : (w.alloc o').heap[k]? = some o := Aid.blk ((Below.refl _ _).alloc (Nat.le_refl _) _) hk
theorem Aid.heap3 (w : World) (o1 o2 o3 : Obj) : (((w.alloc o1).alloc o2).alloc o3).heap[w.heap.size + 1]? = some o2 ∧ (((w.alloc o1).alloc o2).alloc o3).heap[w.heap.size + 1 + 1]? = some o3 := by
  have h1 := heap_alloc_new (w.alloc o1) o2
  have h2 := heap_alloc_new ((w.alloc o1).alloc o2) o3
  simp only [World.size_alloc] at h1 h2
  exact ⟨Aid.blk_alloc h1, h2⟩
theorem Aid.own_set {w : World} {B k j : Nat} {e T : TypeId} {sz : Nat} {v u : Value} {n : Nat} {xs : List Value} (h : w.ownsRow B e sz v n xs) (hk : Aid.Tag w k T) (hne : T ≠ e) : (w.setCell ⟨k, j, none⟩ u).ownsRow B e sz v n xs := by
  refine ⟨h.1, ?_⟩
  rcases h.2 with h2 | ⟨g, cap, cur, h3, h4, h5, h6⟩
  · exact .inl h2
  · refine .inr ⟨g, cap, cur, h3, h4, ?_, h6⟩
    have hgk : g ≠ k := by
      intro e'
      subst e'
      obtain ⟨C, fr, hC⟩ := hk
      rw [h5] at hC
      simp at hC
      exact hne hC.2.1.symm
    simp [World.setCell, Array.getElem?_modify, h5, Ne.symm hgk]
theorem Aid.set4 {B k : Nat} {w w' : World} {a b c d : Value} (h : Below B w w') (hk : B ≤ k) : Below B w ((((w'.setCell ⟨k, 0, none⟩ a).setCell ⟨k, 1, none⟩ b).setCell ⟨k, 2, none⟩ c).setCell ⟨k, 3, none⟩ d) :=
  (((h.setCell hk _).setCell hk _).setCell hk _).setCell hk _
theorem Dia.bad_no {pl a b : Int} (h : Dia.IsFault pl a b) (hp : pl < 0) : a = 0 ∧ b = 0 := by
  obtain ⟨h1, h2⟩ := h
  rw [if_pos hp] at h1 h2
  exact ⟨h1, h2⟩
theorem Dia.bad_yes {pl a b : Int} (h : Dia.IsFault pl a b) (hp : ¬ pl < 0) : a = 2 ∧ b = pl := by
  obtain ⟨h1, h2⟩ := h
  rw [if_neg hp] at h1 h2
  exact ⟨h1, h2⟩
set_option maxRecDepth 100000 in
set_option maxHeartbeats 1000000 in
theorem Tryz.c_right_list (f t c : Int) (s : ByteArray) (w : World) (hf : -9223372036854775808 ≤ f ∧ f ≤ 9223372036854775807) (hs : s.size ≤ 1000000) (hne : s.data.toList ≠ []) (hT : Tryz.Tabs w) :
    Calls Tryz.prog 99 #[.agg #[.int .i64 f, .int .i32 t, .int .i64 c, .string s]] w fun e w' => Tryz.IsRight (Dia.right ⟨f, t, c, s.data.toList⟩) w w' e := by
  obtain ⟨hf0, hf1⟩ := hf
  have hq : (s.toList == []) = false := by rw [Lib.toList_data]; simpa using hne
  have hpl := Dia.pts_len s.data.toList
  have hsz : s.data.toList.length = s.size := rfl
  have HE : Aid.Hid2 (Dia.right ⟨f, t, c, s.data.toList⟩ = if (decide ((Dia.pts s.data.toList).2 < 0) && Dia.inRange f (Dia.pts s.data.toList).1.length) = true then some ⟨f, t, (Dia.pts s.data.toList).1.length, (Dia.pts s.data.toList).1⟩ else none) := ⟨by
    unfold Dia.right
    simp only
    rw [if_neg hne]⟩
  have HP : Aid.Hid2 (∀ w, Tryz.Tabs w → Calls Tryz.prog 31 #[.string s] w fun e w' => Tryz.IsPointsF s.data.toList w w' e) := ⟨fun w hT => Tryz.c_PointsF s w hs hT⟩
  have hll : (Dia.pts s.data.toList).1.length ≤ 1000000 := by omega
  have HN := Aid.Hid2.mk (Dia.pts_ne hne)
  clear hpl hsz hne
  by_cases hbad : (Dia.pts s.data.toList).2 < 0
  · have HB := Aid.Hid2.mk hbad
    have hl1 : 1 ≤ (Dia.pts s.data.toList).1.length := by
      have := HN.out hbad
      cases e : (Dia.pts s.data.toList).1 with
      | nil => exact absurd e this
      | cons => simp
    have HE2 : Aid.Hid2 (Dia.right ⟨f, t, c, s.data.toList⟩ = if Dia.inRange f (Dia.pts s.data.toList).1.length = true then some ⟨f, t, (Dia.pts s.data.toList).1.length, (Dia.pts s.data.toList).1⟩ else none) := ⟨by rw [HE.out, decide_eq_true hbad, Bool.true_and]⟩
    clear hbad HE HN
    by_cases hr : f < 0 ∨ 1048576 - ((Dia.pts s.data.toList).1.length : Int) < f
    · have HNo : Aid.Hid2 (Dia.right ⟨f, t, c, s.data.toList⟩ = none) := ⟨by
        rw [HE2.out, if_neg]
        unfold Dia.inRange
        simp only [decide_eq_true_eq]
        omega⟩
      clear HE2
      go_enter Tryz.func99, Tryz.ntmps99
      go_wp2_with (first
        | (go_at_call 31; refine (HP.out _ (hT.below (Aid.b3 _ _ _ _))).mono ?_; rintro e w1 ⟨aa, cap, a, b, rfl, hown, hfa, hb1⟩; obtain ⟨rfl, rfl⟩ := Dia.bad_no hfa HB.out)
        | (go_at_call 7; refine (Tryz.c_Bad_no _ _).mono ?_; rintro e w2 ⟨rfl, hb2⟩; have k2 := Aid.blk hb2 (Aid.blk_alloc (Aid.blk hb1 (Aid.heap3 _ _ _ _).1)); obtain ⟨_, _, _, _, _, _, _, _⟩ := Aid.four k2; have k4 := Aid.blk hb2 (Aid.blk_alloc (Aid.blk hb1 (Aid.heap3 _ _ _ _).2)); obtain ⟨_, _, _, _, _, _, _, _⟩ := Aid.four k4))
      all_goals first
        | (exfalso; omega)
        | exact bodyPost_ret (v := .tuple #[.agg #[.int .i64 0, .int .i32 0, .int .i64 0, .slice none 0 0], .bool false]) (by simp [results, Tryz.results99, go_sem, *]) rfl (by
            refine ⟨0, 0, 0, none, 0, 0, by rw [HNo.out]; rfl, (by rw [HNo.out]; intro r hr; cases hr), ?_⟩
            exact Aid.set4 (((Aid.bt ((Aid.b3 _ _ _ _).trans (hb1.mono (by simp; omega))) (Aid.below_new (hb2.mono (by simp)) (Nat.le_refl _))).setCell (by show w.heap.size ≤ w.heap.size + 1 + 1; omega) _).setCell (by show w.heap.size ≤ w.heap.size + 1 + 1; omega) _) (by omega))
    · have HY : Aid.Hid2 (Dia.right ⟨f, t, c, s.data.toList⟩ = some ⟨f, t, (Dia.pts s.data.toList).1.length, (Dia.pts s.data.toList).1⟩) := ⟨by
        rw [HE2.out, if_pos]
        unfold Dia.inRange
        simp only [decide_eq_true_eq]
        omega⟩
      have hr0 : 0 ≤ f := by omega
      have hr1 : f ≤ 1048576 - ((Dia.pts s.data.toList).1.length : Int) := by omega
      clear HE2 hr
      go_enter Tryz.func99, Tryz.ntmps99
      go_wp2_with (first
        | (go_at_call 31; refine (HP.out _ (hT.below (Aid.b3 _ _ _ _))).mono ?_; rintro e w1 ⟨aa, cap, a, b, rfl, hown, hfa, hb1⟩; obtain ⟨rfl, rfl⟩ := Dia.bad_no hfa HB.out)
        | (go_at_call 7; refine (Tryz.c_Bad_no _ _).mono ?_; rintro e w2 ⟨rfl, hb2⟩; have k2 := Aid.blk hb2 (Aid.blk_alloc (Aid.blk hb1 (Aid.heap3 _ _ _ _).1)); obtain ⟨_, _, _, _, _, _, _, _⟩ := Aid.four k2; have k4 := Aid.blk hb2 (Aid.blk_alloc (Aid.blk hb1 (Aid.heap3 _ _ _ _).2)); obtain ⟨_, _, _, _, _, _, _, _⟩ := Aid.four k4))
      all_goals first
        | (exfalso; omega)
        | exact bodyPost_ret (v := .tuple #[.agg #[.int .i64 f, .int .i32 t, .int .i64 (Dia.pts s.data.toList).1.length, .slice aa (Dia.pts s.data.toList).1.length cap], .bool true]) (by simp [results, Tryz.results99, go_sem, *]) rfl (by
            have hbW : Below w.heap.size w w2 := Aid.bt ((Aid.b3 _ _ _ _).trans (hb1.mono (by simp; omega))) (Aid.below_new (hb2.mono (by simp)) (Nat.le_refl _))
            refine ⟨f, t, (Dia.pts s.data.toList).1.length, aa, (Dia.pts s.data.toList).1.length, cap, by rw [HY.out]; rfl, ?_, Aid.set4 ((hbW.setCell (by show w.heap.size ≤ w.heap.size + 1 + 1; omega) _).setCell (by show w.heap.size ≤ w.heap.size + 1 + 1; omega) _) (by omega)⟩
            rw [HY.out]
            intro r hr
            cases hr
            refine ⟨rfl, rfl, rfl, rfl, ?_⟩
            have h2 : w2.ownsRow 0 21 1 (.slice aa (Dia.pts s.data.toList).1.length cap) (Dia.pts s.data.toList).1.length ((Dia.pts s.data.toList).1.map Dia.rv) := Aid.ownsRow_below (Aid.ownsRow_below hown ((Below.refl _ _).alloc (Nat.le_refl _) _)) (hb2.mono (by simp))
            have t2 : Aid.Tag w2 (w.heap.size + 1) 96 := ⟨_, _, k2⟩
            have t4 : Aid.Tag w2 (w.heap.size + 1 + 1) 96 := ⟨_, _, k4⟩
            exact Aid.own_set (Aid.own_set (Aid.own_set (Aid.own_set (Aid.own_set (Aid.own_set h2 t4 (by decide)) t4.set (by decide)) t2.set.set (by decide)) t2.set.set.set (by decide)) t2.set.set.set.set (by decide)) t2.set.set.set.set.set (by decide))
  · have HB := Aid.Hid2.mk hbad
    have HNo : Aid.Hid2 (Dia.right ⟨f, t, c, s.data.toList⟩ = none) := ⟨by rw [HE.out, decide_eq_false hbad]; rfl⟩
    clear hbad HE
    go_enter Tryz.func99, Tryz.ntmps99
    go_wp2_with (first
      | (go_at_call 31; refine (HP.out _ (hT.below (Aid.b3 _ _ _ _))).mono ?_; rintro e w1 ⟨aa, cap, a, b, rfl, hown, hfa, hb1⟩; obtain ⟨rfl, rfl⟩ := Dia.bad_yes hfa HB.out)
      | (go_at_call 7; refine (Tryz.c_Bad_yes _ _).mono ?_; rintro e w2 ⟨rfl, hb2⟩; have k2 := Aid.blk hb2 (Aid.blk_alloc (Aid.blk hb1 (Aid.heap3 _ _ _ _).1)); obtain ⟨_, _, _, _, _, _, _, _⟩ := Aid.four k2))
    exact bodyPost_ret (v := .tuple #[.agg #[.int .i64 0, .int .i32 0, .int .i64 0, .slice none 0 0], .bool false]) (by simp [results, Tryz.results99, go_sem, *]) rfl (by
      refine ⟨0, 0, 0, none, 0, 0, by rw [HNo.out]; rfl, (by rw [HNo.out]; intro r hr; cases hr), ?_⟩
      exact Aid.set4 (Aid.bt ((Aid.b3 _ _ _ _).trans (hb1.mono (by simp; omega))) (Aid.below_new (hb2.mono (by simp)) (Nat.le_refl _))) (by omega))
end Go.Proofs
namespace Go.Proofs
open Go.RowKit

theorem Dia.flat4 : ∀ (X : List Dia.XRow) (k j : Nat) (x : Dia.XRow) (v : Value), X[k]? = some x → x.cells[j]? = some v → (X.flatMap Dia.XRow.cells)[k * 4 + j]? = some v
  | [], k, j, x, v, h, _ => by simp at h
  | y :: X, 0, j, x, v, h, hv => by
    simp only [List.getElem?_cons_zero, Option.some.injEq] at h
    subst h
    have hj : j < y.cells.length := (List.getElem?_eq_some_iff.1 hv).1
    rw [List.flatMap_cons, List.getElem?_append_left (by omega), Nat.zero_mul, Nat.zero_add, hv]
  | y :: X, k + 1, j, x, v, h, hv => by
    rw [List.getElem?_cons_succ] at h
    rw [List.flatMap_cons, List.getElem?_append_right (by rw [y.len]; omega), y.len]
    have e : (k + 1) * 4 + j - 4 = k * 4 + j := by omega
    rw [e]
    exact Dia.flat4 X k j x v h hv
/-- rows that the call has laid -/
def Tryz.Xs (w : World) (B : Nat) (v : Value) (X : List Dia.XRow) : Prop :=
  w.ownsRow B 96 4 v X.length (X.flatMap Dia.XRow.cells) ∧ ∀ x ∈ X, w.ownsRow 0 21 1 (.slice x.al x.row.list.length x.cl) x.row.list.length (x.row.list.map Dia.rv)
theorem Tryz.Xs.below {w w' : World} {B : Nat} {v : Value} {X : List Dia.XRow} (h : Tryz.Xs w B v X) (hb : Below w.heap.size w w') : Tryz.Xs w' B v X :=
  ⟨Aid.ownsRow_below h.1 hb, fun x hx => Aid.ownsRow_below (h.2 x hx) hb⟩
theorem Tryz.Xs.at {w : World} {B : Nat} {v : Value} {X : List Dia.XRow} (h : Tryz.Xs w B v X) : ∃ a cap, v = .slice a X.length cap ∧ X.length ≤ cap ∧ Dia.XsAt w a X := by
  have hx : ∀ x ∈ X, Dia.ListAt w x.al x.row.list := by
    intro x hx
    have h1 := h.2 x hx
    rcases h1.2 with ⟨h2, h0⟩ | ⟨g, cap, cur, h2, _, h5, _⟩
    · exact .inl (List.length_eq_zero_iff.1 h0)
    · have e := (Value.slice.inj h2).1
      refine .inr ⟨g, 0, e, ⟨_, _, h5⟩, fun j u hj => ?_⟩
      have := h1.cells (g := g) (by rw [e]; rfl) j u hj
      have hp : (⟨g, 0, none⟩ : Addr).add j = ⟨g, 0 + j, none⟩ := by unfold Addr.add; split <;> simp_all
      rw [hp] at this
      exact this
  rcases h.1.2 with ⟨rfl, h0⟩ | ⟨g, cap, cur, rfl, h3, h4, h5, _⟩
  · have : X = [] := List.length_eq_zero_iff.1 h0
    subst this
    exact ⟨none, 0, rfl, Nat.le_refl _, .inl rfl⟩
  · refine ⟨some ⟨g, 0, none⟩, cap, rfl, h5, .inr ⟨g, 0, rfl, ⟨_, _, h4⟩, fun k x hk => ⟨fun j u hj => ?_, hx x (List.mem_of_getElem? hk)⟩⟩⟩
    have := h.1.cells (g := g) rfl (k * 4 + j) u (Dia.flat4 X k j x u hk hj)
    have hp : (⟨g, 0, none⟩ : Addr).add (k * 4 + j) = ⟨g, 0 + k * 4 + j, none⟩ := by unfold Addr.add; split <;> simp_all
    rw [hp] at this
    exact this
theorem Dia.XsAt.get {w : World} {a : Option Addr} {X : List Dia.XRow} (h : Dia.XsAt w a X) {k : Nat} (hk : k < X.length) :
    ∃ b off, a = some ⟨b, off, none⟩ ∧ w.cell? ⟨b, off + k * 4, none⟩ = some (.int .i64 X[k].row.from') ∧ w.cell? ⟨b, off + k * 4 + 1, none⟩ = some (.int .i32 X[k].row.to) ∧
      w.cell? ⟨b, off + k * 4 + 2, none⟩ = some (.int .i64 X[k].row.count) ∧ w.cell? ⟨b, off + k * 4 + 3, none⟩ = some (.slice X[k].al X[k].row.list.length X[k].cl) := by
  rcases h with h | ⟨b, off, ha, _, h⟩
  · subst h; simp at hk
  · obtain ⟨h1, _⟩ := h k _ (List.getElem?_eq_getElem hk)
    exact ⟨b, off, ha, h1 0 _ rfl, h1 1 _ rfl, h1 2 _ rfl, h1 3 _ rfl⟩
/-- a row more -/
theorem Tryz.Xs.app {w w' : World} {B : Nat} {v v' : Value} {X : List Dia.XRow} {x : Dia.XRow} (h : Tryz.Xs w B v X) (hx : w.ownsRow 0 21 1 (.slice x.al x.row.list.length x.cl) x.row.list.length (x.row.list.map Dia.rv))
    (hown : w'.ownsRow B 96 4 v' (X.length + 1) (X.flatMap Dia.XRow.cells ++ x.cells)) (hg : w.grownBy w' v.ownBlock) : Tryz.Xs w' B v' (X ++ [x]) := by
  refine ⟨by simpa using hown, ?_⟩
  intro y hy
  have hy' : w.ownsRow 0 21 1 (.slice y.al y.row.list.length y.cl) y.row.list.length (y.row.list.map Dia.rv) := by
    rcases List.mem_append.1 hy with hy | hy
    · exact h.2 y hy
    · rw [List.mem_singleton.1 hy]; exact hx
  exact hy'.kept hg (Aid.own_apart hy' h.1 (by decide))
/-- pieces in memory -/
def Dia.PiecesAt (w : World) (a : Option Addr) (ps : List Dia.Piece) : Prop :=
  ps = [] ∨ ∃ b off, a = some ⟨b, off, none⟩ ∧ ∀ k p, ps[k]? = some p → w.cell? ⟨b, off + k * 4, none⟩ = some (.int .i64 p.from') ∧ w.cell? ⟨b, off + k * 4 + 1, none⟩ = some (.int .i32 p.to) ∧
    w.cell? ⟨b, off + k * 4 + 2, none⟩ = some (.int .i64 p.count) ∧ w.cell? ⟨b, off + k * 4 + 3, none⟩ = some (.string ⟨p.text.toArray⟩)
theorem Dia.PiecesAt.below {w w' : World} {a : Option Addr} {ps : List Dia.Piece} (h : Dia.PiecesAt w a ps) (hb : Below w.heap.size w w') : Dia.PiecesAt w' a ps := by
  rcases h with h | ⟨b, off, ha, h⟩
  · exact .inl h
  · exact .inr ⟨b, off, ha, fun k p hk => by
      obtain ⟨h0, h1, h2, h3⟩ := h k p hk
      exact ⟨Aid.cell_ext hb h0, Aid.cell_ext hb h1, Aid.cell_ext hb h2, Aid.cell_ext hb h3⟩⟩
theorem Dia.PiecesAt.get {w : World} {a : Option Addr} {ps : List Dia.Piece} (h : Dia.PiecesAt w a ps) {k : Nat} (hk : k < ps.length) :
    ∃ b off, a = some ⟨b, off, none⟩ ∧ w.cell? ⟨b, off + k * 4, none⟩ = some (.int .i64 ps[k].from') ∧ w.cell? ⟨b, off + k * 4 + 1, none⟩ = some (.int .i32 ps[k].to) ∧
    w.cell? ⟨b, off + k * 4 + 2, none⟩ = some (.int .i64 ps[k].count) ∧ w.cell? ⟨b, off + k * 4 + 3, none⟩ = some (.string ⟨ps[k].text.toArray⟩) := by
  rcases h with h | ⟨b, off, ha, h⟩
  · subst h; simp at hk
  · exact ⟨b, off, ha, h k _ (List.getElem?_eq_getElem hk)⟩
/-- a piece's numbers are Go's -/
structure Dia.Piece.In (p : Dia.Piece) : Prop where
  f0 : -9223372036854775808 ≤ p.from'
  f1 : p.from' ≤ 9223372036854775807
  t0 : -2147483648 ≤ p.to
  t1 : p.to ≤ 2147483647
  c0 : -9223372036854775808 ≤ p.count
  c1 : p.count ≤ 9223372036854775807
  s : p.text.length ≤ 1000000
theorem Tryz.c_right (p : Dia.Piece) (w : World) (hp : p.In) (hT : Tryz.Tabs w) :
    Calls Tryz.prog 99 #[.agg #[.int .i64 p.from', .int .i32 p.to, .int .i64 p.count, .string ⟨p.text.toArray⟩]] w fun e w' => Tryz.IsRight (Dia.right p) w w' e := by
  obtain ⟨f, t, c, s⟩ := p
  obtain ⟨f0, f1, t0, t1, c0, c1, hs⟩ := hp
  by_cases h : s = []
  · subst h
    exact Tryz.c_right_seq f t c w ⟨f0, f1⟩ ⟨c0, c1⟩ ⟨t0, t1⟩
  · exact Tryz.c_right_list f t c ⟨s.toArray⟩ w ⟨f0, f1⟩ hs h hT
end Go.Proofs
