/- rows of the call's own -/
import Derived.Test.YtfdkolodpealmaaDoorN5
namespace Go.Proofs
open Go.RowKit

theorem Dia.flat4 : ∀ (X : List Dia.XRow) (k j : Nat) (x : Dia.XRow) (v : Value), X[k]? = some x → x.cells[j]? = some v → (X.flatMap Dia.XRow.cells)[k * 4 + j]? = some v
  | [], k, j, x, v, h, _ => by simp at h
  | y :: X, 0, j, x, v, h, hv => by
    simp only [List.getElem?_cons_zero, Option.some.injEq] at h
    subst h
    have hj : j < y.cells.length := (List.getElem?_eq_some_iff.1 hv).1
    rw [List.flatMap_cons, List.getElem?_append_left (by omega), Nat.zero_mul, Nat.zero_add, hv]
  | y :: X, k + 1, j, x, v, h, hv => by
    rw [List.getElem?_cons_succ] at h
    rw [List.flatMap_cons, List.getElem?_append_right (by rw [y.len]; omega), y.len]
    have e : (k + 1) * 4 + j - 4 = k * 4 + j := by omega
    rw [e]
    exact Dia.flat4 X k j x v h hv
/-- rows that the call has laid -/
def Tryd.Xs (w : World) (B : Nat) (v : Value) (X : List Dia.XRow) : Prop :=
  w.ownsRow B 88 4 v X.length (X.flatMap Dia.XRow.cells) ∧ ∀ x ∈ X, w.ownsRow 0 21 1 (.slice x.al x.row.list.length x.cl) x.row.list.length (x.row.list.map Dia.rv)
theorem Tryd.Xs.below {w w' : World} {B : Nat} {v : Value} {X : List Dia.XRow} (h : Tryd.Xs w B v X) (hb : Below w.heap.size w w') : Tryd.Xs w' B v X :=
  ⟨Aid.ownsRow_below h.1 hb, fun x hx => Aid.ownsRow_below (h.2 x hx) hb⟩
theorem Tryd.Xs.at {w : World} {B : Nat} {v : Value} {X : List Dia.XRow} (h : Tryd.Xs w B v X) : ∃ a cap, v = .slice a X.length cap ∧ X.length ≤ cap ∧ Dia.XsAt w a X := by
  have hx : ∀ x ∈ X, Dia.ListAt w x.al x.row.list := by
    intro x hx
    have h1 := h.2 x hx
    rcases h1.2 with ⟨h2, h0⟩ | ⟨g, cap, cur, h2, _, h5, _⟩
    · exact .inl (List.length_eq_zero_iff.1 h0)
    · have e := (Value.slice.inj h2).1
      refine .inr ⟨g, 0, e, ⟨_, _, h5⟩, fun j u hj => ?_⟩
      have := h1.cells (g := g) (by rw [e]; rfl) j u hj
      have hp : (⟨g, 0, none⟩ : Addr).add j = ⟨g, 0 + j, none⟩ := by unfold Addr.add; split <;> simp_all
      rw [hp] at this
      exact this
  rcases h.1.2 with ⟨rfl, h0⟩ | ⟨g, cap, cur, rfl, h3, h4, h5, _⟩
  · have : X = [] := List.length_eq_zero_iff.1 h0
    subst this
    exact ⟨none, 0, rfl, Nat.le_refl _, .inl rfl⟩
  · refine ⟨some ⟨g, 0, none⟩, cap, rfl, h5, .inr ⟨g, 0, rfl, ⟨_, _, h4⟩, fun k x hk => ⟨fun j u hj => ?_, hx x (List.mem_of_getElem? hk)⟩⟩⟩
    have := h.1.cells (g := g) rfl (k * 4 + j) u (Dia.flat4 X k j x u hk hj)
    have hp : (⟨g, 0, none⟩ : Addr).add (k * 4 + j) = ⟨g, 0 + k * 4 + j, none⟩ := by unfold Addr.add; split <;> simp_all
    rw [hp] at this
    exact this
theorem Dia.XsAt.get {w : World} {a : Option Addr} {X : List Dia.XRow} (h : Dia.XsAt w a X) {k : Nat} (hk : k < X.length) :
    ∃ b off, a = some ⟨b, off, none⟩ ∧ w.cell? ⟨b, off + k * 4, none⟩ = some (.int .i64 X[k].row.from') ∧ w.cell? ⟨b, off + k * 4 + 1, none⟩ = some (.int .i32 X[k].row.to) ∧
      w.cell? ⟨b, off + k * 4 + 2, none⟩ = some (.int .i64 X[k].row.count) ∧ w.cell? ⟨b, off + k * 4 + 3, none⟩ = some (.slice X[k].al X[k].row.list.length X[k].cl) := by
  rcases h with h | ⟨b, off, ha, _, h⟩
  · subst h; simp at hk
  · obtain ⟨h1, _⟩ := h k _ (List.getElem?_eq_getElem hk)
    exact ⟨b, off, ha, h1 0 _ rfl, h1 1 _ rfl, h1 2 _ rfl, h1 3 _ rfl⟩
/-- a row more -/
theorem Tryd.Xs.app {w w' : World} {B : Nat} {v v' : Value} {X : List Dia.XRow} {x : Dia.XRow} (h : Tryd.Xs w B v X) (hx : w.ownsRow 0 21 1 (.slice x.al x.row.list.length x.cl) x.row.list.length (x.row.list.map Dia.rv))
    (hown : w'.ownsRow B 88 4 v' (X.length + 1) (X.flatMap Dia.XRow.cells ++ x.cells)) (hg : w.grownBy w' v.ownBlock) : Tryd.Xs w' B v' (X ++ [x]) := by
  refine ⟨by simpa using hown, ?_⟩
  intro y hy
  have hy' : w.ownsRow 0 21 1 (.slice y.al y.row.list.length y.cl) y.row.list.length (y.row.list.map Dia.rv) := by
    rcases List.mem_append.1 hy with hy | hy
    · exact h.2 y hy
    · rw [List.mem_singleton.1 hy]; exact hx
  exact hy'.kept hg (Aid.own_apart hy' h.1 (by decide))
/-- pieces in memory -/
def Dia.PiecesAt (w : World) (a : Option Addr) (ps : List Dia.Piece) : Prop :=
  ps = [] ∨ ∃ b off, a = some ⟨b, off, none⟩ ∧ ∀ k p, ps[k]? = some p → w.cell? ⟨b, off + k * 4, none⟩ = some (.int .i64 p.from') ∧ w.cell? ⟨b, off + k * 4 + 1, none⟩ = some (.int .i32 p.to) ∧
    w.cell? ⟨b, off + k * 4 + 2, none⟩ = some (.int .i64 p.count) ∧ w.cell? ⟨b, off + k * 4 + 3, none⟩ = some (.string ⟨p.text.toArray⟩)
theorem Dia.PiecesAt.below {w w' : World} {a : Option Addr} {ps : List Dia.Piece} (h : Dia.PiecesAt w a ps) (hb : Below w.heap.size w w') : Dia.PiecesAt w' a ps := by
  rcases h with h | ⟨b, off, ha, h⟩
  · exact .inl h
  · exact .inr ⟨b, off, ha, fun k p hk => by
      obtain ⟨h0, h1, h2, h3⟩ := h k p hk
      exact ⟨Aid.cell_ext hb h0, Aid.cell_ext hb h1, Aid.cell_ext hb h2, Aid.cell_ext hb h3⟩⟩
theorem Dia.PiecesAt.get {w : World} {a : Option Addr} {ps : List Dia.Piece} (h : Dia.PiecesAt w a ps) {k : Nat} (hk : k < ps.length) :
    ∃ b off, a = some ⟨b, off, none⟩ ∧ w.cell? ⟨b, off + k * 4, none⟩ = some (.int .i64 ps[k].from') ∧ w.cell? ⟨b, off + k * 4 + 1, none⟩ = some (.int .i32 ps[k].to) ∧
    w.cell? ⟨b, off + k * 4 + 2, none⟩ = some (.int .i64 ps[k].count) ∧ w.cell? ⟨b, off + k * 4 + 3, none⟩ = some (.string ⟨ps[k].text.toArray⟩) := by
  rcases h with h | ⟨b, off, ha, h⟩
  · subst h; simp at hk
  · exact ⟨b, off, ha, h k _ (List.getElem?_eq_getElem hk)⟩
/-- a piece's numbers are Go's -/
structure Dia.Piece.In (p : Dia.Piece) : Prop where
  f0 : -9223372036854775808 ≤ p.from'
  f1 : p.from' ≤ 9223372036854775807
  t0 : -2147483648 ≤ p.to
  t1 : p.to ≤ 2147483647
  c0 : -9223372036854775808 ≤ p.count
  c1 : p.count ≤ 9223372036854775807
  s : p.text.length ≤ 1000000
theorem Tryd.c_right (p : Dia.Piece) (w : World) (hp : p.In) (hT : Tryd.Tabs w) :
    Calls Tryd.prog 55 #[.agg #[.int .i64 p.from', .int .i32 p.to, .int .i64 p.count, .string ⟨p.text.toArray⟩]] w fun e w' => Tryd.IsRight (Dia.right p) w w' e := by
  obtain ⟨f, t, c, s⟩ := p
  obtain ⟨f0, f1, t0, t1, c0, c1, hs⟩ := hp
  by_cases h : s = []
  · subst h
    exact Tryd.c_right_seq f t c w ⟨f0, f1⟩ ⟨c0, c1⟩ ⟨t0, t1⟩
  · exact Tryd.c_right_list f t c ⟨s.toArray⟩ w ⟨f0, f1⟩ hs h hT
end Go.Proofs
