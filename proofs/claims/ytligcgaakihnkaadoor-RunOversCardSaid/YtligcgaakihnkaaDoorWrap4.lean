/- a slice of pieces that came in: its pieces, and where they lie -/
import Derived.Test.YtligcgaakihnkaaDoorWrap
import Derived.Test.YtligcgaakihnkaaDoorL04
import Derived.Deep.Slices
import Derived.Deep.Fields
namespace Go.Proofs.Aid
open Go.RowKit Go.WideShapes Go.ChangeShapes Go.Deep

theorem list_of {α : Type} : ∀ (n : Nat) (P : Nat → α → Prop), (∀ k, k < n → ∃ x, P k x) → ∃ l : List α, l.length = n ∧ ∀ k x, l[k]? = some x → P k x
  | 0, _, _ => ⟨[], rfl, by simp⟩
  | n + 1, P, h => by
    obtain ⟨x, hx⟩ := h 0 (by omega)
    obtain ⟨l, h1, h2⟩ := list_of n (fun k x => P (k + 1) x) (fun k hk => h (k + 1) (by omega))
    refine ⟨x :: l, by simp [h1], ?_⟩
    intro k y hk
    cases k with
    | zero => simp at hk; subst hk; exact hx
    | succ k => exact h2 k y (by simpa using hk)

theorem open_pieces {H : Type} {enc : TypeId × Value → H} {P : Program} {W : World} {base : Nat} {t e : TypeId} {f0 f1 f2 f3 : Field} {v : Value} {d : DataW H} {ps : List MemPlace}
    (ht : P.underlying t = some (.slice e)) (he : P.underlying e = some (.struct #[f0, f1, f2, f3])) (hone : oneCellFields P #[f0, f1, f2, f3] = true) (hC : P.cellsOf e = 4)
    (h0 : P.underlying f0.type = some (.int .i64)) (h1 : P.underlying f1.type = some (.int .i32)) (h2 : P.underlying f2.type = some (.int .i64)) (h3 : P.underlying f3.type = some .string)
    (hval : Value.okWide P W .any base t v) (h : DataW.Trod enc P W 0 (fun _ => true) true t v d ps) :
    ∃ (a : Option Addr) (l : List Dia.Piece) (cap : Nat), v = .slice a l.length cap ∧ Dia.PiecesAt W a l ∧ (∀ p ∈ l, p.Big) ∧ l.length ≤ 9223372036854775807 := by
  obtain ⟨a0, len, cap, rfl⟩ := okWide_slice ht hval
  obtain ⟨fuel, hf⟩ := h
  rcases open_slice ht hf with ⟨hcs, _⟩ | ⟨a, len', cap', m, n, D, Pl, hcs, _, hl, hm, hmm, _, hi⟩
  · simp [Value.cells] at hcs
    obtain ⟨rfl, rfl, rfl⟩ := hcs
    exact ⟨none, [], 0, rfl, .inl rfl, by simp, by simp⟩
  · simp [Value.cells] at hcs
    obtain ⟨rfl, rfl, rfl⟩ := hcs
    simp only [if_true] at hmm
    have key : ∀ k, k < len → ∃ p : Dia.Piece, p.Big ∧ (W.cell? (a.add (k * 4 + 0)) = some (.int .i64 p.from') ∧ W.cell? (a.add (k * 4 + 1)) = some (.int .i32 p.to) ∧ W.cell? (a.add (k * 4 + 2)) = some (.int .i64 p.count) ∧ W.cell? (a.add (k * 4 + 3)) = some (.string ⟨p.text.toArray⟩)) := by
      intro k hk
      obtain ⟨cs', hc, ht'⟩ := hi k (by omega)
      rw [hC] at hc
      obtain ⟨ys, n', hn', hy, hlen, hyl, hfl⟩ := DataW.trod_struct he ht'
      obtain ⟨_, hcl, hat⟩ := World.cells?_some hc
      have one : ∀ (j : Nat) (f : Field), (#[f0, f1, f2, f3] : Array Field)[j]? = some f → ∃ u y, W.cell? (a.add (k * 4 + j)) = some u ∧ DataW.trod enc P W 0 (fun _ => true) true n' f.type [u] = some y := by
        intro j f hj
        obtain ⟨ho, hk'⟩ := hone_of hone j f hj
        have hjl : j < 4 := (Array.getElem?_eq_some_iff.1 hj).1
        have hcell := hat j hjl
        have h1 := hfl j f hj
        rw [ho, hk'] at h1
        have hone' : (cs'.drop j).take 1 = [cs'[j]'(by omega)] := by
          rw [List.drop_eq_getElem_cons (by omega)]
          rfl
        rw [hone'] at h1
        have hys : ys[j]? = some (ys[j]'(by have : ys.length = 4 := hyl; omega)) := List.getElem?_eq_getElem _
        exact ⟨_, _, by rw [← Go.Deep.add_add, hcell]; exact List.getElem?_eq_getElem (by omega), h1.trans hys⟩
      obtain ⟨u0, y0, c0, t0⟩ := one 0 f0 rfl
      obtain ⟨u1, y1, c1, t1⟩ := one 1 f1 rfl
      obtain ⟨u2, y2, c2, t2⟩ := one 2 f2 rfl
      obtain ⟨u3, y3, c3, t3⟩ := one 3 f3 rfl
      obtain ⟨n0, e0, _, w0⟩ := DataW.trod_int h0 t0
      obtain ⟨n1, e1, _, w1⟩ := DataW.trod_int h1 t1
      obtain ⟨n2, e2, _, w2⟩ := DataW.trod_int h2 t2
      obtain ⟨s, e3, _, w3⟩ := DataW.trod_string h3 t3
      cases e0; cases e1; cases e2; cases e3
      have b0 := bounds_i64 w0
      have b1 := bounds_i32 w1
      have b2 := bounds_i64 w2
      unfold maxLen at w3
      exact ⟨⟨n0, n1, n2, s.data.toList⟩, ⟨b0.1, b0.2, b1.1, b1.2, b2.1, b2.2, w3⟩, c0, c1, c2, c3⟩
    obtain ⟨l, hll, hl2⟩ := list_of len _ key
    refine ⟨some a, l, cap, by rw [hll], ?_, ?_, ?_⟩
    · by_cases hz : l = []
      · exact .inl hz
      · have h00 : 0 < l.length := by cases l with | nil => exact absurd rfl hz | cons => simp
        have hsp := World.cell?_spot (hl2 0 _ (List.getElem?_eq_getElem h00)).2.1
        obtain ⟨b, off, spot⟩ := a
        have hs0 : spot = none := by simpa [Addr.add] using hsp
        subst hs0
        have hp : ∀ j, (⟨b, off, none⟩ : Addr).add j = ⟨b, off + j, none⟩ := by intro j; unfold Addr.add; split <;> simp_all
        refine .inr ⟨b, off, rfl, fun k p hk => ?_⟩
        have := (hl2 k p hk).2
        rw [hp, hp, hp, hp] at this
        exact this
    · intro p hp
      obtain ⟨k, hk⟩ := List.getElem?_of_mem hp
      exact (hl2 k p hk).1
    · rw [hll]; unfold maxLen at hm; omega
end Go.Proofs.Aid
