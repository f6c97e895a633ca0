/- walks of run: Seq, List, has, at, codes -/
import Derived.Test.YtfdkolodpealmaaDoorW7
import Derived.Test.YtfdkolodpealmaaDoorTab2
import Derived.Lib.IndexBytes
namespace Go.Proofs
open Go.RowKit

/-- a row's four cells; the place of its signs: 'al', 'cl' -/
def Dia.Row.cells (r : Dia.Row) (al : Option Addr) (cl : Nat) : Array Value := #[.int .i64 r.from', .int .i32 r.to, .int .i64 r.count, .slice al r.list.length cl]
set_option maxRecDepth 100000 in
theorem Tryd.c_has (f t c code : Int) (v : Value) (w : World) (hf : 0 ≤ f ∧ f ≤ 1048576) (hc : 0 ≤ c ∧ c ≤ 1048576) (hcode : -9223372036854775808 ≤ code ∧ code ≤ 9223372036854775807) :
    Calls Tryd.prog 47 #[.agg #[.int .i64 f, .int .i32 t, .int .i64 c, v], .int .i64 code] w fun e w' => e = .returned (.bool (decide (f ≤ code) && decide (code - f < c))) ∧ Below w.heap.size w w' := by
  obtain ⟨hf0, hf1⟩ := hf
  obtain ⟨hc0, hc1⟩ := hc
  obtain ⟨hd0, hd1⟩ := hcode
  by_cases h : f ≤ code
  · have hd : decide (f ≤ code) = true := decide_eq_true h
    go_enter Tryd.func47, Tryd.ntmps47
    go_wp2
    go_ret
    exact ⟨by rw [hd]; rfl, (Below.refl _ _).alloc (Nat.le_refl _) _⟩
  · have hd : decide (f ≤ code) = false := decide_eq_false h
    go_enter Tryd.func47, Tryd.ntmps47
    go_wp2
    go_ret
    exact ⟨rfl, (Below.refl _ _).alloc (Nat.le_refl _) _⟩

set_option maxRecDepth 100000 in
set_option maxHeartbeats 400000 in
theorem Tryd.c_at (r : Dia.Row) (al : Option Addr) (cl : Nat) (code : Int) (w : World) (hf : 0 ≤ r.from' ∧ r.from' ≤ 1048576) (ht : r.list = [] → 0 ≤ r.to ∧ r.to + (r.count - 1) ≤ 1114111) (hc : r.count ≤ 1048576) (hlc : r.list ≠ [] → (r.list.length : Int) = r.count)
    (hcode : r.from' ≤ code ∧ code - r.from' < r.count) (hrow : Aid.RowAt w al (r.list.map Dia.rv)) :
    Calls Tryd.prog 43 #[.agg (r.cells al cl), .int .i64 code] w fun e w' => e = .returned (.int .i32 (r.at code)) ∧ Below w.heap.size w w' := by
  obtain ⟨f, t, c, L⟩ := r
  simp only [Dia.Row.cells, Dia.Row.at] at *
  obtain ⟨hf0, hf1⟩ := hf
  obtain ⟨hd0, hd1⟩ := hcode
  by_cases hL : L = []
  · subst hL
    obtain ⟨ht0, ht1⟩ := ht rfl
    rw [if_pos rfl]
    clear hlc hrow ht
    go_enter Tryd.func43, Tryd.ntmps43
    go_wp2
    go_ret
    exact ⟨rfl, (Below.refl _ _).alloc (Nat.le_refl _) _⟩
  · rw [if_neg hL]
    have hlen := hlc hL
    obtain ⟨k, hk⟩ := Int.eq_ofNat_of_zero_le (show 0 ≤ code - f by omega)
    have hkl : k < L.length := by omega
    obtain rfl : code = f + k := by omega
    have hkb : k ≤ 1048576 := by omega
    obtain ⟨b, off, rfl, hcell⟩ := hrow.get (k := k) (by simpa using hkl)
    simp only [List.getElem_map, Dia.rv] at hcell
    have hg : L.getD (f + k - f).toNat 0 = L[k] := by
      rw [hk]
      simp [List.getD_eq_getElem?_getD, hkl]
    rw [hg]
    generalize L[k] = q at *
    have hpos : (0 : Int) < (L.length : Int) := by omega
    have hcell2 : (w.alloc (.cells #[.int .i64 f, .int .i32 t, .int .i64 c, .slice (some ⟨b, off, none⟩) L.length cl] 88)).cell? ⟨b, off + k, none⟩ = some (.int .i32 q) := Aid.cell_ext ((Below.refl _ _).alloc (Nat.le_refl _) _) hcell
    clear hlc hg hrow hL hlen hd0 hd1 ht
    go_enter Tryd.func43, Tryd.ntmps43
    go_wp2
    go_ret
    exact ⟨rfl, (Below.refl _ _).alloc (Nat.le_refl _) _⟩
end Go.Proofs
