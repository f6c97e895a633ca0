/- walks of run: Seq, List, has, at, codes; walks of run: codes -/
import Derived.Test.YtoaojojapebamaaGreatDoorM06
import Derived.Test.YtoaojojapebamaaGreatDoorM07
import Derived.Lib.IndexBytes
namespace Go.Proofs
open Go.RowKit

/-- a row's four cells; the place of its signs: 'al', 'cl' -/
def Dia.Row.cells (r : Dia.Row) (al : Option Addr) (cl : Nat) : Array Value := #[.int .i64 r.from', .int .i32 r.to, .int .i64 r.count, .slice al r.list.length cl]
set_option maxRecDepth 100000 in
theorem Tryz.c_has (f t c code : Int) (v : Value) (w : World) (hf : 0 ≤ f ∧ f ≤ 1048576) (hc : 0 ≤ c ∧ c ≤ 1048576) (hcode : -9223372036854775808 ≤ code ∧ code ≤ 9223372036854775807) :
    Calls Tryz.prog 90 #[.agg #[.int .i64 f, .int .i32 t, .int .i64 c, v], .int .i64 code] w fun e w' => e = .returned (.bool (decide (f ≤ code) && decide (code - f < c))) ∧ Below w.heap.size w w' := by
  obtain ⟨hf0, hf1⟩ := hf
  obtain ⟨hc0, hc1⟩ := hc
  obtain ⟨hd0, hd1⟩ := hcode
  by_cases h : f ≤ code
  · have hd : decide (f ≤ code) = true := decide_eq_true h
    go_enter Tryz.func90, Tryz.ntmps90
    go_wp2
    go_ret
    exact ⟨by rw [hd]; rfl, (Below.refl _ _).alloc (Nat.le_refl _) _⟩
  · have hd : decide (f ≤ code) = false := decide_eq_false h
    go_enter Tryz.func90, Tryz.ntmps90
    go_wp2
    go_ret
    exact ⟨rfl, (Below.refl _ _).alloc (Nat.le_refl _) _⟩

set_option maxRecDepth 100000 in
set_option maxHeartbeats 400000 in
theorem Tryz.c_at (r : Dia.Row) (al : Option Addr) (cl : Nat) (code : Int) (w : World) (hf : 0 ≤ r.from' ∧ r.from' ≤ 1048576) (ht : r.list = [] → 0 ≤ r.to ∧ r.to + (r.count - 1) ≤ 1114111) (hc : r.count ≤ 1048576) (hlc : r.list ≠ [] → (r.list.length : Int) = r.count)
    (hcode : r.from' ≤ code ∧ code - r.from' < r.count) (hrow : Aid.RowAt w al (r.list.map Dia.rv)) :
    Calls Tryz.prog 64 #[.agg (r.cells al cl), .int .i64 code] w fun e w' => e = .returned (.int .i32 (r.at code)) ∧ Below w.heap.size w w' := by
  obtain ⟨f, t, c, L⟩ := r
  simp only [Dia.Row.cells, Dia.Row.at] at *
  obtain ⟨hf0, hf1⟩ := hf
  obtain ⟨hd0, hd1⟩ := hcode
  by_cases hL : L = []
  · subst hL
    obtain ⟨ht0, ht1⟩ := ht rfl
    rw [if_pos rfl]
    clear hlc hrow ht
    go_enter Tryz.func64, Tryz.ntmps64
    go_wp2
    go_ret
    exact ⟨rfl, (Below.refl _ _).alloc (Nat.le_refl _) _⟩
  · rw [if_neg hL]
    have hlen := hlc hL
    obtain ⟨k, hk⟩ := Int.eq_ofNat_of_zero_le (show 0 ≤ code - f by omega)
    have hkl : k < L.length := by omega
    obtain rfl : code = f + k := by omega
    have hkb : k ≤ 1048576 := by omega
    obtain ⟨b, off, rfl, hcell⟩ := hrow.get (k := k) (by simpa using hkl)
    simp only [List.getElem_map, Dia.rv] at hcell
    have hg : L.getD (f + k - f).toNat 0 = L[k] := by
      rw [hk]
      simp [List.getD_eq_getElem?_getD, hkl]
    rw [hg]
    generalize L[k] = q at *
    have hpos : (0 : Int) < (L.length : Int) := by omega
    have hcell2 : (w.alloc (.cells #[.int .i64 f, .int .i32 t, .int .i64 c, .slice (some ⟨b, off, none⟩) L.length cl] 96)).cell? ⟨b, off + k, none⟩ = some (.int .i32 q) := Aid.cell_ext ((Below.refl _ _).alloc (Nat.le_refl _) _) hcell
    clear hlc hg hrow hL hlen hd0 hd1 ht
    go_enter Tryz.func64, Tryz.ntmps64
    go_wp2
    go_ret
    exact ⟨rfl, (Below.refl _ _).alloc (Nat.le_refl _) _⟩
end Go.Proofs
namespace Go.Proofs
open Go.RowKit

/-- a block of cells that the call has laid, and what is left of it below a 'Below' -/
theorem Aid.cellsN {w w1 : World} {C : Array Value} {T : TypeId} (hb : Below (w.heap.size + 1) (w.alloc (.cells C T)) w1) (j : Nat) (v : Value) (hv : C[j]? = some v) :
    w1.cell? ⟨w.heap.size, j, none⟩ = some v := by
  have hk : w1.heap[w.heap.size]? = some (.cells C T (0, 0)) := by
    rw [hb.block w.heap.size (by omega)]
    exact heap_alloc_new w _
  simp [World.cell?, hk, hv]
theorem Tryz.info_i64' : (Tryz.prog.info? 3).map (fun i => (i.zero, i.size, i.bytes)) = some (some (.int .i64 0), 1, 8) := by kernel_rfl
def Dia.nv' (x : Int) : Value := .int .i64 x
theorem Dia.codesL_snoc (p : Int) : ∀ (l : List Int) (f x : Int), Dia.codesL f (l ++ [x]) p = Dia.codesL f l p ++ (if x = p then [f + l.length] else [])
  | [], f, x => by simp [Dia.codesL]
  | y :: l, f, x => by
    have ih := Dia.codesL_snoc p l (f + 1) x
    simp only [List.cons_append, Dia.codesL, ih, List.length_cons]
    have e : f + 1 + (l.length : Int) = f + ((l.length + 1 : Nat) : Int) := by omega
    rw [e]
    split <;> simp
theorem Dia.codesL_len (p : Int) : ∀ (l : List Int) (f : Int), (Dia.codesL f l p).length ≤ l.length
  | [], f => by simp [Dia.codesL]
  | y :: l, f => by
    have := Dia.codesL_len p l (f + 1)
    simp only [Dia.codesL]
    split <;> simp <;> omega
/-- a row of ints is handed back -/
def Dia.IsInts (l : List Int) (w w' : World) (e : Ending) : Prop :=
  ∃ (aa : Option Addr) (cap : Nat), e = .returned (.slice aa l.length cap) ∧ Aid.RowAt w' aa (l.map Dia.nv') ∧ Below w.heap.size w w'
set_option maxRecDepth 100000 in
set_option maxHeartbeats 800000 in
theorem Tryz.c_codes (r : Dia.Row) (al : Option Addr) (cl : Nat) (p : Int) (w : World) (hf : 0 ≤ r.from' ∧ r.from' ≤ 1048576) (ht : r.list = [] → 0 ≤ r.to ∧ r.to + (r.count - 1) ≤ 1114111) (hc : 1 ≤ r.count ∧ r.count ≤ 1048576) (hl : r.list.length ≤ 1048576)
    (hrow : Aid.RowAt w al (r.list.map Dia.rv)) :
    Calls Tryz.prog 87 #[.agg (r.cells al cl), .int .i32 p] w fun e w' => Dia.IsInts (r.codes p) w w' e := by
  obtain ⟨f, t, c, L⟩ := r
  simp only [Dia.Row.cells, Dia.Row.codes] at *
  obtain ⟨hf0, hf1⟩ := hf
  obtain ⟨hc0, hc1⟩ := hc
  by_cases hL : L = []
  · subst hL
    obtain ⟨ht0, ht1⟩ := ht rfl
    rw [if_pos rfl]
    clear hrow hl ht
    by_cases ho : p < t ∨ t + (c - 1) < p
    · rw [if_pos ho]
      go_enter Tryz.func87, Tryz.ntmps87
      go_wp2
      all_goals first
        | (exfalso; omega)
        | (go_ret
           exact ⟨none, 0, rfl, .inl rfl, (Below.refl _ _).alloc (Nat.le_refl _) _⟩)
    · rw [if_neg ho]
      have ho1 : t ≤ p := by omega
      have ho2 : p ≤ t + (c - 1) := by omega
      clear ho
      go_enter Tryz.func87, Tryz.ntmps87
      go_wp2
      go_ret
      exact ⟨some ⟨w.heap.size + 1, 0, none⟩, 1, rfl, by
        have := Aid.row_new (w.alloc (.cells #[.int .i64 f, .int .i32 t, .int .i64 c, .slice al 0 cl] 96)) #[.int .i64 (f + (p - t))] 3 [.int .i64 (f + (p - t))] rfl
        simpa [Dia.nv'] using this, ((Below.refl _ _).alloc (Nat.le_refl _) _).alloc (by simp) _⟩
  · rw [if_neg hL]
    have hpos : ((L.length : Int) == 0) = false := by
      have : L.length ≠ 0 := by simpa using hL
      simp; omega
    clear hL ht
    obtain ⟨i0, hi, hz0, hz1, hz2⟩ := info_parts Tryz.info_i64'
    go_enter Tryz.func87, Tryz.ntmps87
    go_wp2
    go_loopw [5, 6, 7, 39] (fun v _ _ i wr => ∃ k : Nat, k ≤ L.length ∧ i = .int .i64 k ∧
        wr.ownsRow (w.heap.size + 1) 3 1 v (Dia.codesL f (L.take k) p).length ((Dia.codesL f (L.take k) p).map Dia.nv') ∧
        Below (w.heap.size + 1) (w.alloc (.cells #[.int .i64 f, .int .i32 t, .int .i64 c, .slice al L.length cl] 96)) wr)
      (fun _ _ _ i _ => L.length - (intOf i).toNat)
    case atStart => exact ⟨0, Nat.zero_le _, rfl, World.ownsRow_nil _ _ _ _, Below.refl _ _⟩
    case round =>
      obtain ⟨k, hk, rfl, hown, hb⟩ := hrel
      have hbw : Below w.heap.size w wr := Aid.below_new hb (Nat.le_refl _)
      have hBr := Aid.new_lt hb
      have hcl := Dia.codesL_len p (L.take k) f
      have htk : (L.take k).length = min k L.length := by simp
      have c0 := Aid.cellsN hb 0 _ rfl
      by_cases hlt : k < L.length
      · have hs := Dia.codesL_snoc p (L.take k) f L[k]
        rw [← Dia.take_snoc L k hlt, htk, Nat.min_eq_left (by omega)] at hs
        have HS := Aid.Hid2.mk hs
        clear hs
        obtain ⟨b, off, rfl, hcell⟩ := (hrow.below hbw).get (k := k) (by simpa using hlt)
        simp only [List.getElem_map, Dia.rv] at hcell
        generalize L[k] = q at *
        by_cases hq : q = p
        · have hqq : (q == p) = true := by simpa using hq
          have HS2 : Aid.Hid2 (Dia.codesL f (L.take (k + 1)) p = Dia.codesL f (L.take k) p ++ [f + k]) := ⟨by rw [HS.out, if_pos hq]⟩
          clear hq
          go_wp2_with (at_builtin; refine Aid.wpList_app1 (w0 := w.alloc (.cells #[.int .i64 f, .int .i32 t, .int .i64 c, .slice (some ⟨b, off, none⟩) L.length cl] 96)) _ rfl _ _ 117 3 1 8 rfl Tryz.underlying117 i0 _ hi hz0 hz1 hz2 rfl (by decide) (w.heap.size + 1) _ _ _ #[.int .i64 (f + k)] _ rfl _ rfl hown hb hBr rfl rfl ?_ ?_ ?_ ?_)
          · simp [Value.oneCell']
          · omega
          · omega
          · intro v' w2 hown2 hb2 hsz2 _
            go_wp2
            go_roundw
            case rel => exact ⟨k + 1, by omega, by go_num, by rw [HS2.out]; simpa [Dia.nv'] using hown2, hb2⟩
            case measure => simp [intOf]; omega
        · have hqq : (q == p) = false := by simpa using hq
          have HS2 : Aid.Hid2 (Dia.codesL f (L.take (k + 1)) p = Dia.codesL f (L.take k) p) := ⟨by rw [HS.out, if_neg hq, List.append_nil]⟩
          clear hq
          go_wp2
          go_roundw
          case rel => exact ⟨k + 1, by omega, by go_num, by rw [HS2.out]; exact hown, hb⟩
          case measure => simp [intOf]; omega
      · have e : L.take k = L := List.take_of_length_le (by omega)
        rw [e] at hown
        obtain ⟨aa, cap, hv, hr⟩ := Aid.own_row hown
        rw [List.length_map] at hv
        subst hv
        go_wp2
        go_ret
        exact ⟨aa, cap, rfl, hr, hbw⟩
end Go.Proofs
