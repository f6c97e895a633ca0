/- THE LAST STEP OF EVERY LAW, once: the call answered true, nothing that existed has changed: the row's post.; what the laws through the charsets need: the tables of unicode/utf8 and of math/bits and the charsets' names as the rows list them; the witness's world. -/
import Derived.Test.YtoaojojapebamaaGreatDoorM00
import Derived.ProofKit
import Derived.Carry
import Derived.OpenShut
import Derived.ChangeSame
import Derived.RowKit
import Derived.Shelf.Unicode.DecodeSlow
import Derived.Lib.LaidU8
import Derived.PinnedBridge
import Derived.Test.YtoaojojapebamaaGreatDoorCards
import Derived.Test.YtoaojojapebamaaGreatDoorTie
import Derived.Test.YtoaojojapebamaaGreatDoorShelf
import Derived.Test.YtoaojojapebamaaGreatDoorM03
import Derived.Deep.DeepHandedRow
import Derived.Lib.LaidTab
import Derived.LaidMore
import Derived.Lay
import Derived.MakeChecks
import Derived.Test.YtoaojojapebamaaGreatDoorM18
import Derived.Test.YtoaojojapebamaaGreatDoorM46
namespace Go.Proofs.Aid
open Go.RowKit Go.WideShapes Go.ChangeShapes Go.WideElems

theorem trodAll_stays {H : Type} {enc : TypeId × Value → H} {P : Program} (hl : laidOutB P = true) {W W' : World} (hb : Below W.heap.size W W') (sp : Nat → Bool) :
    ∀ {ts : List TypeId} {vs : List Value} {ds : List (DataW H)} {p : List MemPlace}, (∀ t ∈ ts, P.readableRec t = true ∧ t < P.types.size) → (∀ x ∈ p, x.block < W.heap.size ∧ sp x.block = true) →
      DataW.TrodAll enc P W 0 (fun _ => true) true ts vs ds p → DataW.TrodAll enc P W' 0 sp true ts vs ds p
  | [], _, _, _, _, _, h => by
    obtain ⟨rfl, rfl, rfl⟩ := trodAll_nil h
    exact trodAll_mk0
  | t :: ts, _, _, _, hr, hp, h => by
    obtain ⟨v, vs1, d, ds1, a, b, rfl, rfl, rfl, h1, h2⟩ := trodAll_cons h
    refine trodAll_cons_mk (WideElems.Trod_stays hl (hr t (by simp)).1 (hr t (by simp)).2 h1 (fun x hx => hb.same (hp x (by simp [hx])).1) (fun x hx => (hp x (by simp [hx])).2)) ?_
    exact trodAll_stays hl hb sp (fun u hu => hr u (by simp [hu])) (fun x hx => hp x (by simp [hx])) h2

/-- THE POST OF A LAW: it answered true; each argument reads as it did. -/
theorem law_post {H : Type} {enc : TypeId × Value → H} {P : Program} {f : Func} {s : ChangeSpec} {fresh handsOn : Bool} {W W' : World} {args : Array Value} {ds gs : List (DataW H)} {before : List MemPlace} {tb : TypeId}
    (hl : laidOutB P = true) (hrd : (f.params.toList.all fun t => P.readableRec t && decide (t < P.types.size)) = true) (hrt : f.resultTypes = #[tb]) (hbt : P.underlying tb = some .bool) (hv : s.vars = [])
    (hW : DataW.Whole enc P f.params.toList s.vars false W args.toList ds gs before) (hfn : s.fn H (ds ++ gs) = { results := [.lit (.bool true)], args := ds }) (hb : Below W.heap.size W W') :
    s.post enc P f false fresh handsOn false W args (.bool true) W' := by
  have hW0 := hW
  obtain ⟨p, q, hA, hV, hpq, hz, hn⟩ := hW
  rw [hv] at hV
  obtain ⟨rfl, rfl⟩ := trodVars_none hV
  rw [List.append_nil] at hpq
  subst hpq
  have hlt : ∀ x ∈ before, x.block < W.heap.size := fun x hx => hW0.lt x hx
  have hr' : ∀ t ∈ f.params.toList, P.readableRec t = true ∧ t < P.types.size := fun t ht => by
    have := List.all_eq_true.1 hrd t ht
    simpa using this
  have hargs : ∀ sp : Nat → Bool, (∀ x ∈ before, sp x.block = true) → DataW.TrodAll enc P W' 0 sp true f.params.toList args.toList ds before :=
    fun sp hsp => trodAll_stays hl hb sp hr' (fun x hx => ⟨hlt x hx, hsp x hx⟩) hA
  have hres : ∀ (b : Nat) (sp : Nat → Bool) (hd : Bool), DataW.TrodAll enc P W' b sp hd f.resultTypes.toList ((Value.bool true).resultList f.resultTypes.size) (s.fn H (ds ++ [])).results [] := by
    intro b sp hd
    rw [hfn, hrt]
    exact trodAll_cons_mk (shut_bool hbt true) trodAll_mk0
  have hold : ∀ x ∈ before, (fun b => decide (b < W.heap.size)) x.block = true := fun x hx => by simpa using hlt x hx
  refine ⟨ds, [], before, [], before, [], hW0, hres _ _ _, by rw [hfn]; exact hargs _ hold, by rw [hv, hfn]; exact rfl, World.keptBut_mono (fun x hx => ⟨hx, .inr (.inl hx)⟩) (hb.frame (· ∈ before)), fun h => by cases h⟩

/-- A SLICE OF int32 THAT CAME IN, nil or not: its values, and where they lie. -/
theorem open_i32s {H : Type} {enc : TypeId × Value → H} {P : Program} {W : World} {base : Nat} {t e : TypeId} {v : Value} {d : DataW H} {ps : List MemPlace}
    (ht : P.underlying t = some (.slice e)) (he : P.underlying e = some (.int .i32)) (hc : P.cellsOf e = 1)
    (hval : Value.okWide P W .any base t v) (h : DataW.Trod enc P W 0 (fun _ => true) true t v d ps) :
    ∃ (a : Option Addr) (l : List Int) (cap : Nat), v = .slice a l.length cap ∧ RowAt W a (l.map (Value.int .i32)) ∧ (∀ p ∈ l, -2147483648 ≤ p ∧ p ≤ 2147483647) ∧ l.length ≤ maxLen := by
  obtain ⟨a0, len, cap, rfl⟩ := okWide_slice ht hval
  obtain ⟨fuel, hf⟩ := h
  rcases open_ints ht he hc hf with ⟨hcs, hx⟩ | ⟨a, len', cap', zs, hcs, _, hl, hm, hz, hx, hcell, hwz⟩
  · simp [Value.cells] at hcs
    obtain ⟨rfl, rfl, rfl⟩ := hcs
    exact ⟨none, [], 0, rfl, .inl rfl, by simp, by simp [maxLen]⟩
  · simp [Value.cells] at hcs
    obtain ⟨rfl, rfl, rfl⟩ := hcs
    simp only [if_true] at hz
    have hlen : (zs.take len).length = len := by rw [List.length_take]; omega
    refine ⟨some a, zs.take len, cap, by rw [hlen], ?_, ?_, by rw [hlen]; omega⟩
    · by_cases h0 : len = 0
      · subst h0; exact .inl (by simp)
      · have h1 := hcell 0 (by omega)
        have hsp := World.cell?_spot h1
        obtain ⟨b, off, spot⟩ := a
        have hs0 : spot = none := by simpa [Addr.add] using hsp
        subst hs0
        refine .inr ⟨b, off, rfl, fun j u hj => ?_⟩
        have hj' : j < len := by
          have := (List.getElem?_eq_some_iff.1 hj).1
          rw [List.length_map, hlen] at this; exact this
        have h2 := hcell j (by omega)
        have hp : (⟨b, off, none⟩ : Addr).add j = ⟨b, off + j, none⟩ := by unfold Addr.add; split <;> simp_all
        rw [hp] at h2
        rw [h2, ← hj, List.getElem?_map, List.getElem?_take, if_pos hj', List.getD_eq_getElem?_getD]
        rw [List.getElem?_eq_getElem (by omega : j < zs.length)]
        rfl
    · intro p hp
      exact bounds_i32 (hwz p (List.mem_of_mem_take hp))
/-- the same; a slice that is nil has no room -/
theorem open_i32n {H : Type} {enc : TypeId × Value → H} {P : Program} {W : World} {base : Nat} {t e : TypeId} {v : Value} {d : DataW H} {ps : List MemPlace}
    (ht : P.underlying t = some (.slice e)) (he : P.underlying e = some (.int .i32)) (hc : P.cellsOf e = 1)
    (hval : Value.okWide P W .any base t v) (h : DataW.Trod enc P W 0 (fun _ => true) true t v d ps) :
    ∃ (a : Option Addr) (l : List Int) (cap : Nat), v = .slice a l.length cap ∧ RowAt W a (l.map (Value.int .i32)) ∧ (∀ p ∈ l, -2147483648 ≤ p ∧ p ≤ 2147483647) ∧ l.length ≤ maxLen ∧ (a = none → cap = 0) := by
  obtain ⟨a0, len, cap, rfl⟩ := okWide_slice ht hval
  obtain ⟨fuel, hf⟩ := h
  rcases open_ints ht he hc hf with ⟨hcs, hx⟩ | ⟨a, len', cap', zs, hcs, _, hl, hm, hz, hx, hcell, hwz⟩
  · simp [Value.cells] at hcs
    obtain ⟨rfl, rfl, rfl⟩ := hcs
    exact ⟨none, [], 0, rfl, .inl rfl, by simp, by simp [maxLen], fun _ => rfl⟩
  · simp [Value.cells] at hcs
    obtain ⟨rfl, rfl, rfl⟩ := hcs
    simp only [if_true] at hz
    have hlen : (zs.take len).length = len := by rw [List.length_take]; omega
    refine ⟨some a, zs.take len, cap, by rw [hlen], ?_, ?_, by rw [hlen]; omega, fun h => by cases h⟩
    · by_cases h0 : len = 0
      · subst h0; exact .inl (by simp)
      · have h1 := hcell 0 (by omega)
        have hsp := World.cell?_spot h1
        obtain ⟨b, off, spot⟩ := a
        have hs0 : spot = none := by simpa [Addr.add] using hsp
        subst hs0
        refine .inr ⟨b, off, rfl, fun j u hj => ?_⟩
        have hj' : j < len := by
          have := (List.getElem?_eq_some_iff.1 hj).1
          rw [List.length_map, hlen] at this; exact this
        have h2 := hcell j (by omega)
        have hp : (⟨b, off, none⟩ : Addr).add j = ⟨b, off + j, none⟩ := by unfold Addr.add; split <;> simp_all
        rw [hp] at h2
        rw [h2, ← hj, List.getElem?_map, List.getElem?_take, if_pos hj', List.getD_eq_getElem?_getD]
        rw [List.getElem?_eq_getElem (by omega : j < zs.length)]
        rfl
    · intro p hp
      exact bounds_i32 (hwz p (List.mem_of_mem_take hp))
end Go.Proofs.Aid
namespace Go.Proofs.YtoaojojapebamaaGreatDoor
open Go.ChangeShapes Go.WideShapes Go.ChangeAt Go.RowKit

theorem own : ownKnob Tryz.prog.godebug = none := by kernel_rfl
theorem u8extra : U8Extra Tryz.prog Tryz.lays260_ren where
  n3 := by kernel_rfl
  n4 := by kernel_rfl
  y3 := by kernel_rfl
  y4 := by kernel_rfl
  c5 := by kernel_rfl
  c119 := by kernel_rfl
  c138 := by kernel_rfl
def laidL : List (String × DataW Unit) := [("math/bits.deBruijn32tab", Rows.laid_math_bits_deBruijn32tab), ("unicode/utf8.acceptRanges", Rows.laid_unicode_utf8_acceptRanges), ("diacritic/charset.names", Rows.laid_diacritic_charset_names), ("unicode/utf8.first", Rows.laid_unicode_utf8_first)]
theorem laid_accept : (Rows.laid_unicode_utf8_acceptRanges : DataW Unit) = Lib.acceptData := by kernel_rfl
/-- WHAT A ROW's LIST GIVES -/
theorem tabs_of {W : World} (h : laidMetH Tryz.prog laidL W) : Tryz.Tabs W := by
  rw [MakeChecks.laidMetH_plain _ _ _ (by kernel_rfl)] at h
  have h1 := Lib.laidMet.reads h (n := "unicode/utf8.first") (d := Rows.laid_unicode_utf8_first) (by simp [laidL])
  have h2 := Lib.laidMet.reads h (n := "unicode/utf8.acceptRanges") (d := Rows.laid_unicode_utf8_acceptRanges) (by simp [laidL])
  rw [laid_accept] at h2
  have h1' : Lib.VarReads Tryz.prog W "unicode/utf8.first" Lib.firstData := by
    have e : Rows.laid_unicode_utf8_first = Lib.firstData := Pinned.utf8First_eq
    rw [e] at h1; exact h1
  exact utf8Tabs_of_reads Tryz.lays260 u8extra h1' h2
theorem laid_tab32 : (Rows.laid_math_bits_deBruijn32tab : DataW Unit) = Lib.tabData .u8 (Lib.deBruijn32tab.map fun (n : Nat) => (n : Int)) := by kernel_rfl
theorem tab32_of {W : World} (h : laidMetH Tryz.prog laidL W) : Tryz.Tab32 W := by
  rw [MakeChecks.laidMetH_plain _ _ _ (by kernel_rfl)] at h
  unfold laidL at h
  rw [laid_tab32] at h
  have ht := Lib.tabIs_of_head (g := 4) (t := 171) (e := 5) (n := 32) (by kernel_rfl) (by kernel_rfl) Tryz.underlying171 Tryz.underlying5 (by kernel_rfl) (by kernel_rfl) h
  intro j hj
  have hc := ht.cell (g := 4) (by kernel_rfl) j (by simpa using hj)
  rw [hc]
  congr 2
  simp [List.getD_eq_getElem?_getD, List.getElem?_eq_getElem hj]
set_option maxRecDepth 100000 in
theorem laid_names : (Rows.laid_diacritic_charset_names : DataW Unit) = .agg ((List.range 10).map fun i => .agg ((List.range 3).map fun k => .lit (.string (Dia.namesL.getD (3 * i + k) ⟨#[]⟩).data.toList))) := by kernel_rfl
theorem names_of {W : World} (h : laidMetH Tryz.prog laidL W) : Tryz.Names W := by
  rw [MakeChecks.laidMetH_plain _ _ _ (by kernel_rfl)] at h
  have h1 := Lib.laidMet.reads h (n := "diacritic/charset.names") (d := Rows.laid_diacritic_charset_names) (by simp [laidL])
  rw [laid_names] at h1
  obtain ⟨g, t, cs, fuel, p, hg, hty, hvar, hd⟩ := h1
  obtain rfl : g = 0 := Option.some.inj (hg.symm.trans (show Tryz.prog.globalNamed "diacritic/charset.names" = some 0 by kernel_rfl))
  obtain rfl : t = 54 := Option.some.inj (hty.symm.trans (show (Tryz.prog.globals[0]?).map (·.type) = some 54 by kernel_rfl))
  intro j hj
  obtain ⟨f1, d1, q1, e1, t1⟩ := Lib.array_elem Tryz.underlying54 hd (j / 3) (by omega)
  rw [List.getElem?_map, List.getElem?_range (by omega)] at e1
  simp only [Option.map_some, Option.some.injEq] at e1
  subst e1
  obtain ⟨f2, d2, q2, e2, t2⟩ := Lib.array_elem Tryz.underlying53 t1 (j % 3) (by omega)
  rw [List.getElem?_map, List.getElem?_range (by omega)] at e2
  simp only [Option.map_some, Option.some.injEq] at e2
  subst e2
  obtain ⟨s, hc, hz, _⟩ := DataW.trod_string Tryz.underlying9 t2
  have e3 : 3 * (j / 3) + j % 3 = j := by omega
  rw [e3] at hz
  have hs : s = Dia.namesL.getD j ⟨#[]⟩ := by
    revert hz
    generalize Dia.namesL.getD j ⟨#[]⟩ = y
    intro hz
    have hz1 := congrArg Prod.fst hz
    simp only [DataW.lit.injEq, Lit.string.injEq] at hz1
    have hz2 := hz1
    apply ByteArray.ext
    exact Array.toList_inj.1 hz2.symm
  rw [World.var?_cell hg hvar j, ← Array.getElem?_toList, ← hs]
  have c3 : Tryz.prog.cellsOf 53 = 3 := by kernel_rfl
  have c1 : Tryz.prog.cellsOf 9 = 1 := by kernel_rfl
  rw [c3, c1] at hc
  have h0 := congrArg (·[0]?) hc
  simp only [List.getElem?_take, List.getElem?_drop] at h0
  have e4 : j / 3 * 3 + (j % 3 * 1 + 0) = j := by omega
  have e5 : j % 3 * 1 + 0 < 3 := by omega
  simpa [e4, e5, show j / 3 * 3 + j % 3 = j by omega, show j % 3 < 3 by omega] using h0
theorem laid_met (os : Os) (args : Array Value) : laidMet Tryz.prog laidL ((World.laidAll Tryz.prog os laidL).forCall (fun _ _ => 0) ⟨#[], args, []⟩).memory :=
  laidMet_laidAll args (by kernel_rfl) (by kernel_rfl)
end Go.Proofs.YtoaojojapebamaaGreatDoor
