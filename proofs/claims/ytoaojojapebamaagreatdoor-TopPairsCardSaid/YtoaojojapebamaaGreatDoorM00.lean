/- HELPERS FOR WALKS, over any program: the conversion of a row of bytes to a text; one element appended to a row of the call's own. -/
import Derived.WalkKit
import Derived.Laws.BytesArg
import Derived.Laws.IdiomStrings
import Derived.Lib.Hide
namespace Go.Proofs.Aid
open Go.RowKit

theorem run_conv_ints {P : Program} (w : World) (src dst e : TypeId) (ad : Addr) (cap : Nat) (ns : List Int) (hs : P.underlying src = some (.slice e)) (he : P.underlying e = some (.int .u8)) (hd : P.underlying dst = some .string)
    (hc : ∀ j u, (ns.map (Value.int .u8))[j]? = some u → w.cell? (ad.add j) = some u) :
    (convert src dst (.slice (some ad) ns.length cap)).run P w = .ok (.string (strOfNums ns)) w := by
  have hl := run_loadCells_list (P := P) w ad (ns.map (Value.int .u8)) hc
  simp only [List.length_map] at hl
  rw [run_convert_bytes_string w src dst e (some ad) ns.length cap hs he hd, run_bytesToString w ad ns.length cap ns hl, foldl_push_bytes]
  simp [strOfNums, ByteArray.empty, ByteArray.emptyWithCapacity]
  rfl

/-- 'string(b)', b's cells known. -/
theorem wpList_conv_ints {P : Program} (w : World) {ops : Array Oper} {rest : List Oper} {o : Oper} {a : Act} {Q : Exit → Act → World → Prop}
    (hg : o.guard = none) (x : Operand) (src dst e : TypeId) (hop : o.op = Op.convert src dst x)
    (hs : P.underlying src = some (.slice e)) (he : P.underlying e = some (.int .u8)) (hd : P.underlying dst = some .string)
    (ad : Addr) (cap : Nat) (ns : List Int) (n : Nat) (hx : a.eval x = .slice (some ad) n cap) (hn : n = ns.length)
    (hc : ∀ j u, (ns.map (Value.int .u8))[j]? = some u → w.cell? (ad.add j) = some u)
    (hK : wpList P ops Q rest (a.put o.dst (.string (strOfNums ns))) w) :
    wpList P ops Q (o :: rest) a w := by
  refine wpList_plain hg fun K hK' => ?_
  subst hn
  have hrun := run_conv_ints (P := P) w src dst e ad cap ns hs he hd hc
  unfold Oper.wp
  simp [execOp, hop, hx, hrun, Result.andThen]
  exact hK' _ _ hK

/-- 'string(b)', b a row of the call's own (nil too). -/
theorem wpList_conv_own {P : Program} (w : World) {ops : Array Oper} {rest : List Oper} {o : Oper} {a : Act} {Q : Exit → Act → World → Prop}
    (hg : o.guard = none) (x : Operand) (src dst e : TypeId) (hop : o.op = Op.convert src dst x)
    (hs : P.underlying src = some (.slice e)) (he : P.underlying e = some (.int .u8)) (hd : P.underlying dst = some .string)
    (B n : Nat) (v : Value) (l : List UInt8) (hx : a.eval x = v) (hown : w.ownsRow B e 1 v n (l.map fun b => Value.int .u8 b.toNat))
    (hK : wpList P ops Q rest (a.put o.dst (.string ⟨l.toArray⟩)) w) :
    wpList P ops Q (o :: rest) a w := by
  rcases hown.2 with ⟨rfl, rfl⟩ | ⟨g, cap, cur, rfl, _, hgb, _, _, _, htake⟩
  · have hl : l = [] := by
      have := hown.1
      simpa using this
    subst hl
    refine wpList_plain hg fun K hK' => ?_
    have hrun := run_convert_bytes_nil (P := P) w src e hs he 0 0 dst hd
    unfold Oper.wp
    simp [execOp, hop, hx, hrun, Result.andThen]
    exact hK' _ _ hK
  · have hn : n = l.length := by
      have := hown.1
      simp at this; omega
    subst hn
    have hcells := hown.cells (g := g) rfl
    refine wpList_plain hg fun K hK' => ?_
    have hrun := run_convert_bytes_back (P := P) w src dst e ⟨g, 0, none⟩ cap l hs he hd (fun j hj => hcells j _ (by simp [hj]))
    unfold Oper.wp
    simp [execOp, hop, hx, hrun, Result.andThen]
    exact hK' _ _ hK

/-- 'append(s, x)', s a row of the call's own: what the walk keeps. x: m cells, one element. -/
theorem wpList_app1 {P : Program} {w0 : World} (wx : World) {ops : Array Oper} {rest : List Oper} {o : Oper} {a : Act} {Q : Exit → Act → World → Prop}
    (hg : o.guard = none) (s x : Operand) (t e : TypeId) (size bytes : Nat) (hop : o.op = .call { callee := .builtin .append, args := #[s, x], argTypes := #[t, t] })
    (ht : P.underlying t = some (.slice e)) (i : TypeInfo) (z : Value) (hi : P.info? e = some i) (hz : i.zero = some z)
    (hsize : i.size = size) (hby : i.bytes = bytes) (hzs : z.cells.size = size) (hsz : 0 < size)
    (B : Nat) (v : Value) (n : Nat) (xs : List Value) (cs : Array Value) (tb : TypeId) (hs : a.eval s = v)
    (w : World) (hwx : wx = w.alloc (.cells cs tb))
    (hown : w.ownsRow B e size v n xs) (hbel : Below B w0 w) (hB : B ≤ w.heap.size)
    (hx : a.eval x = .slice (some ⟨w.heap.size, 0, none⟩) 1 1) (hl : cs.size = size) (h1 : ∀ u ∈ cs.toList, u.oneCell' = true)
    (h63 : n + 1 ≤ 140737488355328) (hbytes : (n + 1) * bytes ≤ 140737488355328)
    (h : ∀ v' w', w'.ownsRow B e size v' (n + 1) (xs ++ cs.toList) → Below B w0 w' → B ≤ w'.heap.size → w.grownBy w' v.ownBlock → wpList P ops Q rest (a.put o.dst v') w') : wpList P ops Q (o :: rest) a wx := by
  subst hwx
  refine wpList_append_own (w := w.alloc (.cells cs tb)) hg s x t hop B e i z size bytes ht hi hz hsize hby hzs hsz v n xs hs (hown.alloc _) ⟨w.heap.size, 0, none⟩ 1 1 cs.toList hx (by simp [hl]) ?_ h1 (by unfold maxLen; omega) hbytes (by simp; omega) ?_
  · intro j u hj
    have hp : (⟨w.heap.size, 0, none⟩ : Addr).add j = ⟨w.heap.size, j, none⟩ := by unfold Addr.add; split <;> simp_all
    rw [hp, World.cell?_alloc_mark]
    simpa using hj
  · intro v' w' h1 h2 _
    have hb2 := (World.grownBy_alloc w (.cells cs tb) v.ownBlock)
    have hg2 : w.grownBy w' v.ownBlock := ⟨h2.os.trans hb2.os, h2.tape.trans hb2.tape, h2.output.trans hb2.output, Nat.le_trans hb2.size h2.size,
      fun k hk hne => (h2.block k (by simp; omega) hne).trans (hb2.block k hk hne)⟩
    have hsz := h2.size
    simp at hsz
    exact h v' w' h1 (hbel.grown hg2 hB (fun k hk => (hown.lt k hk).1)) (by omega) hg2
theorem cells_new (w : World) (C : Array Value) (T : TypeId) (fr : Nat × Nat) (xs : List Value) (hx : C.toList = xs) :
    ∀ j u, xs[j]? = some u → (w.alloc (.cells C T fr)).cell? ((⟨w.heap.size, 0, none⟩ : Addr).add j) = some u := by
  subst hx
  intro j u hj
  have hp : (⟨w.heap.size, 0, none⟩ : Addr).add j = ⟨w.heap.size, j, none⟩ := by unfold Addr.add; split <;> simp_all
  rw [hp, World.cell?_alloc_mark]
  simpa using hj

/-- a block of two cells that the call has laid, and what is left of it below a 'Below' -/
theorem cells2 {w w1 : World} {x y : Value} {T : TypeId} (hb : Below (w.heap.size + 1) (w.alloc (.cells #[x, y] T)) w1) :
    w1.cell? ⟨w.heap.size, 0, none⟩ = some x ∧ w1.cell? ⟨w.heap.size, 1, none⟩ = some y ∧ w1.frozen? ⟨w.heap.size, 0, none⟩ = false ∧ w1.frozen? ⟨w.heap.size, 1, none⟩ = false := by
  have hk : w1.heap[w.heap.size]? = some (.cells #[x, y] T (0, 0)) := by
    rw [hb.block w.heap.size (by omega)]
    exact heap_alloc_new w _
  refine ⟨?_, ?_, ?_, ?_⟩ <;> simp [World.cell?, World.frozen?, hk]
theorem below_new {B : Nat} {w w1 : World} {o : Obj} (hb : Below (w.heap.size + 1) (w.alloc o) w1) (hB : B ≤ w.heap.size) : Below B w w1 :=
  ((Below.refl B w).alloc hB o).trans (hb.mono (by omega))
theorem new_lt {w w1 : World} {o : Obj} (hb : Below (w.heap.size + 1) (w.alloc o) w1) : w.heap.size < w1.heap.size := by
  have := hb.size
  simp at this; omega

/-- the values that a slice at an address holds -/
def RowAt (w : World) (a : Option Addr) (vals : List Value) : Prop :=
  vals = [] ∨ ∃ b off, a = some ⟨b, off, none⟩ ∧ ∀ j u, vals[j]? = some u → w.cell? ⟨b, off + j, none⟩ = some u
theorem RowAt.below {w w' : World} {a : Option Addr} {vals : List Value} (h : RowAt w a vals) (hb : Below w.heap.size w w') : RowAt w' a vals := by
  rcases h with h | ⟨b, off, ha, h⟩
  · exact .inl h
  · exact .inr ⟨b, off, ha, fun j u hj => (hb.cell (World.block_lt_of_cell? w _ (h j u hj))).trans (h j u hj)⟩
theorem RowAt.get {w : World} {a : Option Addr} {vals : List Value} (h : RowAt w a vals) {k : Nat} (hk : k < vals.length) :
    ∃ b off, a = some ⟨b, off, none⟩ ∧ w.cell? ⟨b, off + k, none⟩ = some vals[k] := by
  rcases h with h | ⟨b, off, ha, h⟩
  · subst h; simp at hk
  · exact ⟨b, off, ha, h k _ (List.getElem?_eq_getElem hk)⟩
/-- a row of the call's own, as its readers see it -/
theorem own_row {w : World} {B : Nat} {e : TypeId} {v : Value} {n : Nat} {xs : List Value} (h : w.ownsRow B e 1 v n xs) : ∃ a cap, v = .slice a xs.length cap ∧ RowAt w a xs := by
  have hl := h.1
  simp at hl
  rcases h.2 with ⟨rfl, rfl⟩ | ⟨g, cap, cur, rfl, _⟩
  · have : xs = [] := by simpa using hl
    subst this
    exact ⟨none, 0, rfl, .inl rfl⟩
  · refine ⟨some ⟨g, 0, none⟩, cap, by rw [hl], .inr ⟨g, 0, rfl, fun j u hj => ?_⟩⟩
    have := h.cells (g := g) rfl j u hj
    have hp : (⟨g, 0, none⟩ : Addr).add j = ⟨g, 0 + j, none⟩ := by unfold Addr.add; split <;> simp_all
    rw [hp] at this
    exact this
theorem own_at {w : World} {B : Nat} {e : TypeId} {a : Option Addr} {m cap n : Nat} {xs : List Value} (h : w.ownsRow B e 1 (.slice a m cap) n xs) : RowAt w a xs := by
  obtain ⟨a', cap', he, hr⟩ := own_row h
  cases he
  exact hr
theorem own_len {w : World} {B : Nat} {e : TypeId} {v : Value} {n : Nat} {xs : List Value} (h : w.ownsRow B e 1 v n xs) : n = xs.length := by
  have := h.1; omega
theorem ownsRow_below {w w' : World} {B : Nat} {e : TypeId} {sz : Nat} {v : Value} {n : Nat} {xs : List Value} (h : w.ownsRow B e sz v n xs) (hb : Below w.heap.size w w') : w'.ownsRow B e sz v n xs :=
  h.kept (row := none) ⟨hb.os, hb.tape, hb.output, hb.size, fun k hk _ => hb.block k hk⟩ (by
    cases hv : v.ownBlock with
    | none => exact .inl rfl
    | some b => exact .inr (by simp))
/-- a fact that the walk shall not see -/
structure Hid2 (p : Prop) : Prop where
  out : p
theorem bt {w w1 w2 : World} (h1 : Below w.heap.size w w1) (h2 : Below w1.heap.size w1 w2) : Below w.heap.size w w2 := h1.trans (h2.mono h1.size)
theorem cell_ext {w w' : World} (h : Below w.heap.size w w') {a : Addr} {v : Value} (hc : w.cell? a = some v) : w'.cell? a = some v := (h.cell (World.block_lt_of_cell? w a hc)).trans hc
theorem row_new (w : World) (C : Array Value) (T : TypeId) (xs : List Value) (hx : C.toList = xs) : RowAt (w.alloc (.cells C T)) (some ⟨w.heap.size, 0, none⟩) xs :=
  .inr ⟨w.heap.size, 0, rfl, fun j u hj => by
    have := cells_new w C T (0, 0) xs hx j u hj
    have hp : (⟨w.heap.size, 0, none⟩ : Addr).add j = ⟨w.heap.size, 0 + j, none⟩ := by unfold Addr.add; split <;> simp_all
    rw [hp] at this
    exact this⟩
end Go.Proofs.Aid
