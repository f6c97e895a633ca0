/- rows of pairs, sorted by the library -/
import Derived.Test.YtfdkolodpealmaaDoorN9
namespace Go.Proofs
open Go.RowKit Go.Sort

section
variable {α : Type} (enc : α → List Value) (k : Nat)
theorem Aid.flat_get (hk : ∀ x, (enc x).length = k) : ∀ (l : List α) (i j : Nat) (x : α) (v : Value), l[i]? = some x → (enc x)[j]? = some v → (l.flatMap enc)[i * k + j]? = some v
  | [], i, j, x, v, h, _ => by simp at h
  | y :: l, 0, j, x, v, h, hv => by
    simp only [List.getElem?_cons_zero, Option.some.injEq] at h
    subst h
    have hj : j < (enc y).length := (List.getElem?_eq_some_iff.1 hv).1
    rw [List.flatMap_cons, List.getElem?_append_left (by omega), Nat.zero_mul, Nat.zero_add, hv]
  | y :: l, i + 1, j, x, v, h, hv => by
    rw [List.getElem?_cons_succ] at h
    rw [List.flatMap_cons, List.getElem?_append_right (by rw [hk, Nat.add_mul]; omega), hk]
    have e : (i + 1) * k + j - k = i * k + j := by rw [Nat.add_mul]; omega
    rw [e]
    exact Aid.flat_get hk l i j x v h hv
theorem Aid.flat_len (hk : ∀ x, (enc x).length = k) : ∀ (l : List α), (l.flatMap enc).length = l.length * k
  | [] => by simp
  | y :: l => by rw [List.flatMap_cons, List.length_append, hk, Aid.flat_len hk l, List.length_cons, Nat.add_mul]; omega
variable [Inhabited α]
theorem Aid.flatK_list (hk : ∀ x, (enc x).length = k) (h0 : 0 < k) (l : List α) : (flatK enc k l.toArray).toList = l.flatMap enc := by
  apply List.ext_getElem?
  intro t
  by_cases ht : t < l.length * k
  · have hi : t / k < l.length := Nat.div_lt_of_lt_mul (by rw [Nat.mul_comm]; exact ht)
    have hj : t % k < (enc l[t / k]).length := by rw [hk]; exact Nat.mod_lt _ h0
    have h1 := Aid.flat_get enc k hk l (t / k) (t % k) l[t / k] _ (List.getElem?_eq_getElem hi) (List.getElem?_eq_getElem hj)
    have e : t / k * k + t % k = t := by rw [Nat.mul_comm]; exact Nat.div_add_mod t k
    rw [e] at h1
    rw [h1]
    have hs : t < (flatK enc k l.toArray).size := by rw [size_flatK]; simpa using ht
    have h2 := get_flatK enc k l.toArray t (by simpa using ht)
    rw [Array.getElem?_toList, Array.getElem?_eq_getElem hs]
    rw [getElem!_pos _ t hs] at h2
    rw [h2]
    have e3 : l.toArray[t / k]! = l[t / k] := by simp [hi]
    rw [e3]
    exact congrArg some (getElem!_pos (enc l[t / k]) (t % k) hj)
  · rw [List.getElem?_eq_none (by simp; omega), List.getElem?_eq_none (by rw [Aid.flat_len enc k hk]; omega)]
theorem Aid.holdsK_own (hk : ∀ x, (enc x).length = k) (h0 : 0 < k) {w : World} {g : Nat} {cur : Array Value} {e : TypeId} {l : List α} (hb : w.heap[g]? = some (.cells cur e (0, 0)))
    (ht : cur.toList.take (l.length * k) = l.flatMap enc) : HoldsK enc k w g 0 l.toArray := by
  intro j hj
  rw [size_flatK] at hj
  have hj' : j < l.length * k := by simpa using hj
  refine ⟨?_, by simp [World.frozen?, hb]⟩
  have hs : j < (flatK enc k l.toArray).size := by rw [size_flatK]; exact hj
  have h1 : (cur.toList.take (l.length * k))[j]? = (flatK enc k l.toArray).toList[j]? := by rw [ht, Aid.flatK_list enc k hk h0]
  rw [List.getElem?_take_of_lt hj', Array.getElem?_toList, Array.getElem?_toList, Array.getElem?_eq_getElem hs] at h1
  simp only [World.cell?, hb, Nat.zero_add]
  rw [getElem!_pos _ j hs]
  simpa using h1
theorem Aid.heap_sortedK {w : World} {g n : Nat} {os : Array Obj} {cur : Array Value} {e : TypeId} {fr : Nat × Nat} (d : Array α) (hb : w.heap[g]? = some (.cells cur e fr)) :
    (sortWorldK enc k w g 0 n d os).heap[g]? = some (.cells (putCells id 0 (flatK enc k d) cur) e fr) := by
  have hg : g < w.heap.size := (Array.getElem?_eq_some_iff.1 hb).1
  unfold sortWorldK
  rw [heap_grow_old _ _ (by simpa [putRowK] using hg)]
  simp [putRowK, putRow, mapBlock, Sort.ahead, Array.getElem?_modify, hb, onCells]
theorem Aid.grownBy_sortedK {w : World} {g n : Nat} {os : Array Obj} (d : Array α) : w.grownBy (sortWorldK enc k w g 0 n d os) (some g) := by
  unfold sortWorldK
  refine ⟨rfl, rfl, rfl, by simp [putRowK], fun i hi hne => ?_⟩
  rw [heap_grow_old _ _ (by simpa [putRowK] using hi)]
  have : g ≠ i := fun e => hne (by rw [e])
  simp [putRowK, putRow, mapBlock, Sort.ahead, Array.getElem?_modify, this]
theorem Aid.take_putK (cur : Array Value) (F : Array Value) (h : F.size ≤ cur.size) : (putCells id 0 F cur).toList.take F.size = F.toList := by
  apply List.ext_getElem?
  intro j
  by_cases hj : j < F.size
  · rw [List.getElem?_take_of_lt hj, Array.getElem?_toList]
    simp [putCells, hj, show j < cur.size by omega]
  · rw [List.getElem?_take_eq_none (by omega), List.getElem?_eq_none (by simp; omega)]
theorem Aid.ownsRow_sortedK (hk : ∀ x, (enc x).length = k) (h0 : 0 < k) {w : World} {base g cap n : Nat} {e : TypeId} {os : Array Obj} {cur : Array Value} {m : Nat} {ts : List α} (hl : ts.length = m) (hbase : base ≤ g) (hb : w.heap[g]? = some (.cells cur e (0, 0)))
    (h1 : m ≤ cap) (h2 : cap ≤ maxLen) (h3 : cur.size = cap * k) :
    (sortWorldK enc k w g 0 n ts.toArray os).ownsRow base e k (.slice (some ⟨g, 0, none⟩) m cap) m (ts.flatMap enc) := by
  have hf : (flatK enc k ts.toArray).size = m * k := by rw [size_flatK]; simp [hl]
  have hmk : m * k ≤ cap * k := Nat.mul_le_mul_right k h1
  refine ⟨by rw [Aid.flat_len enc k hk, hl], .inr ⟨g, cap, _, rfl, hbase, Aid.heap_sortedK enc k _ hb, h1, h2, by simp [putCells, h3], ?_⟩⟩
  rw [← hf, Aid.take_putK _ _ (by omega), Aid.flatK_list enc k hk h0]
end
theorem Aid.perm_of {α : Type} [Inhabited α] {d d' : Array α} (h : PermIn 0 d.size d d') : d'.size = d.size ∧ d'.toList.Perm d.toList := by
  obtain ⟨h1, _, h3⟩ := h
  refine ⟨h1, ?_⟩
  have e1 : d'.extract 0 d.size = d' := by rw [← h1]; simp
  have e2 : d.extract 0 d.size = d := by simp
  rwa [e1, e2] at h3
/-- a pair's cells -/
def Dia.pcells (q : Int × Int) : List Value := [.int .i64 q.1, .int .i32 q.2]
theorem Dia.pcells_len (q : Int × Int) : (Dia.pcells q).length = 2 := rfl
def Dia.pcf (x y : Int × Int) : Int := Lib.compareInt x.1 y.1
theorem Dia.lt_pcf (x y : Int × Int) : ltOf Dia.pcf x y = decide (x.1 < y.1) := by
  unfold ltOf Dia.pcf Lib.compareInt
  by_cases h1 : x.1 < y.1
  · simp [h1]
  · by_cases h2 : y.1 < x.1 <;> simp [h1, h2]
theorem Dia.swo_pcf : SWO (ltOf Dia.pcf) where
  irrefl x := by rw [Dia.lt_pcf]; simp
  trans x y z h1 h2 := by rw [Dia.lt_pcf] at *; simp at *; omega
  ntrans x y z h1 h2 := by rw [Dia.lt_pcf] at *; simp at *; omega
theorem Dia.sorted_pcf {d : Array (Int × Int)} {n : Nat} (hn : n = d.size) (h : SortedIn (ltOf Dia.pcf) 0 n d) : d.toList.Pairwise fun a b => a.1 ≤ b.1 := by
  subst hn
  rw [List.pairwise_iff_getElem]
  intro i j hi hj hij
  have h1 := h i j (Nat.zero_le _) hij (by simpa using hj)
  rw [Dia.lt_pcf, getElem!_pos d j (by simpa using hj), getElem!_pos d i (by simpa using hi)] at h1
  simp only [decide_eq_false_iff_not] at h1
  simp only [Array.getElem_toList]
  omega

set_option maxRecDepth 100000 in
theorem Tryd.c_cmpPair (x y : Int × Int) (W : World) : Calls Tryd.prog 45 #[.agg #[.int .i64 x.1, .int .i32 x.2], .agg #[.int .i64 y.1, .int .i32 y.2]] W fun e w' => e = .returned (.int .i64 (Dia.pcf x y)) ∧ ∃ q os', w' = grow (W.drewN q) os' := by
  have hcon := fun W' => Tryd.cmp_Compare_int x.1 y.1 W'
  unfold Dia.pcf
  generalize Lib.compareInt x.1 y.1 = r at hcon ⊢
  go_enter Tryd.func45, Tryd.ntmps45
  go_wp2_with (go_at_call 46; refine (hcon _).mono ?_; rintro e w' ⟨rfl, rfl⟩)
  go_ret
  exact ⟨rfl, 0, _, by rw [alloc_eq_grow, alloc_eq_grow, grow_grow]; rfl⟩
/-- pairs that are handed back in memory of the call's own -/
def Tryd.IsPairs (P : List (Int × Int) → Prop) (w w' : World) (e : Ending) : Prop :=
  ∃ (v : Value) (l : List (Int × Int)), e = .returned v ∧ P l ∧ w'.ownsRow w.heap.size 64 2 v l.length (l.flatMap Dia.pcells) ∧ Below w.heap.size w w'
set_option maxHeartbeats 1000000 in
theorem Tryd.c_sort (g cap B : Nat) (l : List (Int × Int)) (w : World) (hl : l.length ≤ 10000000) (hown : w.ownsRow B 64 2 (.slice (some ⟨g, 0, none⟩) l.length cap) l.length (l.flatMap Dia.pcells)) :
    Calls Tryd.prog 44 #[.slice (some ⟨g, 0, none⟩) l.length cap, .func (.func 45) #[] #[]] w fun e w' => ∃ l' : List (Int × Int), e = .returned (.tuple #[]) ∧ l'.Perm l ∧ l'.Pairwise (fun a b => a.1 ≤ b.1) ∧
      w'.ownsRow B 64 2 (.slice (some ⟨g, 0, none⟩) l.length cap) l.length (l'.flatMap Dia.pcells) ∧ w.grownBy w' (some g) := by
  rcases hown.2 with ⟨h0, _⟩ | ⟨g', cap', cur, hv, hg, hh, hn, hcap, hsz, htake⟩
  · cases h0
  · cases hv
    have eg : ∀ args w, (callFunc 45 args).run Tryd.prog w = .ok (.enter 45 args) w := enters_of Tryd.func45 (by kernel_rfl) rfl
    have hH := Aid.holdsK_own Dia.pcells 2 Dia.pcells_len (by decide) hh htake
    have hgs : g < w.heap.size := (Array.getElem?_eq_some_iff.1 hh).1
    have hcon := AnyQ.slices_SortFunc Tryd.sortPair 2 Tryd.isAgg64 Tryd.sizeOf64 Dia.pcells Dia.pcells_len (fun x v hv => by simp [Dia.pcells] at hv; rcases hv with rfl | rfl <;> rfl) Dia.pcf Dia.swo_pcf 45 #[] g 0 cap l.toArray w eg
      (fun _ _ _ _ x y => Tryd.c_cmpPair x y _) hH hgs (by unfold maxLen at hcap; simp; omega)
    change Calls Tryd.prog 44 _ _ _ at hcon
    simp only [List.size_toArray] at hcon
    refine hcon.mono fun e w' ⟨he, d', n, os, hp, hs, hw⟩ => ?_
    obtain ⟨hsz', hperm⟩ := Aid.perm_of (d := l.toArray) (d' := d') (by simpa using hp)
    have hl' : d'.toList.length = l.length := by simpa using hsz'
    refine ⟨d'.toList, he, by simpa using hperm, Dia.sorted_pcf (by simpa using hsz'.symm) hs, ?_, by rw [hw]; exact Aid.grownBy_sortedK _ _ _⟩
    rw [hw]
    have := Aid.ownsRow_sortedK (n := n) (os := os) Dia.pcells 2 Dia.pcells_len (by decide) hl' hg hh hn hcap hsz
    simpa using this
end Go.Proofs
