/- rows of pairs, sorted by the library; walks of run: Pairs, Size -/
import Derived.Test.YtoaojojapebamaaGreatDoorM14
import Derived.Shelf.SlSortCmp.NoneTotal
namespace Go.Proofs
open Go.RowKit Go.Sort

section
variable {α : Type} (enc : α → List Value) (k : Nat)
theorem Aid.flat_get (hk : ∀ x, (enc x).length = k) : ∀ (l : List α) (i j : Nat) (x : α) (v : Value), l[i]? = some x → (enc x)[j]? = some v → (l.flatMap enc)[i * k + j]? = some v
  | [], i, j, x, v, h, _ => by simp at h
  | y :: l, 0, j, x, v, h, hv => by
    simp only [List.getElem?_cons_zero, Option.some.injEq] at h
    subst h
    have hj : j < (enc y).length := (List.getElem?_eq_some_iff.1 hv).1
    rw [List.flatMap_cons, List.getElem?_append_left (by omega), Nat.zero_mul, Nat.zero_add, hv]
  | y :: l, i + 1, j, x, v, h, hv => by
    rw [List.getElem?_cons_succ] at h
    rw [List.flatMap_cons, List.getElem?_append_right (by rw [hk, Nat.add_mul]; omega), hk]
    have e : (i + 1) * k + j - k = i * k + j := by rw [Nat.add_mul]; omega
    rw [e]
    exact Aid.flat_get hk l i j x v h hv
theorem Aid.flat_len (hk : ∀ x, (enc x).length = k) : ∀ (l : List α), (l.flatMap enc).length = l.length * k
  | [] => by simp
  | y :: l => by rw [List.flatMap_cons, List.length_append, hk, Aid.flat_len hk l, List.length_cons, Nat.add_mul]; omega
variable [Inhabited α]
theorem Aid.flatK_list (hk : ∀ x, (enc x).length = k) (h0 : 0 < k) (l : List α) : (flatK enc k l.toArray).toList = l.flatMap enc := by
  apply List.ext_getElem?
  intro t
  by_cases ht : t < l.length * k
  · have hi : t / k < l.length := Nat.div_lt_of_lt_mul (by rw [Nat.mul_comm]; exact ht)
    have hj : t % k < (enc l[t / k]).length := by rw [hk]; exact Nat.mod_lt _ h0
    have h1 := Aid.flat_get enc k hk l (t / k) (t % k) l[t / k] _ (List.getElem?_eq_getElem hi) (List.getElem?_eq_getElem hj)
    have e : t / k * k + t % k = t := by rw [Nat.mul_comm]; exact Nat.div_add_mod t k
    rw [e] at h1
    rw [h1]
    have hs : t < (flatK enc k l.toArray).size := by rw [size_flatK]; simpa using ht
    have h2 := get_flatK enc k l.toArray t (by simpa using ht)
    rw [Array.getElem?_toList, Array.getElem?_eq_getElem hs]
    rw [getElem!_pos _ t hs] at h2
    rw [h2]
    have e3 : l.toArray[t / k]! = l[t / k] := by simp [hi]
    rw [e3]
    exact congrArg some (getElem!_pos (enc l[t / k]) (t % k) hj)
  · rw [List.getElem?_eq_none (by simp; omega), List.getElem?_eq_none (by rw [Aid.flat_len enc k hk]; omega)]
theorem Aid.holdsK_own (hk : ∀ x, (enc x).length = k) (h0 : 0 < k) {w : World} {g : Nat} {cur : Array Value} {e : TypeId} {l : List α} (hb : w.heap[g]? = some (.cells cur e (0, 0)))
    (ht : cur.toList.take (l.length * k) = l.flatMap enc) : HoldsK enc k w g 0 l.toArray := by
  intro j hj
  rw [size_flatK] at hj
  have hj' : j < l.length * k := by simpa using hj
  refine ⟨?_, by simp [World.frozen?, hb]⟩
  have hs : j < (flatK enc k l.toArray).size := by rw [size_flatK]; exact hj
  have h1 : (cur.toList.take (l.length * k))[j]? = (flatK enc k l.toArray).toList[j]? := by rw [ht, Aid.flatK_list enc k hk h0]
  rw [List.getElem?_take_of_lt hj', Array.getElem?_toList, Array.getElem?_toList, Array.getElem?_eq_getElem hs] at h1
  simp only [World.cell?, hb, Nat.zero_add]
  rw [getElem!_pos _ j hs]
  simpa using h1
theorem Aid.heap_sortedK {w : World} {g n : Nat} {os : Array Obj} {cur : Array Value} {e : TypeId} {fr : Nat × Nat} (d : Array α) (hb : w.heap[g]? = some (.cells cur e fr)) :
    (sortWorldK enc k w g 0 n d os).heap[g]? = some (.cells (putCells id 0 (flatK enc k d) cur) e fr) := by
  have hg : g < w.heap.size := (Array.getElem?_eq_some_iff.1 hb).1
  unfold sortWorldK
  rw [heap_grow_old _ _ (by simpa [putRowK] using hg)]
  simp [putRowK, putRow, mapBlock, Sort.ahead, Array.getElem?_modify, hb, onCells]
theorem Aid.grownBy_sortedK {w : World} {g n : Nat} {os : Array Obj} (d : Array α) : w.grownBy (sortWorldK enc k w g 0 n d os) (some g) := by
  unfold sortWorldK
  refine ⟨rfl, rfl, rfl, by simp [putRowK], fun i hi hne => ?_⟩
  rw [heap_grow_old _ _ (by simpa [putRowK] using hi)]
  have : g ≠ i := fun e => hne (by rw [e])
  simp [putRowK, putRow, mapBlock, Sort.ahead, Array.getElem?_modify, this]
theorem Aid.take_putK (cur : Array Value) (F : Array Value) (h : F.size ≤ cur.size) : (putCells id 0 F cur).toList.take F.size = F.toList := by
  apply List.ext_getElem?
  intro j
  by_cases hj : j < F.size
  · rw [List.getElem?_take_of_lt hj, Array.getElem?_toList]
    simp [putCells, hj, show j < cur.size by omega]
  · rw [List.getElem?_take_eq_none (by omega), List.getElem?_eq_none (by simp; omega)]
theorem Aid.ownsRow_sortedK (hk : ∀ x, (enc x).length = k) (h0 : 0 < k) {w : World} {base g cap n : Nat} {e : TypeId} {os : Array Obj} {cur : Array Value} {m : Nat} {ts : List α} (hl : ts.length = m) (hbase : base ≤ g) (hb : w.heap[g]? = some (.cells cur e (0, 0)))
    (h1 : m ≤ cap) (h2 : cap ≤ maxLen) (h3 : cur.size = cap * k) :
    (sortWorldK enc k w g 0 n ts.toArray os).ownsRow base e k (.slice (some ⟨g, 0, none⟩) m cap) m (ts.flatMap enc) := by
  have hf : (flatK enc k ts.toArray).size = m * k := by rw [size_flatK]; simp [hl]
  have hmk : m * k ≤ cap * k := Nat.mul_le_mul_right k h1
  refine ⟨by rw [Aid.flat_len enc k hk, hl], .inr ⟨g, cap, _, rfl, hbase, Aid.heap_sortedK enc k _ hb, h1, h2, by simp [putCells, h3], ?_⟩⟩
  rw [← hf, Aid.take_putK _ _ (by omega), Aid.flatK_list enc k hk h0]
end
theorem Aid.perm_of {α : Type} [Inhabited α] {d d' : Array α} (h : PermIn 0 d.size d d') : d'.size = d.size ∧ d'.toList.Perm d.toList := by
  obtain ⟨h1, _, h3⟩ := h
  refine ⟨h1, ?_⟩
  have e1 : d'.extract 0 d.size = d' := by rw [← h1]; simp
  have e2 : d.extract 0 d.size = d := by simp
  rwa [e1, e2] at h3
/-- a pair's cells -/
def Dia.pcells (q : Int × Int) : List Value := [.int .i64 q.1, .int .i32 q.2]
theorem Dia.pcells_len (q : Int × Int) : (Dia.pcells q).length = 2 := rfl
def Dia.pcf (x y : Int × Int) : Int := Lib.compareInt x.1 y.1
theorem Dia.lt_pcf (x y : Int × Int) : ltOf Dia.pcf x y = decide (x.1 < y.1) := by
  unfold ltOf Dia.pcf Lib.compareInt
  by_cases h1 : x.1 < y.1
  · simp [h1]
  · by_cases h2 : y.1 < x.1 <;> simp [h1, h2]
theorem Dia.swo_pcf : SWO (ltOf Dia.pcf) where
  irrefl x := by rw [Dia.lt_pcf]; simp
  trans x y z h1 h2 := by rw [Dia.lt_pcf] at *; simp at *; omega
  ntrans x y z h1 h2 := by rw [Dia.lt_pcf] at *; simp at *; omega
theorem Dia.sorted_pcf {d : Array (Int × Int)} {n : Nat} (hn : n = d.size) (h : SortedIn (ltOf Dia.pcf) 0 n d) : d.toList.Pairwise fun a b => a.1 ≤ b.1 := by
  subst hn
  rw [List.pairwise_iff_getElem]
  intro i j hi hj hij
  have h1 := h i j (Nat.zero_le _) hij (by simpa using hj)
  rw [Dia.lt_pcf, getElem!_pos d j (by simpa using hj), getElem!_pos d i (by simpa using hi)] at h1
  simp only [decide_eq_false_iff_not] at h1
  simp only [Array.getElem_toList]
  omega

set_option maxRecDepth 100000 in
theorem Tryz.c_cmpPair (x y : Int × Int) (W : World) : Calls Tryz.prog 65 #[.agg #[.int .i64 x.1, .int .i32 x.2], .agg #[.int .i64 y.1, .int .i32 y.2]] W fun e w' => e = .returned (.int .i64 (Dia.pcf x y)) ∧ ∃ q os', w' = grow (W.drewN q) os' := by
  have hcon := fun W' => Tryz.cmp_Compare_int x.1 y.1 W'
  unfold Dia.pcf
  generalize Lib.compareInt x.1 y.1 = r at hcon ⊢
  go_enter Tryz.func65, Tryz.ntmps65
  go_wp2_with (go_at_call 60; refine (hcon _).mono ?_; rintro e w' ⟨rfl, rfl⟩)
  go_ret
  exact ⟨rfl, 0, _, by rw [alloc_eq_grow, alloc_eq_grow, grow_grow]; rfl⟩
/-- pairs that are handed back in memory of the call's own -/
def Tryz.IsPairs (P : List (Int × Int) → Prop) (w w' : World) (e : Ending) : Prop :=
  ∃ (v : Value) (l : List (Int × Int)), e = .returned v ∧ P l ∧ w'.ownsRow w.heap.size 34 2 v l.length (l.flatMap Dia.pcells) ∧ Below w.heap.size w w'
set_option maxHeartbeats 1000000 in
theorem Tryz.c_sort (g cap B : Nat) (l : List (Int × Int)) (w : World) (hl : l.length ≤ 10000000) (hown : w.ownsRow B 34 2 (.slice (some ⟨g, 0, none⟩) l.length cap) l.length (l.flatMap Dia.pcells)) :
    Calls Tryz.prog 58 #[.slice (some ⟨g, 0, none⟩) l.length cap, .func (.func 65) #[] #[]] w fun e w' => ∃ l' : List (Int × Int), e = .returned (.tuple #[]) ∧ l'.Perm l ∧ l'.Pairwise (fun a b => a.1 ≤ b.1) ∧
      w'.ownsRow B 34 2 (.slice (some ⟨g, 0, none⟩) l.length cap) l.length (l'.flatMap Dia.pcells) ∧ w.grownBy w' (some g) := by
  rcases hown.2 with ⟨h0, _⟩ | ⟨g', cap', cur, hv, hg, hh, hn, hcap, hsz, htake⟩
  · cases h0
  · cases hv
    have eg : ∀ args w, (callFunc 65 args).run Tryz.prog w = .ok (.enter 65 args) w := enters_of Tryz.func65 (by kernel_rfl) rfl
    have hH := Aid.holdsK_own Dia.pcells 2 Dia.pcells_len (by decide) hh htake
    have hgs : g < w.heap.size := (Array.getElem?_eq_some_iff.1 hh).1
    have hcon := AnyQ.slices_SortFunc Tryz.sortPair 2 Tryz.isAgg34 Tryz.sizeOf34 Dia.pcells Dia.pcells_len (fun x v hv => by simp [Dia.pcells] at hv; rcases hv with rfl | rfl <;> rfl) Dia.pcf Dia.swo_pcf 65 #[] g 0 cap l.toArray w eg
      (fun _ _ _ _ x y => Tryz.c_cmpPair x y _) hH hgs (by unfold maxLen at hcap; simp; omega)
    change Calls Tryz.prog 58 _ _ _ at hcon
    simp only [List.size_toArray] at hcon
    refine hcon.mono fun e w' ⟨he, d', n, os, hp, hs, hw⟩ => ?_
    obtain ⟨hsz', hperm⟩ := Aid.perm_of (d := l.toArray) (d' := d') (by simpa using hp)
    have hl' : d'.toList.length = l.length := by simpa using hsz'
    refine ⟨d'.toList, he, by simpa using hperm, Dia.sorted_pcf (by simpa using hsz'.symm) hs, ?_, by rw [hw]; exact Aid.grownBy_sortedK _ _ _⟩
    rw [hw]
    have := Aid.ownsRow_sortedK (n := n) (os := os) Dia.pcells 2 Dia.pcells_len (by decide) hl' hg hh hn hcap hsz
    simpa using this
end Go.Proofs
namespace Go.Proofs
open Go.RowKit

/-- the first codes of a row, those that aren't hidden, and their signs -/
def Dia.Row.prsM (h : Int → Bool) (r : Dia.Row) (m : Nat) : List (Int × Int) := ((((List.range m).map fun (k : Nat) => r.from' + (k : Int)).filter fun c => !h c)).map fun c => (c, r.at c)
theorem Dia.prsM_zero (h : Int → Bool) (r : Dia.Row) : r.prsM h 0 = [] := rfl
theorem Dia.prsM_all (h : Int → Bool) (r : Dia.Row) : r.prsM h r.count.toNat = r.prs h := rfl
theorem Dia.prsM_succ (h : Int → Bool) (r : Dia.Row) (m : Nat) : r.prsM h (m + 1) = r.prsM h m ++ (if h (r.from' + (m : Int)) then [] else [(r.from' + (m : Int), r.at (r.from' + (m : Int)))]) := by
  unfold Dia.Row.prsM
  rw [List.range_succ, List.map_append, List.filter_append, List.map_append]
  congr 1
  cases hq : h (r.from' + (m : Int)) <;> simp [hq]
theorem Dia.prsM_len (h : Int → Bool) (r : Dia.Row) (m : Nat) : (r.prsM h m).length ≤ m := by
  unfold Dia.Row.prsM
  rw [List.length_map]
  refine Nat.le_trans (List.length_filter_le _ _) ?_
  simp
theorem Dia.prsRows_snoc (h : Int → Bool) (rs : List Dia.Row) (j : Nat) (hj : j < rs.length) : Dia.prsRows h (rs.take (j + 1)) = Dia.prsRows h (rs.take j) ++ rs[j].prs h := by
  rw [Dia.take_snoc rs j hj]
  unfold Dia.prsRows
  rw [List.flatMap_append, List.flatMap_cons, List.flatMap_nil, List.append_nil]
theorem Dia.prsTo_succ (ls : List (List Dia.Row)) (i : Nat) (h : i < ls.length) : Dia.prsTo ls (i + 1) = Dia.prsTo ls i ++ Dia.prsRows (Dia.hid (ls.take i)) ls[i] := by
  simp only [Dia.prsTo, List.getD_eq_getElem?_getD, List.getElem?_eq_getElem h, Option.getD_some]
theorem Aid.own_ne {w : World} {B k : Nat} {e T : TypeId} {sz : Nat} {v : Value} {n : Nat} {xs : List Value} {C : Array Value} {fr : Nat × Nat} (h : w.ownsRow B e sz v n xs) (hk : w.heap[k]? = some (.cells C T fr)) (hne : T ≠ e) : some k ≠ v.ownBlock := by
  rcases h.2 with ⟨rfl, _⟩ | ⟨g, cap, cur, rfl, _, h5, _⟩
  · simp [Value.ownBlock]
  · simp only [Value.ownBlock, ne_eq, Option.some.injEq]
    intro e'
    subst e'
    rw [hk] at h5
    simp at h5
    exact hne h5.2.1
theorem Dia.flat_snoc (a : List (Int × Int)) (q : Int × Int) : (a ++ [q]).flatMap Dia.pcells = a.flatMap Dia.pcells ++ (#[Value.int .i64 q.1, .int .i32 q.2] : Array Value).toList := by simp [Dia.pcells]

theorem Tryz.c_sort_none (p : Option Addr) (cap : Nat) (fv : Value) (w : World) :
    Calls Tryz.prog 58 #[.slice p 0 cap, fv] w fun e w' => e = .returned (.tuple #[]) ∧ w' = w := by
  have hcon := AnyF.slices_SortFunc_none Tryz.sortPair p cap fv w
  exact hcon
set_option maxRecDepth 100000 in
set_option maxHeartbeats 4000000 in
theorem Tryz.c_Pairs (a : Option Addr) (ls : List (List Dia.Row)) (cap : Nat) (w : World) (hlv : Dia.LevelsAt w a ls) (hok : ∀ rs ∈ ls, ∀ r ∈ rs, r.Ok) (hcap : ls.length ≤ cap) (hn : ls.length ≤ 1000000) (hn2 : ∀ rs ∈ ls, rs.length ≤ 1000000) (hlen : (Dia.prs ls).length ≤ 1000000) :
    Calls Tryz.prog 28 #[Dia.tabv a ls.length cap] w fun e w' => Tryz.IsPairs (fun l => l.Perm (Dia.prs ls) ∧ l.Pairwise fun a b => a.1 ≤ b.1) w w' e := by
  obtain ⟨i0, hi, hz0, hz1, hz2⟩ := info_parts (show (Tryz.prog.info? 34).map (fun i => (i.zero, i.size, i.bytes)) = some (some (.agg #[.int .i64 0, .int .i32 0]), 2, 16) by kernel_rfl)
  have hpre : ∀ i, i ≤ ls.length → (Dia.prsTo ls i).length ≤ (Dia.prs ls).length := by
    have : ∀ d i, i + d = ls.length → (Dia.prsTo ls i).length ≤ (Dia.prsTo ls ls.length).length := by
      intro d
      induction d with
      | zero => intro i h; rw [show i = ls.length by omega]; exact Nat.le_refl _
      | succ d ih => intro i h; refine Nat.le_trans ?_ (ih (i + 1) (by omega)); rw [Dia.prsTo_succ ls i (by omega)]; simp
    intro i h
    exact this (ls.length - i) i (by omega)
  have HPRE := Aid.Hid2.mk hpre
  clear hpre
  unfold Dia.tabv
  go_enter Tryz.func28, Tryz.ntmps28
  go_wp2
  go_loopw [3, 4, 5, 7, 8, 9, 13] (fun v _ _ _ _ _ i wr => ∃ k : Nat, k ≤ ls.length ∧ i = .int .i64 k ∧ wr.ownsRow (w.heap.size + 1) 34 2 v (Dia.prsTo ls k).length ((Dia.prsTo ls k).flatMap Dia.pcells) ∧
      Below (w.heap.size + 1) (w.alloc (.cells #[.slice a ls.length cap] 43)) wr)
    (fun _ _ _ _ _ _ i _ => ls.length - (intOf i).toNat)
  case atStart => exact ⟨0, Nat.zero_le _, rfl, World.ownsRow_nil _ _ _ _, Below.refl _ _⟩
  case round =>
    obtain ⟨k, hk, rfl, hown, hb⟩ := hrel
    obtain ⟨wo, rfl⟩ : ∃ wo : World, wo = wr := ⟨_, rfl⟩
    have hbw : Below w.heap.size w wo := Aid.below_new hb (Nat.le_refl _)
    by_cases hlt : k < ls.length
    · have HSU := Aid.Hid2.mk (Dia.prsTo_succ ls k hlt)
      have HLE : Aid.Hid2 ((Dia.prsTo ls k).length + (Dia.prsRows (Dia.hid (ls.take k)) ls[k]).length ≤ 1000000) := ⟨by
        have := HPRE.out (k + 1) (by omega)
        rw [HSU.out, List.length_append] at this
        omega⟩
      have HH : Aid.Hid2 (∀ (c : Int) (w1 : World), 0 ≤ c → c ≤ 1048576 → Below w.heap.size w w1 → Calls Tryz.prog 63 #[.agg #[.slice a ls.length cap], .int .i64 k, .int .i64 c] w1 fun e w' => e = .returned (.bool (Dia.hid (ls.take k) c)) ∧ Below w1.heap.size w1 w') :=
        ⟨fun c w1 h0 h1 hb1 => Tryz.c_hidden a ls cap k c w1 (hlv.below hb1) hok (by intro e; rw [e] at hlt; simp at hlt) hcap (by omega) hn hn2 ⟨by omega, by omega⟩⟩
      obtain ⟨b, off, ar, cr, rfl, hcell0, hrows⟩ := hlv.get hlt
      have hcell := Aid.cell_ext hbw hcell0
      have hok2 := Aid.Hid2.mk (hok ls[k] (List.getElem_mem _))
      have hnn := hn2 ls[k] (List.getElem_mem _)
      generalize hQ : Dia.hid (ls.take k) = Q at *
      clear hQ hcell0
      generalize ls[k] = rs at *
      generalize Dia.prsTo ls k = O0 at *
      go_wp2
      go_loopw [3, 7, 8, 9, 20] (fun v _ _ _ i wr => ∃ j : Nat, j ≤ rs.length ∧ i = .int .i64 j ∧ wr.ownsRow (w.heap.size + 1) 34 2 v (O0 ++ Dia.prsRows Q (rs.take j)).length ((O0 ++ Dia.prsRows Q (rs.take j)).flatMap Dia.pcells) ∧
          Below (w.heap.size + 1) (w.alloc (.cells #[.slice (some ⟨b, off, none⟩) ls.length cap] 43)) wr)
        (fun _ _ _ _ i _ => rs.length - (intOf i).toNat)
      case atStart => exact ⟨0, Nat.zero_le _, rfl, by simpa [Dia.prsRows] using hown, hb⟩
      case round =>
        obtain ⟨j, hj, rfl, hown2, hb2⟩ := hrel
        obtain ⟨wi, rfl⟩ : ∃ wi : World, wi = wr := ⟨_, rfl⟩
        have hbw2 : Below w.heap.size w wi := Aid.below_new hb2 (Nat.le_refl _)
        have hs2 := Aid.new_lt hb2
        by_cases hlj : j < rs.length
        · have HSJ := Aid.Hid2.mk (Dia.prsRows_snoc Q rs j hlj)
          have HLJ : Aid.Hid2 ((O0 ++ Dia.prsRows Q (rs.take j)).length + (rs[j].prs Q).length ≤ 1000000) := ⟨by
            have h1 := HLE.out
            have h2 : (Dia.prsRows Q (rs.take (j + 1))).length ≤ (Dia.prsRows Q rs).length := by
              have e : Dia.prsRows Q rs = Dia.prsRows Q (rs.take (j + 1)) ++ Dia.prsRows Q (rs.drop (j + 1)) := by
                unfold Dia.prsRows; rw [← List.flatMap_append, List.take_append_drop]
              rw [e]; simp
            rw [HSJ.out, List.length_append] at h2
            rw [List.length_append]
            omega⟩
          obtain ⟨b2, off2, rfl, al, cl, h0, h1, h2, h3, h4⟩ := hrows.get hlj
          replace h0 := Aid.cell_ext hbw2 h0
          replace h1 := Aid.cell_ext hbw2 h1
          replace h2 := Aid.cell_ext hbw2 h2
          replace h3 := Aid.cell_ext hbw2 h3
          have hR := hok2.out rs[j] (List.getElem_mem _)
          generalize rs[j] = r at *
          have HAT : Aid.Hid2 (∀ (c : Int) (w1 : World), r.from' ≤ c → c - r.from' < r.count → Below w.heap.size w w1 → Calls Tryz.prog 64 #[.agg #[.int .i64 r.from', .int .i32 r.to, .int .i64 r.count, .slice al r.list.length cl], .int .i64 c] w1 fun e w' => e = .returned (.int .i32 (r.at c)) ∧ Below w1.heap.size w1 w') :=
            ⟨fun c w1 g0 g1 hb1 => Tryz.c_at r al cl c w1 ⟨hR.f0, by have := hR.f1; have := hR.c0; omega⟩ (fun h => ⟨hR.t0 h, hR.t1 h⟩) (by have := hR.f1; have := hR.f0; omega) hR.l ⟨g0, g1⟩ (h4.below hb1)⟩
          have hr0 := hR.f0
          have hr1 := hR.f1
          have hr2 := hR.c0
          have HM0 := Aid.Hid2.mk (Dia.prsM_zero Q r)
          have HMS := Aid.Hid2.mk (Dia.prsM_succ Q r)
          have HMA := Aid.Hid2.mk (Dia.prsM_all Q r)
          have HML := Aid.Hid2.mk (fun m => Dia.prsM_len Q r m)
          have HMP : Aid.Hid2 (∀ m, m ≤ r.count.toNat → (r.prsM Q m).length ≤ (r.prs Q).length) := ⟨by
            have : ∀ d m, m + d = r.count.toNat → (r.prsM Q m).length ≤ (r.prsM Q r.count.toNat).length := by
              intro d
              induction d with
              | zero => intro m h; rw [show m = r.count.toNat by omega]; exact Nat.le_refl _
              | succ d ih => intro m h; refine Nat.le_trans ?_ (ih (m + 1) (by omega)); rw [Dia.prsM_succ]; simp
            intro m h
            exact this (r.count.toNat - m) m (by omega)⟩
          generalize hO1 : O0 ++ Dia.prsRows Q (rs.take j) = O1 at *
          have HO1 := Aid.Hid2.mk hO1
          clear hO1
          obtain ⟨f, t, c, L⟩ := r
          simp only at h0 h1 h2 h3 hr0 hr1 hr2 HAT HMS
          clear hR
          go_wp2
          go_loopw [3, 8, 9, 26] (fun v _ _ i wr => ∃ m : Nat, (m : Int) ≤ c ∧ i = .int .i64 m ∧ wr.ownsRow (w.heap.size + 1) 34 2 v (O1 ++ Dia.Row.prsM Q ⟨f, t, c, L⟩ m).length ((O1 ++ Dia.Row.prsM Q ⟨f, t, c, L⟩ m).flatMap Dia.pcells) ∧
              wr.heap[wi.heap.size]? = some (.cells #[.int .i64 f, .int .i32 t, .int .i64 c, .slice al L.length cl] 96 (0, 0)) ∧
              Below (w.heap.size + 1) (w.alloc (.cells #[.slice (some ⟨b, off, none⟩) ls.length cap] 43)) wr)
            (fun _ _ _ i _ => c.toNat - (intOf i).toNat)
          case atStart => exact ⟨0, by omega, rfl, by rw [HM0.out, List.append_nil]; exact hown2.alloc _, heap_alloc_new wi _, hb2.alloc (by omega) _⟩
          case round =>
            obtain ⟨m, hm, rfl, hown3, hk7, hb3⟩ := hrel
            have hbw3 : Below w.heap.size w wr := Aid.below_new hb3 (Nat.le_refl _)
            have hs3 := Aid.new_lt hb3
            have htab := (Aid.one (Aid.blkB hb3 (heap_alloc_new w _) (by omega))).1
            obtain ⟨z0, z1, z2, z3, _, _, _, _⟩ := Aid.four hk7
            have HK7 := Aid.Hid2.mk hk7
            clear hk7
            by_cases hlm : (m : Int) < c
            · have HHm := Aid.Hid2.mk (HH.out (f + m))
              have hcb : f + (m : Int) ≤ 1048576 := by omega
              have hms := HMS.out m
              cases hq : Q (f + m) with
              | true =>
                rw [hq] at HHm
                have HE : Aid.Hid2 (Dia.Row.prsM Q ⟨f, t, c, L⟩ (m + 1) = Dia.Row.prsM Q ⟨f, t, c, L⟩ m) := ⟨by rw [hms, hq]; simp⟩
                clear hq hms
                go_wp2_with (go_at_call 63; refine (HHm.out _ (by omega) hcb hbw3).mono ?_; rintro e w5 ⟨rfl, hb5⟩)
                go_roundw
                case rel => exact ⟨m + 1, by omega, by go_num, by rw [HE.out]; exact Aid.ownsRow_below hown3 hb5, Aid.blk hb5 HK7.out, hb3.trans (hb5.mono hs3)⟩
                case measure => simp [intOf]; omega
              | false =>
                rw [hq] at HHm
                have HE : Aid.Hid2 (Dia.Row.prsM Q ⟨f, t, c, L⟩ (m + 1) = Dia.Row.prsM Q ⟨f, t, c, L⟩ m ++ [(f + (m : Int), Dia.Row.at ⟨f, t, c, L⟩ (f + (m : Int)))]) := ⟨by rw [hms, hq]; simp⟩
                have hbig : (O1 ++ Dia.Row.prsM Q ⟨f, t, c, L⟩ m).length ≤ 1000000 := by
                  have g1 := HLJ.out
                  have g2 := HMP.out m (by show m ≤ c.toNat; omega)
                  rw [List.length_append]
                  omega
                clear hq hms
                have HATm := Aid.Hid2.mk (HAT.out (f + m))
                generalize Dia.Row.at ⟨f, t, c, L⟩ (f + (m : Int)) = sg at *
                generalize hO2 : O1 ++ Dia.Row.prsM Q ⟨f, t, c, L⟩ m = O2 at *
                have HO2 := Aid.Hid2.mk hO2
                clear hO2
                go_wp2_with (first
                  | (go_at_call 63; refine (HHm.out _ (by omega) hcb hbw3).mono ?_; rintro e w5 ⟨rfl, hb5⟩; obtain ⟨y0, y1, y2, y3, _, _, _, _⟩ := Aid.four (Aid.blk hb5 HK7.out))
                  | (go_at_call 64; refine (HATm.out _ (by omega) (by omega) (Aid.bt hbw3 hb5)).mono ?_; rintro e w6 ⟨rfl, hb6⟩; have hown6 := Aid.ownsRow_below (Aid.ownsRow_below hown3 hb5) hb6; have hb36 : Below (w.heap.size + 1) (w.alloc (.cells #[.slice (some ⟨b, off, none⟩) ls.length cap] 43)) w6 := hb3.trans ((Aid.bt hb5 hb6).mono hs3); have hs6 := Aid.new_lt hb36)
                  | (at_builtin; refine Aid.wpList_app1 (w0 := w.alloc (.cells #[.slice (some ⟨b, off, none⟩) ls.length cap] 43)) _ rfl _ _ 30 34 2 16 rfl Tryz.underlying30 i0 _ hi hz0 hz1 hz2 rfl (by decide) (w.heap.size + 1) _ _ _ #[.int .i64 (f + m), .int .i32 sg] _ rfl _ rfl hown6 hb36 hs6 rfl rfl ?_ ?_ ?_ ?_))
                · simp [Value.oneCell']
                · omega
                · omega
                · intro v' w7 hown7 hb7 hsz7 hg7
                  have hk6 := Aid.blk hb6 (Aid.blk hb5 HK7.out)
                  have hk7' : w7.heap[wi.heap.size]? = some (.cells #[.int .i64 f, .int .i32 t, .int .i64 c, .slice al L.length cl] 96 (0, 0)) := by
                    rw [hg7.block _ (Array.getElem?_eq_some_iff.1 hk6).1 (Aid.own_ne hown6 hk6 (by decide)), hk6]
                  have HK7' := Aid.Hid2.mk hk7'
                  clear hk6 hk7'
                  go_wp2
                  go_roundw
                  case rel => exact ⟨m + 1, by omega, by go_num, by
                    have e : O1 ++ Dia.Row.prsM Q ⟨f, t, c, L⟩ (m + 1) = O2 ++ [(f + (m : Int), sg)] := by rw [HE.out, ← List.append_assoc, HO2.out]
                    rw [e, Dia.flat_snoc]
                    simpa using hown7, HK7'.out, hb7⟩
                  case measure => simp [intOf]; omega
            · obtain rfl : (m : Int) = c := by omega
              have HE : Aid.Hid2 (O1 ++ Dia.Row.prsM Q ⟨f, t, (m : Int), L⟩ m = O1 ++ Dia.Row.prs Q ⟨f, t, (m : Int), L⟩) := ⟨by rw [← HMA.out]; simp only [Int.toNat_natCast]⟩
              go_wp2
              go_roundw
              case rel => exact ⟨j + 1, by omega, by go_num, by
                have e : O0 ++ Dia.prsRows Q (rs.take (j + 1)) = O1 ++ Dia.Row.prsM Q ⟨f, t, (m : Int), L⟩ m := by rw [HE.out, HSJ.out, ← List.append_assoc, HO1.out]
                rw [e]
                exact hown3, hb3⟩
              case measure => simp [intOf]; omega
        · have e : O0 ++ Dia.prsRows Q (rs.take j) = Dia.prsTo ls (k + 1) := by rw [HSU.out, List.take_of_length_le (by omega : rs.length ≤ j)]
          rw [e] at hown2
          clear e
          go_wp2
          go_roundw
          case rel => exact ⟨k + 1, by omega, by go_num, hown2, hb2⟩
          case measure => simp [intOf]; omega
    · obtain rfl : k = ls.length := by omega
      have e : Dia.prsTo ls ls.length = Dia.prs ls := rfl
      rw [e] at hown
      clear e HPRE
      have hown' := hown
      have hs0 := Aid.new_lt hb
      rcases hown'.2 with ⟨rfl, h0⟩ | ⟨g, vcap, cur, rfl, hg, hh, hnc, hmc, _, _⟩
      · have HN : Aid.Hid2 (Dia.prs ls = []) := ⟨List.length_eq_zero_iff.1 h0⟩
        clear hown hown' h0
        go_wp2_with (go_at_call 58; refine (Tryz.c_sort_none _ _ _ _).mono ?_; rintro e w' ⟨rfl, rfl⟩)
        go_ret
        exact ⟨_, [], rfl, ⟨by rw [HN.out], List.Pairwise.nil⟩, World.ownsRow_nil _ _ _ _, hbw⟩
      · have HS := Aid.Hid2.mk (Tryz.c_sort g vcap (w.heap.size + 1) (Dia.prs ls) wo (by omega) hown)
        clear hown hown' hh
        go_wp2_with (go_at_call 58; refine (HS.out).mono ?_; rintro e w' ⟨l', rfl, hp, hs, hown2, hg2⟩)
        go_ret
        refine ⟨_, l', rfl, ⟨hp, hs⟩, ?_, hbw.grown hg2 (by omega) (fun k hk => by cases hk; omega)⟩
        rw [hp.length_eq]
        exact Aid.ownsRow_base hown2 (by omega)

set_option maxRecDepth 100000 in
theorem Tryz.c_Size (a : Option Addr) (ls : List (List Dia.Row)) (cap : Nat) (w : World) (hlv : Dia.LevelsAt w a ls) (hok : ∀ rs ∈ ls, ∀ r ∈ rs, r.Ok) (hcap : ls.length ≤ cap) (hn : ls.length ≤ 1000000) (hn2 : ∀ rs ∈ ls, rs.length ≤ 1000000) (hlen : (Dia.prs ls).length ≤ 1000000) :
    Calls Tryz.prog 68 #[Dia.tabv a ls.length cap] w fun e w' => e = .returned (.int .i64 (Dia.prs ls).length) ∧ Below w.heap.size w w' := by
  have HP : Aid.Hid2 (∀ w1, Below w.heap.size w w1 → Calls Tryz.prog 28 #[.agg #[.slice a ls.length cap]] w1 fun e w' => Tryz.IsPairs (fun l => l.Perm (Dia.prs ls) ∧ l.Pairwise fun a b => a.1 ≤ b.1) w1 w' e) :=
    ⟨fun w1 hb => Tryz.c_Pairs a ls cap w1 (hlv.below hb) hok hcap hn hn2 hlen⟩
  unfold Dia.tabv
  go_enter Tryz.func68, Tryz.ntmps68
  go_wp2_with (go_at_call 28; refine (HP.out _ (Aid.b1 _ _)).mono ?_; rintro e w1 ⟨v, l, rfl, ⟨hp, _⟩, hown, hb1⟩; obtain ⟨va, vc, rfl⟩ := Aid.own_val hown)
  go_ret
  exact ⟨Dia.ret_i (by rw [hp.length_eq]), Aid.below_new (hb1.mono (by simp)) (Nat.le_refl _)⟩
end Go.Proofs
