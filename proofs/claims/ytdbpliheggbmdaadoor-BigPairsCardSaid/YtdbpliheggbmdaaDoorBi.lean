/- walks of big5: Pairs -/
import Derived.Test.YtdbpliheggbmdaaDoorBh
import Derived.Laws.OwnMore
namespace Go.Proofs
open Go.RowKit

def Dia.bcd (q : Int × Int) : Int × Int := (Dia.bcode q.1, q.2)
def Dia.curL (k : Nat) (l : List (Int × Int)) : List (Int × Int) := (l.take k).map Dia.bcd ++ l.drop k
theorem Dia.curL_len (k : Nat) (l : List (Int × Int)) : (Dia.curL k l).length = l.length := by simp [Dia.curL]; omega
theorem Dia.curL_zero (l : List (Int × Int)) : Dia.curL 0 l = l := rfl
theorem Dia.curL_all (l : List (Int × Int)) : Dia.curL l.length l = l.map Dia.bcd := by simp [Dia.curL]
theorem Dia.curL_get (k : Nat) (l : List (Int × Int)) (h : k < l.length) : (Dia.curL k l)[k]? = some l[k] := by
  unfold Dia.curL
  rw [List.getElem?_append_right (by simp; omega)]
  simp only [List.length_map, List.length_take]
  rw [Nat.min_eq_left (by omega), Nat.sub_self, List.getElem?_drop]
  simp [h]
theorem Dia.curL_set (k : Nat) (l : List (Int × Int)) (h : k < l.length) : (Dia.curL k l).set k (Dia.bcd l[k]) = Dia.curL (k + 1) l := by
  unfold Dia.curL
  have h1 : ((l.take k).map Dia.bcd).length = k := by simp; omega
  rw [List.set_append_right _ _ (by omega), h1, Nat.sub_self, List.drop_eq_getElem_cons h, List.set_cons_zero, List.take_succ_eq_append_getElem h, List.map_append, List.append_assoc]
  rfl
theorem Dia.pcells_set : ∀ (l : List (Int × Int)) (k : Nat) (c : Int) (h : k < l.length), (l.flatMap Dia.pcells).set (k * 2) (.int .i64 c) = (l.set k (c, l[k].2)).flatMap Dia.pcells
  | q :: l, 0, c, _ => by simp [Dia.pcells]
  | q :: l, k + 1, c, h => by
    have ih := Dia.pcells_set l k c (by simpa using h)
    have e : (k + 1) * 2 = k * 2 + 2 := by omega
    rw [e]
    simp only [List.flatMap_cons, List.set_cons_succ, List.getElem_cons_succ]
    rw [← ih]
    simp [Dia.pcells]
theorem Aid.own_base {w : World} {B B' : Nat} {e : TypeId} {sz : Nat} {v : Value} {n : Nat} {xs : List Value} (h : w.ownsRow B e sz v n xs) (hB : B' ≤ B) : w.ownsRow B' e sz v n xs :=
  ⟨h.1, h.2.imp id fun ⟨g, cap, cur, a, hb, r⟩ => ⟨g, cap, cur, a, Nat.le_trans hB hb, r⟩⟩
theorem Dia.bigL_pos : 0 < Dia.bigL.length := by decide +kernel
set_option maxRecDepth 100000 in
set_option maxHeartbeats 1000000 in
theorem Tryd.c_bPairs (w : World) (hT : Tryd.Tabs w) :
    Calls Tryd.prog 13 #[] w fun e w' => Tryd.IsPS (Dia.bigL.map Dia.bcd) w w' e := by
  have HTB := Aid.Hid2.mk (Tryd.c_btable w hT)
  have HBD := Aid.Hid2.mk Dia.bigL_bd
  have hlen : Dia.bigL.length ≤ 100000 := Dia.big_len
  have hpos : 0 < Dia.bigL.length := Dia.bigL_pos
  generalize Dia.bigL = L at *
  go_enter Tryd.func13, Tryd.ntmps13
  go_wp2_with fail
  refine HTB.out.mono ?_
  rintro e w1 ⟨ls, hl1, x, cp, rfl, ht, hb1⟩
  go_wp2_with fail
  refine (Tryd.t_Pairs _ ht).mono ?_
  rintro e w2 ⟨va, vc, rfl, hown, hb2⟩
  have hB2 := Aid.bt hb1 hb2
  clear hb2 ht
  rcases hown.2 with ⟨hv, _⟩ | ⟨g, cap, cur, hv, _, _, hnc, _⟩
  · have h0 : L.length = 0 := by
      simp only [Value.slice.injEq] at hv
      exact hv.2.1
    omega
  · simp only [Value.slice.injEq] at hv
    obtain ⟨rfl, _, rfl⟩ := hv
    have hmx : w.heap.size ≤ w1.heap.size := hb1.size
    have hg : w.heap.size ≤ g := by
      have := (hown.lt g rfl).1
      omega
    clear hb1
    go_wp2_with fail
    go_loopw [2, 7] (fun _ i wr => ∃ k : Nat, k ≤ L.length ∧ i = .int .i64 k ∧ wr.ownsRow w1.heap.size 41 2 (.slice (some ⟨g, 0, none⟩) L.length vc) L.length ((Dia.curL k L).flatMap Dia.pcells) ∧ Below w.heap.size w wr)
      (fun _ i _ => L.length - (intOf i).toNat)
    case atStart => exact ⟨0, Nat.zero_le _, rfl, hown, hB2⟩
    case round =>
      obtain ⟨k, hk, rfl, ho, hb⟩ := hrel
      by_cases hlt : k < L.length
      · have hc : wr.cell? ⟨g, k * 2, none⟩ = some (.int .i64 L[k].1) := by
          rw [ho.cellAt (k * 2) (by omega)]
          exact Aid.flat_get Dia.pcells 2 Dia.pcells_len (Dia.curL k L) k 0 L[k] _ (Dia.curL_get k L hlt) rfl
        have hf := ho.frozenAt (k * 2)
        have hbd := HBD.out _ (List.getElem_mem hlt)
        have HS := Aid.Hid2.mk (ho.stored (k * 2) (.int .i64 (Dia.bcode L[k].1)))
        rw [Dia.pcells_set _ _ _ (by rw [Dia.curL_len]; exact hlt)] at HS
        have e2 : ((Dia.curL k L)[k]'(by rw [Dia.curL_len]; exact hlt)).2 = L[k].2 := by
          have := Dia.curL_get k L hlt
          rw [List.getElem?_eq_getElem (by rw [Dia.curL_len]; exact hlt)] at this
          exact congrArg Prod.snd (Option.some.inj this)
        rw [e2] at HS
        have e3 := Dia.curL_set k L hlt
        unfold Dia.bcd at e3
        rw [e3] at HS
        clear e2 e3
        have HCD : Aid.Hid2 (∀ w1, Calls Tryd.prog 27 #[.int .i64 L[k].1] w1 fun e w' => e = .returned (.int .i64 (Dia.bcode L[k].1)) ∧ w1 = w') := ⟨fun w1 => Tryd.c_bcode _ w1 ⟨by omega, by omega⟩⟩
        generalize Dia.bcode L[k].1 = c at *
        generalize L[k].1 = p at *
        go_wp2_with fail
        refine (HCD.out _).mono ?_
        rintro e w3 ⟨rfl, rfl⟩
        go_wp2
        go_roundw
        case rel => exact ⟨k + 1, by omega, by go_num, HS.out.1, hb.setCell (by omega) _⟩
        case measure => simp [intOf]; omega
      · obtain rfl : k = L.length := by omega
        rw [Dia.curL_all] at ho
        go_wp2
        go_ret
        have hl : (L.map Dia.bcd).length = L.length := List.length_map _
        refine ⟨some ⟨g, 0, none⟩, vc, ?_, ?_, hb⟩
        · rw [hl]; rfl
        · rw [hl]; exact Aid.own_base ho hmx
end Go.Proofs
