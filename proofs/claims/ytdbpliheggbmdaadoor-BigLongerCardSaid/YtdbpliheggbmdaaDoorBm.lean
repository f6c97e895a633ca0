/- the laws of layer 8, walked: BigLonger -/
import Derived.Test.YtdbpliheggbmdaaDoorBl
import Derived.Laws.AppendOwnNone
namespace Go.Proofs
open Go.RowKit

theorem Dia.rv_one (l : List Int) : ∀ u ∈ l.map Dia.rv, u.oneCell' = true := by
  intro u hu
  obtain ⟨p, _, rfl⟩ := List.mem_map.1 hu
  rfl
theorem Aid.row_add {w : World} {b off : Nat} {vals : List Value} (h : ∀ j u, vals[j]? = some u → w.cell? ⟨b, off + j, none⟩ = some u) : ∀ j u, vals[j]? = some u → w.cell? ((⟨b, off, none⟩ : Addr).add j) = some u := by
  intro j u hj
  have hp : (⟨b, off, none⟩ : Addr).add j = ⟨b, off + j, none⟩ := by unfold Addr.add; split <;> simp_all
  rw [hp]
  exact h j u hj
/-- 'append(s, x...)' of runes, s a row of the call's own, x any slice that reads as a list (nil too) -/
theorem Tryd.app_runes {w0 w : World} {ops : Array Oper} {rest : List Oper} {o : Oper} {a : Act} {Q : Exit → Act → World → Prop} (hg : o.guard = none) (s x : Operand)
    (hop : o.op = .call { callee := .builtin .append, args := #[s, x], argTypes := #[26, 26] }) (v : Value) (ys l : List Int) (ad : Option Addr) (cap : Nat)
    (hs : a.eval s = v) (hx : a.eval x = .slice ad l.length cap) (hrow : Aid.RowAt w ad (l.map Dia.rv)) (hnil : ad = none → cap = 0)
    (hown : w.ownsRow w0.heap.size 21 1 v ys.length (ys.map Dia.rv)) (hb : Below w0.heap.size w0 w) (hlen : ys.length + l.length ≤ 1000000)
    (h : ∀ v' w', w'.ownsRow w0.heap.size 21 1 v' (ys ++ l).length ((ys ++ l).map Dia.rv) → Below w0.heap.size w0 w' → wpList Tryd.prog ops Q rest (a.put o.dst v') w') : wpList Tryd.prog ops Q (o :: rest) a w := by
  obtain ⟨i0, hi, hz0, hz1, hz2⟩ := info_parts Tryd.info_i32
  cases ad with
  | none =>
    have hl : l = [] := by
      rcases hrow with h | ⟨b, off, h, _⟩
      · simpa using h
      · cases h
    subst hl
    obtain rfl := hnil rfl
    refine wpList_append_own_none hg _ _ 26 hop w0.heap.size 21 i0 1 Tryd.underlying26 hi _ _ _ hs hown hx ?_
    have := h v w (by simpa using hown) hb
    exact this
  | some ad =>
    have hcs : ∀ j u, (l.map Dia.rv)[j]? = some u → w.cell? (ad.add j) = some u := by
      rcases hrow with h | ⟨b, off, h, h2⟩
      · intro j u hj; rw [h] at hj; simp at hj
      · cases h; exact Aid.row_add h2
    refine wpList_append_own _ hg _ _ 26 hop w0.heap.size 21 i0 (.int .i32 0) 1 4 Tryd.underlying26 hi hz0 hz1 hz2 rfl (by decide) v ys.length (ys.map Dia.rv) hs hown ad l.length cap (l.map Dia.rv) hx (by simp) hcs (Dia.rv_one l) ?_ ?_ hb.size ?_
    · unfold maxLen; omega
    · omega
    · intro v' w2 hown2 hg2 _
      have hb2 : Below w0.heap.size w0 w2 := hb.grown hg2 hb.size (fun k hk => (hown.lt k hk).1)
      exact h v' w2 (by rw [List.length_append, List.map_append]; exact hown2) hb2
set_option maxRecDepth 100000 in
set_option maxHeartbeats 1000000 in
theorem Tryd.w_BigLonger (a : Option Addr) (l : List Int) (ca : Nat) (b : Option Addr) (m : List Int) (cb : Nat) (w : World) (hT : Tryd.Tabs w) (hra : Aid.RowAt w a (l.map Dia.rv)) (_hna : a = none → ca = 0) (hla : l.length ≤ 9223372036854775807) (hrb : Aid.RowAt w b (m.map Dia.rv)) (hnb : b = none → cb = 0) (hlb : m.length ≤ 9223372036854775807) :
    Calls Tryd.prog 5 #[.slice a l.length ca, .slice b m.length cb] w fun e w' => e = .returned (.bool true) ∧ Below w.heap.size w w' := by
  by_cases hc : 2 ≤ l.length ∧ l.length ≤ 50 ∧ m.length ≤ 50
  · obtain ⟨h2, h50, hm50⟩ := hc
    have HB : Aid.Hid2 (Calls Tryd.prog 11 #[.slice a l.length ca] w fun e w' => e = .returned (.tuple #[.string ⟨(Dia.bbytes l).1.toArray⟩, .int .i64 (Dia.bbytes l).2]) ∧ Below w.heap.size w w') := ⟨Tryd.c_bbytes a l ca w hT hra (by omega)⟩
    have HB2 : Aid.Hid2 (∀ x cx w1, Below w.heap.size w w1 → Aid.RowAt w1 x ((l ++ m).map Dia.rv) → Calls Tryd.prog 11 #[.slice x (l ++ m).length cx] w1 fun e w' => e = .returned (.tuple #[.string ⟨(Dia.bbytes l).1.toArray⟩, .int .i64 (Dia.bbytes l).2]) ∧ Below w1.heap.size w1 w') := ⟨fun x cx w1 hb hr => by
      have := Tryd.c_bbytes x (l ++ m) cx w1 (hT.below hb) hr (by simp; omega)
      rw [Dia.bbytes_app l m h2] at this
      exact this⟩
    have HB3 : Aid.Hid2 (∀ p w1, Below w.heap.size w w1 → l.getD 0 0 = p → Calls Tryd.prog 11 #[.slice (some ⟨w1.heap.size, 0, none⟩) 1 1] (w1.alloc (.cells #[.int .i32 p] 21)) fun e w' => e = .returned (.tuple #[.string ⟨(Dia.bbytes [l.getD 0 0]).1.toArray⟩, .int .i64 (Dia.bbytes [l.getD 0 0]).2]) ∧ Below w1.heap.size w1 w') := ⟨fun p w1 hb hp => by
      rw [hp]
      exact (Tryd.c_bbytes _ [p] 1 _ (hT.below (Aid.bt hb (Aid.b1 _ _))) (Aid.row_new w1 #[.int .i32 p] 21 _ rfl) (by simp)).mono fun e w' ⟨he, hb⟩ => ⟨he, Aid.bt (Aid.b1 _ _) hb⟩⟩
    have HK := Aid.Hid2.mk (Dia.bbytes_one l h2)
    obtain ⟨p, r, rfl⟩ : ∃ p r, l = p :: r := by
      cases l with
      | nil => simp at h2
      | cons p r => exact ⟨p, r, rfl⟩
    have hp0 : (p :: r).getD 0 0 = p := rfl
    rw [hp0] at HB3 HK
    have HB4 := Aid.Hid2.mk (fun w1 hb => HB3.out p w1 hb rfl)
    clear HB3 hp0
    generalize Dia.bbytes (p :: r) = D at *
    generalize Dia.bbytes [p] = D3 at *
    obtain ⟨bl, off, rfl, hcell⟩ : ∃ bl off, a = some ⟨bl, off, none⟩ ∧ ∀ j u, ((p :: r).map Dia.rv)[j]? = some u → w.cell? ⟨bl, off + j, none⟩ = some u := by
      rcases hra with h | h
      · cases h
      · exact h
    have hc0 : Aid.Hid2 (∀ w1, Below w.heap.size w w1 → w1.cell? ⟨bl, off, none⟩ = some (.int .i32 p)) := ⟨fun w1 hb => Aid.cell_ext hb (hcell 0 _ rfl)⟩
    clear hcell hla hlb
    have d1 : decide (((p :: r).length : Int) < 2) = false := decide_eq_false (by omega)
    have d2 : decide ((50 : Int) < ((p :: r).length : Int)) = false := decide_eq_false (by omega)
    have d3 : decide ((50 : Int) < (m.length : Int)) = false := decide_eq_false (by omega)
    have n0 : 0 < (p :: r).length := by omega
    have HA : Aid.Hid2 (∀ w1 : World, Below w.heap.size w w1 → Aid.RowAt w1 (some ⟨bl, off, none⟩) ((p :: r).map Dia.rv)) := ⟨fun w1 hb => hra.below hb⟩
    generalize hL : (p :: r) = L at *
    clear hL hra
    generalize hM : (L ++ m) = LM at *
    have HM := Aid.Hid2.mk hM
    clear hM
    go_enter Tryd.func5, Tryd.ntmps5
    go_wp2_with fail
    refine HB.out.mono ?_
    rintro e w1 ⟨rfl, hb1⟩
    go_wp2_with (at_builtin; refine Tryd.app_runes (w0 := w) rfl _ _ rfl (.slice none 0 0) [] L _ _ rfl rfl (HA.out _ hb1) (by intro h; cases h) (World.ownsRow_nil _ _ _ _) hb1 (by simp; omega) ?_)
    intro v2 w2 hown2 hb2
    go_wp2_with (at_builtin; refine Tryd.app_runes (w0 := w) rfl _ _ rfl _ L m _ _ rfl rfl (hrb.below hb2) hnb hown2 hb2 (by omega) ?_)
    intro v3 w3 hown3 hb3
    replace hown3 : w3.ownsRow w.heap.size 21 1 v3 LM.length (LM.map Dia.rv) := by rw [← HM.out]; simpa using hown3
    obtain ⟨x3, c3, rfl⟩ := Aid.own_val hown3
    have hr3 := Aid.own_at hown3
    clear hown2 hown3
    go_wp2_with fail
    refine (HB2.out _ _ _ hb3 hr3).mono ?_
    rintro e w4 ⟨rfl, hb4⟩
    have hB4 := Aid.bt hb3 hb4
    have hc4 := hc0.out _ hB4
    go_wp2_with fail
    refine (HB4.out _ hB4).mono ?_
    rintro e w5 ⟨rfl, hb5⟩
    have hB5 := Aid.bt hB4 hb5
    go_wp2_with fail
    refine (Tryd.c_awake08 _ (hT.below hB5)).mono ?_
    rintro e w6 ⟨rfl, hb6⟩
    have hB6 := Aid.bt hB5 hb6
    obtain ⟨ds, dn⟩ := D
    by_cases hd : dn = 2
    · subst hd
      go_wp2
      go_ret
      exact ⟨rfl, hB6⟩
    · have hk : (ds, dn) = D3 := by
        rcases HK.out with h | h
        · exact absurd h hd
        · exact h
      subst hk
      have hd' : (dn == 2) = false := by simpa using hd
      clear HK hd
      go_wp2
      go_ret
      exact ⟨rfl, hB6⟩
  · have HA : Aid.Hid2 (Calls Tryd.prog 9 #[] w fun e w' => e = .returned (.bool true) ∧ Below w.heap.size w w') := ⟨Tryd.c_awake08 w hT⟩
    generalize l.length = n at *
    generalize m.length = k at *
    by_cases h1 : n < 2
    · have d1 : decide ((n : Int) < 2) = true := decide_eq_true (by omega)
      clear hc h1
      go_enter Tryd.func5, Tryd.ntmps5
      go_wp2_with fail
      refine HA.out.mono ?_
      rintro e w1 ⟨rfl, hb1⟩
      go_wp2
      go_ret
      exact ⟨rfl, hb1⟩
    · have d1 : decide ((n : Int) < 2) = false := decide_eq_false (by omega)
      by_cases h2 : 50 < n
      · have d2 : decide ((50 : Int) < (n : Int)) = true := decide_eq_true (by omega)
        clear hc h1 h2
        go_enter Tryd.func5, Tryd.ntmps5
        go_wp2_with fail
        refine HA.out.mono ?_
        rintro e w1 ⟨rfl, hb1⟩
        go_wp2
        go_ret
        exact ⟨rfl, hb1⟩
      · have d2 : decide ((50 : Int) < (n : Int)) = false := decide_eq_false (by omega)
        have d3 : decide ((50 : Int) < (k : Int)) = true := decide_eq_true (by omega)
        clear hc h1 h2
        go_enter Tryd.func5, Tryd.ntmps5
        go_wp2_with fail
        refine HA.out.mono ?_
        rintro e w1 ⟨rfl, hb1⟩
        go_wp2
        go_ret
        exact ⟨rfl, hb1⟩
end Go.Proofs
