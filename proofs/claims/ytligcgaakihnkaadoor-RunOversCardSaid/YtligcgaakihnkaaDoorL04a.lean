/- tables as the laws see them: by their pairs -/
import Derived.Test.YtligcgaakihnkaaDoorL04
namespace Go.Proofs
open Go.RowKit

/-- a table that isn't great, and its pairs -/
structure Dia.Tab (ls : List (List Dia.Row)) (l : List (Int × Int)) : Prop where
  wf : Dia.WF ls
  tab : Dia.IsTab ls l
  n : ls.length ≤ 1000
  n2 : ∀ rs ∈ ls, rs.length ≤ 1000
  len : l.length ≤ 100000
def Dia.fwdl (l : List (Int × Int)) (c : Int) : Int × Bool := match l.find? (fun q => q.1 == c) with | some q => (q.2, true) | none => (0, false)
def Dia.revl (l : List (Int × Int)) (p : Int) : Int × Bool := match l.find? (fun q => q.2 == p) with | some q => (q.1, true) | none => (0, false)
theorem Dia.newL_len : ∀ (ps : List Dia.Piece) (rs : List Dia.Row) (i : Int), (Dia.newL rs i ps).1.length ≤ rs.length + ps.length
  | [], rs, i => by simp [Dia.newL]
  | p :: ps, rs, i => by
    unfold Dia.newL
    split
    · simp
    · split
      · refine Nat.le_trans (Dia.newL_len ps _ _) ?_
        simp
        omega
      · simp
theorem Dia.madeL_len : ∀ (ps : List Dia.Piece) (l : List (Int × Int)) (i : Int), (∀ p ∈ ps, Dia.good p = true) → (Dia.madeL l i ps).1.length ≤ l.length + 300 * ps.length
  | [], l, i, _ => by simp [Dia.madeL]
  | p :: ps, l, i, hg => by
    unfold Dia.madeL
    split
    · simp
    · rename_i more hm
      have h1 := Dia.rpiece_len (hg p (by simp)) hm
      split
      · simp
      · rename_i l' hl
        have h2 := Dia.rjoin_len hl
        refine Nat.le_trans (Dia.madeL_len ps _ _ (fun q hq => hg q (by simp [hq]))) ?_
        simp
        omega
theorem Dia.tab_made {ps : List Dia.Piece} (hg : ∀ p ∈ ps, Dia.good p = true) (hn : ps.length ≤ 12) : Dia.Tab (Dia.lv (Dia.newL [] 0 ps)) (Dia.madeL [] 0 ps).1 := by
  obtain ⟨h1, h2, h3⟩ := Dia.made_ok ps
  have h4 := Dia.newL_len ps [] 0
  have h5 := Dia.madeL_len ps [] 0 hg
  refine ⟨h2, h3, ?_, ?_, ?_⟩
  · unfold Dia.lv; split <;> simp
  · intro rs hrs
    unfold Dia.lv at hrs
    split at hrs
    · rw [List.mem_singleton] at hrs
      subst hrs
      simp at h4
      omega
    · simp at hrs
  · simp at h5
    omega
theorem Dia.tab_over {ls ms : List (List Dia.Row)} {l m : List (Int × Int)} (h1 : Dia.Tab ls l) (h2 : Dia.Tab ms m) (hn : ls.length + ms.length ≤ 1000) (hl : l.length + m.length ≤ 100000) : Dia.Tab (ls ++ ms) (Dia.rover l m) where
  wf := Dia.wf_append h1.wf h2.wf
  tab := Dia.over_tab h1.wf h2.wf h1.tab h2.tab
  n := by rw [List.length_append]; exact hn
  n2 rs hrs := by
    rcases List.mem_append.1 hrs with h | h
    · exact h1.n2 rs h
    · exact h2.n2 rs h
  len := by
    have := Dia.over_len l m l
    unfold Dia.rover
    omega
/-- a table in memory -/
structure Dia.T (w : World) (a : Option Addr) (cap : Nat) (ls : List (List Dia.Row)) (l : List (Int × Int)) : Prop where
  lev : Dia.LevelsAt w a ls
  cap' : ls.length ≤ cap
  nil : a = none → cap = 0
  tab : Dia.Tab ls l
theorem Dia.T.below {w w' : World} {a : Option Addr} {cap : Nat} {ls : List (List Dia.Row)} {l : List (Int × Int)} (h : Dia.T w a cap ls l) (hb : Below w.heap.size w w') : Dia.T w' a cap ls l :=
  ⟨h.lev.below hb, h.cap', h.nil, h.tab⟩

theorem Dia.T.set {w : World} {a : Option Addr} {cap : Nat} {ls : List (List Dia.Row)} {l : List (Int × Int)} {k j : Nat} {T : TypeId} {u : Value} (h : Dia.T w a cap ls l) (hk : Aid.Tag w k T) (g0 : T ≠ 56) (g1 : T ≠ 59) (g2 : T ≠ 21) :
    Dia.T (w.setCell ⟨k, j, none⟩ u) a cap ls l := ⟨h.lev.set hk g0 g1 g2, h.cap', h.nil, h.tab⟩

theorem Tryd.t_Forward {a : Option Addr} {cap : Nat} {ls : List (List Dia.Row)} {l : List (Int × Int)} (c : Int) (w : World) (h : Dia.T w a cap ls l) (hc : -9223372036854775808 ≤ c ∧ c ≤ 9223372036854775807) :
    Calls Tryd.prog 14 #[.agg #[.slice a ls.length cap], .int .i64 c] w fun e w' => e = .returned (.tuple #[.int .i32 (Dia.fwdl l c).1, .bool (Dia.fwdl l c).2]) ∧ Below w.heap.size w w' := by
  have h1 := Tryd.c_Forward a ls cap c w h.lev h.tab.wf.ok (by have := h.tab.n; omega) (fun rs hrs => by have := h.tab.n2 rs hrs; omega) hc
  rw [Dia.fwd_tab h.tab.tab] at h1
  exact h1
theorem Tryd.t_Reverse' {a : Option Addr} {cap : Nat} {ls : List (List Dia.Row)} {l : List (Int × Int)} (p : Int) (w : World) (h : Dia.T w a cap ls l) :
    Calls Tryd.prog 16 #[.agg #[.slice a ls.length cap], .int .i32 p] w fun e w' => e = .returned (.tuple #[.int .i64 (Dia.revl l p).1, .bool (Dia.revl l p).2]) ∧ Below w.heap.size w w' := by
  have h1 := Tryd.c_Reverse a ls cap p w h.lev h.tab.wf.ok h.cap' (by have := h.tab.n; omega) (fun rs hrs => by have := h.tab.n2 rs hrs; omega)
  rw [Dia.rev_tab h.tab.tab h.tab.wf.ok] at h1
  exact h1
theorem Tryd.t_Reverse {a : Option Addr} {cap : Nat} {ls : List (List Dia.Row)} {l : List (Int × Int)} (p : Int) (w : World) (h : Dia.T w a cap ls l) (_hp : -2147483648 ≤ p ∧ p ≤ 2147483647) :
    Calls Tryd.prog 16 #[.agg #[.slice a ls.length cap], .int .i32 p] w fun e w' => e = .returned (.tuple #[.int .i64 (Dia.revl l p).1, .bool (Dia.revl l p).2]) ∧ Below w.heap.size w w' := Tryd.t_Reverse' p w h
theorem Dia.Tab.prs_len {ls : List (List Dia.Row)} {l : List (Int × Int)} (h : Dia.Tab ls l) : (Dia.prs ls).length = l.length := h.tab.2.length_eq.symm
theorem Tryd.t_Size {a : Option Addr} {cap : Nat} {ls : List (List Dia.Row)} {l : List (Int × Int)} (w : World) (h : Dia.T w a cap ls l) :
    Calls Tryd.prog 11 #[.agg #[.slice a ls.length cap]] w fun e w' => e = .returned (.int .i64 l.length) ∧ Below w.heap.size w w' := by
  have h1 := Tryd.c_Size a ls cap w h.lev h.tab.wf.ok h.cap' (by have := h.tab.n; omega) (fun rs hrs => by have := h.tab.n2 rs hrs; omega) (by rw [h.tab.prs_len]; have := h.tab.len; omega)
  rw [h.tab.prs_len] at h1
  exact h1
/-- pairs are handed back, in memory of the call's own -/
def Tryd.IsPS (l : List (Int × Int)) (w w' : World) (e : Ending) : Prop :=
  ∃ (va : Option Addr) (vc : Nat), e = .returned (.slice va l.length vc) ∧ w'.ownsRow w.heap.size 53 2 (.slice va l.length vc) l.length (l.flatMap Dia.pcells) ∧ Below w.heap.size w w'
theorem Tryd.t_Pairs {a : Option Addr} {cap : Nat} {ls : List (List Dia.Row)} {l : List (Int × Int)} (w : World) (h : Dia.T w a cap ls l) :
    Calls Tryd.prog 21 #[.agg #[.slice a ls.length cap]] w fun e w' => Tryd.IsPS l w w' e := by
  have h1 := Tryd.c_Pairs a ls cap w h.lev h.tab.wf.ok h.cap' (by have := h.tab.n; omega) (fun rs hrs => by have := h.tab.n2 rs hrs; omega) (by rw [h.tab.prs_len]; have := h.tab.len; omega)
  refine h1.mono fun e w' ⟨v, l', he, ⟨hp, hs⟩, hown, hb⟩ => ?_
  have hl : l' = l := Dia.rise_unique (Dia.rise_of hs hp (Dia.prs_nodup ls h.tab.wf)) h.tab.tab.1 (hp.trans h.tab.tab.2.symm)
  subst hl
  obtain ⟨va, vc, rfl⟩ := Aid.own_val hown
  exact ⟨va, vc, he, hown, hb⟩
/-- a table is handed back -/
def Dia.IsT (ls : List (List Dia.Row)) (l : List (Int × Int)) (w w' : World) (e : Ending) : Prop :=
  ∃ (a : Option Addr) (cap : Nat), e = .returned (.agg #[.slice a ls.length cap]) ∧ Dia.T w' a cap ls l ∧ Below w.heap.size w w'
theorem Tryd.t_Over {a b : Option Addr} {ca cb : Nat} {ls ms : List (List Dia.Row)} {l m : List (Int × Int)} (w : World) (h1 : Dia.T w a ca ls l) (h2 : Dia.T w b cb ms m) (hn : ls.length + ms.length ≤ 1000) (hl : l.length + m.length ≤ 100000) :
    Calls Tryd.prog 20 #[.agg #[.slice a ls.length ca], .agg #[.slice b ms.length cb]] w fun e w' => Dia.IsT (ls ++ ms) (Dia.rover l m) w w' e :=
  (Tryd.c_Over a b ls ms ca cb w h1.lev h2.lev h1.nil h2.nil (by omega) (by omega)).mono fun e w' ⟨x, c, he, g1, g2, g3, g4⟩ =>
    ⟨x, c, he, ⟨g3, g1, g2, Dia.tab_over h1.tab h2.tab hn hl⟩, g4⟩
/-- New hands back a table of pieces, or a fault -/
def Dia.IsN (ps : List Dia.Piece) (w w' : World) (e : Ending) : Prop :=
  ∃ (a : Option Addr) (cap : Nat) (A B : Int), e = .returned (.tuple #[.agg #[.slice a (Dia.lv (Dia.newL [] 0 ps)).length cap], .agg #[.int .i64 A, .int .i64 B]]) ∧ Dia.T w' a cap (Dia.lv (Dia.newL [] 0 ps)) (Dia.madeL [] 0 ps).1 ∧
    ((Dia.madeL [] 0 ps).2 < 0 → A = 0 ∧ B = 0) ∧ (0 ≤ (Dia.madeL [] 0 ps).2 → A = 5 ∧ B = (Dia.madeL [] 0 ps).2) ∧ Below w.heap.size w w'
theorem Tryd.t_New (a : Option Addr) (ps : List Dia.Piece) (cap : Nat) (w : World) (hps : Dia.PiecesAt w a ps) (hin : ∀ p ∈ ps, p.In) (hg : ∀ p ∈ ps, Dia.good p = true) (hn : ps.length ≤ 12) (hT : Tryd.Tabs w) :
    Calls Tryd.prog 9 #[.slice a ps.length cap] w fun e w' => Dia.IsN ps w w' e :=
  (Tryd.c_New a ps cap w hps hin (by omega) hT).mono fun e w' ⟨x, c, A, B, he, g1, g2, g3, g4, g5, g6⟩ => by
    have h := (Dia.made_ok ps).1
    rw [← h] at g4 g5
    exact ⟨x, c, A, B, he, ⟨g3, g1, g2, Dia.tab_made hg hn⟩, g4, g5, g6⟩

set_option maxRecDepth 100000 in
set_option maxHeartbeats 2000000 in
theorem Tryd.c_Is {a b : Option Addr} {ca : Nat} {ls : List (List Dia.Row)} {l m : List (Int × Int)} (cb : Nat) (w : World) (h : Dia.T w a ca ls l) (hm : Dia.PairsAt w b m) (hml : m.length ≤ 100000) :
    Calls Tryd.prog 13 #[.agg #[.slice a ls.length ca], .slice b m.length cb] w fun e w' => e = .returned (.bool (decide (l = m))) ∧ Below w.heap.size w w' := by
  have HP : Aid.Hid2 (∀ w1, Below w.heap.size w w1 → Calls Tryd.prog 21 #[.agg #[.slice a ls.length ca]] w1 fun e w' => Tryd.IsPS l w1 w' e) := ⟨fun w1 hb => Tryd.t_Pairs w1 (h.below hb)⟩
  have HS : Aid.Hid2 (∀ w1, Below w.heap.size w w1 → Calls Tryd.prog 11 #[.agg #[.slice a ls.length ca]] w1 fun e w' => e = .returned (.int .i64 l.length) ∧ Below w1.heap.size w1 w') := ⟨fun w1 hb => Tryd.t_Size w1 (h.below hb)⟩
  have hll := h.tab.len
  clear h
  by_cases hlen : l.length = m.length
  · have hne : ((l.length : Int) != (m.length : Int)) = false := by rw [hlen]; simp
    have HLEN := Aid.Hid2.mk hlen
    have hle : l.length ≤ m.length := by omega
    have hge : m.length ≤ l.length := by omega
    clear hlen
    go_enter Tryd.func13, Tryd.ntmps13
    go_wp2_with (first
      | (go_at_call 21; refine (HP.out _ (Aid.b1 _ _)).mono ?_; rintro e w1 ⟨va, vc, rfl, hown, hb1⟩; have k0 := Aid.blk hb1 (heap_alloc_new w _); obtain ⟨p0, p0f⟩ := Aid.one k0; have hb1' : Below w.heap.size w w1 := Aid.below_new (hb1.mono (by simp)) (Nat.le_refl _))
      | (go_at_call 11; refine (HS.out _ hb1').mono ?_; rintro e w2 ⟨rfl, hb2⟩))
    have hpl := Dia.pairsAt_own hown
    go_loopw [6, 7, 24] (fun _ _ i wr => ∃ k : Nat, k ≤ l.length ∧ i = .int .i64 k ∧ l.take k = m.take k ∧ Below w1.heap.size w1 wr) (fun _ _ i _ => l.length - (intOf i).toNat)
    case atStart => exact ⟨0, Nat.zero_le _, rfl, rfl, hb2⟩
    case round =>
      obtain ⟨k, hk, rfl, htake, hb⟩ := hrel
      have HT := Aid.Hid2.mk htake
      clear htake
      have hbw : Below w.heap.size w wr := Aid.bt hb1' hb
      have hbs := hb.size
      by_cases hlt : k < l.length
      · have hlm : k < m.length := by omega
        obtain ⟨b1, off1, rfl, x0, x1⟩ := (hpl.below hb).get hlt
        obtain ⟨b2, off2, rfl, y0, y1⟩ := (hm.below hbw).get hlm
        have t1 := Aid.Hid2.mk (Dia.take_snoc l k hlt)
        have t2 := Aid.Hid2.mk (Dia.take_snoc m k hlm)
        have e1 : Aid.Hid2 (l[k]? = some l[k]) := ⟨List.getElem?_eq_getElem hlt⟩
        have e2 : Aid.Hid2 (m[k]? = some m[k]) := ⟨List.getElem?_eq_getElem hlm⟩
        generalize l[k] = p at *
        generalize m[k] = q at *
        obtain ⟨p1, p2⟩ := p
        obtain ⟨q1, q2⟩ := q
        simp only at x0 x1 y0 y1
        have z := Aid.two (heap_alloc_new wr (.cells #[.int .i64 p1, .int .i32 p2] 53))
        obtain ⟨z0, z1, _, _⟩ := z
        have y0' := Aid.cell_ext (Aid.b1 wr (.cells #[.int .i64 p1, .int .i32 p2] 53)) y0
        have y1' := Aid.cell_ext (Aid.b1 wr (.cells #[.int .i64 p1, .int .i32 p2] 53)) y1
        have hi1 : (k : Int) < (l.length : Int) := by omega
        have hi2 : (k : Int) < (m.length : Int) := by omega
        have HNE : Aid.Hid2 (((p1, p2) : Int × Int) ≠ (q1, q2) → decide (l = m) = false) := ⟨fun h1 => decide_eq_false (fun h2 => h1 (by
          have h3 := e1.out
          rw [h2, e2.out] at h3
          exact (Option.some.inj h3).symm))⟩
        by_cases hq : p1 = q1
        · by_cases hq2 : p2 = q2
          · have g1 : (p1 != q1) = false := by simpa using hq
            have g2 : (p2 != q2) = false := by simpa using hq2
            have HT2 : Aid.Hid2 (l.take (k + 1) = m.take (k + 1)) := ⟨by rw [t1.out, t2.out, HT.out, hq, hq2]⟩
            clear hq hq2
            go_wp2_with fail
            go_quiet (fail)
            go_wp2
            go_roundw
            case rel => exact ⟨k + 1, by omega, by go_num, HT2.out, below_drewN (hb.alloc hbs _) _⟩
            case measure => simp [intOf]; omega
          · have g1 : (p1 != q1) = false := by simpa using hq
            have g2 : (p2 != q2) = true := by simpa using hq2
            have HF := Aid.Hid2.mk (HNE.out (by intro h; cases h; exact hq2 rfl))
            clear hq hq2
            go_wp2_with fail
            go_quiet (fail)
            go_wp2
            go_ret
            exact ⟨Dia.ret_b HF.out.symm, below_drewN (hbw.alloc (by have := hb1'.size; omega) _) _⟩
        · have g1 : (p1 != q1) = true := by simpa using hq
          have HF := Aid.Hid2.mk (HNE.out (by intro h; cases h; exact hq rfl))
          clear hq
          go_wp2_with fail
          go_quiet (fail)
          go_wp2
          go_ret
          exact ⟨Dia.ret_b HF.out.symm, below_drewN (hbw.alloc (by have := hb1'.size; omega) _) _⟩
      · have e : l = m := by
          have h1 : l.take k = l := List.take_of_length_le (by omega)
          have h2 : m.take k = m := List.take_of_length_le (by omega)
          rw [← h1, ← h2]; exact HT.out
        have HE := Aid.Hid2.mk (decide_eq_true e)
        clear e
        go_wp2
        go_ret
        exact ⟨Dia.ret_b HE.out.symm, hbw⟩
  · have hne : ((l.length : Int) != (m.length : Int)) = true := by simp; omega
    have HF : Aid.Hid2 (decide (l = m) = false) := ⟨decide_eq_false (fun h => hlen (by rw [h]))⟩
    clear hlen
    go_enter Tryd.func13, Tryd.ntmps13
    go_wp2_with (first
      | (go_at_call 21; refine (HP.out _ (Aid.b1 _ _)).mono ?_; rintro e w1 ⟨va, vc, rfl, hown, hb1⟩; have k0 := Aid.blk hb1 (heap_alloc_new w _); obtain ⟨p0, p0f⟩ := Aid.one k0; have hb1' : Below w.heap.size w w1 := Aid.below_new (hb1.mono (by simp)) (Nat.le_refl _)))
    go_ret
    exact ⟨Dia.ret_b HF.out.symm, hb1'⟩
end Go.Proofs
