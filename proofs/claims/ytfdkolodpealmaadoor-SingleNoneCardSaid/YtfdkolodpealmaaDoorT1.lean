/- tables as the laws see them: by their pairs (for the seats without layer 4's laws) -/
import Derived.Test.YtfdkolodpealmaaDoorN11
import Derived.Test.YtfdkolodpealmaaDoorN12
namespace Go.Proofs
open Go.RowKit

/-- a table that isn't great, and its pairs -/
structure Dia.Tab (ls : List (List Dia.Row)) (l : List (Int × Int)) : Prop where
  wf : Dia.WF ls
  tab : Dia.IsTab ls l
  n : ls.length ≤ 1000
  n2 : ∀ rs ∈ ls, rs.length ≤ 1000
  len : l.length ≤ 100000
def Dia.fwdl (l : List (Int × Int)) (c : Int) : Int × Bool := match l.find? (fun q => q.1 == c) with | some q => (q.2, true) | none => (0, false)
def Dia.revl (l : List (Int × Int)) (p : Int) : Int × Bool := match l.find? (fun q => q.2 == p) with | some q => (q.1, true) | none => (0, false)
theorem Dia.newL_len : ∀ (ps : List Dia.Piece) (rs : List Dia.Row) (i : Int), (Dia.newL rs i ps).1.length ≤ rs.length + ps.length
  | [], rs, i => by simp [Dia.newL]
  | p :: ps, rs, i => by
    unfold Dia.newL
    split
    · simp
    · split
      · refine Nat.le_trans (Dia.newL_len ps _ _) ?_
        simp
        omega
      · simp
theorem Dia.tab_made {ps : List Dia.Piece} (hg : (Dia.madeL [] 0 ps).1.length ≤ 100000) (hn : ps.length ≤ 100) : Dia.Tab (Dia.lv (Dia.newL [] 0 ps)) (Dia.madeL [] 0 ps).1 := by
  obtain ⟨h1, h2, h3⟩ := Dia.made_ok ps
  have h4 := Dia.newL_len ps [] 0
  refine ⟨h2, h3, ?_, ?_, ?_⟩
  · unfold Dia.lv; split <;> simp
  · intro rs hrs
    unfold Dia.lv at hrs
    split at hrs
    · rw [List.mem_singleton] at hrs
      subst hrs
      simp at h4
      omega
    · simp at hrs
  · exact hg
theorem Dia.over_len (l : List (Int × Int)) : ∀ (m o : List (Int × Int)), (m.foldl (Dia.ostep l) o).length ≤ o.length + m.length
  | [], o => by simp
  | q :: m, o => by
    rw [List.foldl_cons]
    have h1 := Dia.over_len l m (Dia.ostep l o q)
    have h2 : (Dia.ostep l o q).length ≤ o.length + 1 := by
      unfold Dia.ostep
      split
      · rw [Dia.rput_len]; omega
      · omega
    simp
    omega
theorem Dia.tab_over {ls ms : List (List Dia.Row)} {l m : List (Int × Int)} (h1 : Dia.Tab ls l) (h2 : Dia.Tab ms m) (hn : ls.length + ms.length ≤ 1000) (hl : l.length + m.length ≤ 100000) : Dia.Tab (ls ++ ms) (Dia.rover l m) where
  wf := Dia.wf_append h1.wf h2.wf
  tab := Dia.over_tab h1.wf h2.wf h1.tab h2.tab
  n := by rw [List.length_append]; exact hn
  n2 rs hrs := by
    rcases List.mem_append.1 hrs with h | h
    · exact h1.n2 rs h
    · exact h2.n2 rs h
  len := by
    have := Dia.over_len l m l
    unfold Dia.rover
    omega
/-- a table in memory -/
structure Dia.T (w : World) (a : Option Addr) (cap : Nat) (ls : List (List Dia.Row)) (l : List (Int × Int)) : Prop where
  lev : Dia.LevelsAt w a ls
  cap' : ls.length ≤ cap
  nil : a = none → cap = 0
  tab : Dia.Tab ls l
theorem Dia.T.below {w w' : World} {a : Option Addr} {cap : Nat} {ls : List (List Dia.Row)} {l : List (Int × Int)} (h : Dia.T w a cap ls l) (hb : Below w.heap.size w w') : Dia.T w' a cap ls l :=
  ⟨h.lev.below hb, h.cap', h.nil, h.tab⟩

theorem Dia.T.set {w : World} {a : Option Addr} {cap : Nat} {ls : List (List Dia.Row)} {l : List (Int × Int)} {k j : Nat} {T : TypeId} {u : Value} (h : Dia.T w a cap ls l) (hk : Aid.Tag w k T) (g0 : T ≠ 86) (g1 : T ≠ 88) (g2 : T ≠ 21) :
    Dia.T (w.setCell ⟨k, j, none⟩ u) a cap ls l := ⟨h.lev.set hk g0 g1 g2, h.cap', h.nil, h.tab⟩

theorem Tryd.t_Forward {a : Option Addr} {cap : Nat} {ls : List (List Dia.Row)} {l : List (Int × Int)} (c : Int) (w : World) (h : Dia.T w a cap ls l) (hc : -9223372036854775808 ≤ c ∧ c ≤ 9223372036854775807) :
    Calls Tryd.prog 29 #[.agg #[.slice a ls.length cap], .int .i64 c] w fun e w' => e = .returned (.tuple #[.int .i32 (Dia.fwdl l c).1, .bool (Dia.fwdl l c).2]) ∧ Below w.heap.size w w' := by
  have h1 := Tryd.c_Forward a ls cap c w h.lev h.tab.wf.ok (by have := h.tab.n; omega) (fun rs hrs => by have := h.tab.n2 rs hrs; omega) hc
  rw [Dia.fwd_tab h.tab.tab] at h1
  exact h1
theorem Tryd.t_Reverse' {a : Option Addr} {cap : Nat} {ls : List (List Dia.Row)} {l : List (Int × Int)} (p : Int) (w : World) (h : Dia.T w a cap ls l) :
    Calls Tryd.prog 32 #[.agg #[.slice a ls.length cap], .int .i32 p] w fun e w' => e = .returned (.tuple #[.int .i64 (Dia.revl l p).1, .bool (Dia.revl l p).2]) ∧ Below w.heap.size w w' := by
  have h1 := Tryd.c_Reverse a ls cap p w h.lev h.tab.wf.ok h.cap' (by have := h.tab.n; omega) (fun rs hrs => by have := h.tab.n2 rs hrs; omega)
  rw [Dia.rev_tab h.tab.tab h.tab.wf.ok] at h1
  exact h1
theorem Tryd.t_Reverse {a : Option Addr} {cap : Nat} {ls : List (List Dia.Row)} {l : List (Int × Int)} (p : Int) (w : World) (h : Dia.T w a cap ls l) (_hp : -2147483648 ≤ p ∧ p ≤ 2147483647) :
    Calls Tryd.prog 32 #[.agg #[.slice a ls.length cap], .int .i32 p] w fun e w' => e = .returned (.tuple #[.int .i64 (Dia.revl l p).1, .bool (Dia.revl l p).2]) ∧ Below w.heap.size w w' := Tryd.t_Reverse' p w h
theorem Dia.Tab.prs_len {ls : List (List Dia.Row)} {l : List (Int × Int)} (h : Dia.Tab ls l) : (Dia.prs ls).length = l.length := h.tab.2.length_eq.symm
theorem Tryd.t_Size {a : Option Addr} {cap : Nat} {ls : List (List Dia.Row)} {l : List (Int × Int)} (w : World) (h : Dia.T w a cap ls l) :
    Calls Tryd.prog 10 #[.agg #[.slice a ls.length cap]] w fun e w' => e = .returned (.int .i64 l.length) ∧ Below w.heap.size w w' := by
  have h1 := Tryd.c_Size a ls cap w h.lev h.tab.wf.ok h.cap' (by have := h.tab.n; omega) (fun rs hrs => by have := h.tab.n2 rs hrs; omega) (by rw [h.tab.prs_len]; have := h.tab.len; omega)
  rw [h.tab.prs_len] at h1
  exact h1
/-- pairs are handed back, in memory of the call's own -/
def Tryd.IsPS (l : List (Int × Int)) (w w' : World) (e : Ending) : Prop :=
  ∃ (va : Option Addr) (vc : Nat), e = .returned (.slice va l.length vc) ∧ w'.ownsRow w.heap.size 64 2 (.slice va l.length vc) l.length (l.flatMap Dia.pcells) ∧ Below w.heap.size w w'
theorem Tryd.t_Pairs {a : Option Addr} {cap : Nat} {ls : List (List Dia.Row)} {l : List (Int × Int)} (w : World) (h : Dia.T w a cap ls l) :
    Calls Tryd.prog 27 #[.agg #[.slice a ls.length cap]] w fun e w' => Tryd.IsPS l w w' e := by
  have h1 := Tryd.c_Pairs a ls cap w h.lev h.tab.wf.ok h.cap' (by have := h.tab.n; omega) (fun rs hrs => by have := h.tab.n2 rs hrs; omega) (by rw [h.tab.prs_len]; have := h.tab.len; omega)
  refine h1.mono fun e w' ⟨v, l', he, ⟨hp, hs⟩, hown, hb⟩ => ?_
  have hl : l' = l := Dia.rise_unique (Dia.rise_of hs hp (Dia.prs_nodup ls h.tab.wf)) h.tab.tab.1 (hp.trans h.tab.tab.2.symm)
  subst hl
  obtain ⟨va, vc, rfl⟩ := Aid.own_val hown
  exact ⟨va, vc, he, hown, hb⟩
/-- a table is handed back -/
def Dia.IsT (ls : List (List Dia.Row)) (l : List (Int × Int)) (w w' : World) (e : Ending) : Prop :=
  ∃ (a : Option Addr) (cap : Nat), e = .returned (.agg #[.slice a ls.length cap]) ∧ Dia.T w' a cap ls l ∧ Below w.heap.size w w'
theorem Tryd.t_Over {a b : Option Addr} {ca cb : Nat} {ls ms : List (List Dia.Row)} {l m : List (Int × Int)} (w : World) (h1 : Dia.T w a ca ls l) (h2 : Dia.T w b cb ms m) (hn : ls.length + ms.length ≤ 1000) (hl : l.length + m.length ≤ 100000) :
    Calls Tryd.prog 25 #[.agg #[.slice a ls.length ca], .agg #[.slice b ms.length cb]] w fun e w' => Dia.IsT (ls ++ ms) (Dia.rover l m) w w' e :=
  (Tryd.c_Over a b ls ms ca cb w h1.lev h2.lev h1.nil h2.nil (by omega) (by omega)).mono fun e w' ⟨x, c, he, g1, g2, g3, g4⟩ =>
    ⟨x, c, he, ⟨g3, g1, g2, Dia.tab_over h1.tab h2.tab hn hl⟩, g4⟩
/-- New hands back a table of pieces, or a fault -/
def Dia.IsN (ps : List Dia.Piece) (w w' : World) (e : Ending) : Prop :=
  ∃ (a : Option Addr) (cap : Nat) (A B : Int), e = .returned (.tuple #[.agg #[.slice a (Dia.lv (Dia.newL [] 0 ps)).length cap], .agg #[.int .i64 A, .int .i64 B]]) ∧ Dia.T w' a cap (Dia.lv (Dia.newL [] 0 ps)) (Dia.madeL [] 0 ps).1 ∧
    ((Dia.madeL [] 0 ps).2 < 0 → A = 0 ∧ B = 0) ∧ (0 ≤ (Dia.madeL [] 0 ps).2 → A = 5 ∧ B = (Dia.madeL [] 0 ps).2) ∧ Below w.heap.size w w'
theorem Tryd.t_New (a : Option Addr) (ps : List Dia.Piece) (cap : Nat) (w : World) (hps : Dia.PiecesAt w a ps) (hin : ∀ p ∈ ps, p.In) (hg : (Dia.madeL [] 0 ps).1.length ≤ 100000) (hn : ps.length ≤ 100) (hT : Tryd.Tabs w) :
    Calls Tryd.prog 38 #[.slice a ps.length cap] w fun e w' => Dia.IsN ps w w' e :=
  (Tryd.c_New a ps cap w hps hin (by omega) hT).mono fun e w' ⟨x, c, A, B, he, g1, g2, g3, g4, g5, g6⟩ => by
    have h := (Dia.made_ok ps).1
    rw [← h] at g4 g5
    exact ⟨x, c, A, B, he, ⟨g3, g1, g2, Dia.tab_made hg hn⟩, g4, g5, g6⟩

end Go.Proofs
