/- walks of the fourth layer's reference: Find, Reverse, Put, Join, Over -/
import Derived.Test.YtligcgaakihnkaaDoorN12
import Derived.BigQuiet
import Derived.Deep.QuietTactic
namespace Go.Proofs
open Go.RowKit

/-- pairs in memory -/
def Dia.PairsAt (w : World) (a : Option Addr) (l : List (Int × Int)) : Prop :=
  l = [] ∨ ∃ b off, a = some ⟨b, off, none⟩ ∧ ∀ k q, l[k]? = some q → w.cell? ⟨b, off + k * 2, none⟩ = some (.int .i64 q.1) ∧ w.cell? ⟨b, off + k * 2 + 1, none⟩ = some (.int .i32 q.2)
theorem Dia.PairsAt.below {w w' : World} {a : Option Addr} {l : List (Int × Int)} (h : Dia.PairsAt w a l) (hb : Below w.heap.size w w') : Dia.PairsAt w' a l := by
  rcases h with h | ⟨b, off, ha, h⟩
  · exact .inl h
  · exact .inr ⟨b, off, ha, fun k q hk => ⟨Aid.cell_ext hb (h k q hk).1, Aid.cell_ext hb (h k q hk).2⟩⟩
theorem Dia.PairsAt.get {w : World} {a : Option Addr} {l : List (Int × Int)} (h : Dia.PairsAt w a l) {k : Nat} (hk : k < l.length) :
    ∃ b off, a = some ⟨b, off, none⟩ ∧ w.cell? ⟨b, off + k * 2, none⟩ = some (.int .i64 l[k].1) ∧ w.cell? ⟨b, off + k * 2 + 1, none⟩ = some (.int .i32 l[k].2) := by
  rcases h with h | ⟨b, off, ha, h⟩
  · subst h; simp at hk
  · exact ⟨b, off, ha, h k _ (List.getElem?_eq_getElem hk)⟩
theorem Dia.pairsAt_own {w : World} {B : Nat} {e : TypeId} {a : Option Addr} {m cap n : Nat} {l : List (Int × Int)} (h : w.ownsRow B e 2 (.slice a m cap) n (l.flatMap Dia.pcells)) : Dia.PairsAt w a l := by
  rcases h.2 with ⟨h1, h0⟩ | ⟨g, cap', cur, h1, _⟩
  · left
    have hl := h.1
    rw [Aid.flat_len Dia.pcells 2 Dia.pcells_len, h0] at hl
    exact List.length_eq_zero_iff.1 (by omega)
  · cases h1
    refine .inr ⟨g, 0, rfl, fun k q hk => ?_⟩
    have c := fun j v hj => h.cells (g := g) rfl (k * 2 + j) v (Aid.flat_get Dia.pcells 2 Dia.pcells_len l k j q v hk hj)
    have hp : ∀ j, (⟨g, 0, none⟩ : Addr).add j = ⟨g, 0 + j, none⟩ := by intro j; unfold Addr.add; split <;> simp_all
    have c0 := c 0 (.int .i64 q.1) rfl
    have c1 := c 1 (.int .i32 q.2) rfl
    rw [hp] at c0 c1
    exact ⟨c0, c1⟩
theorem Dia.rfind_at {l : List (Int × Int)} {c : Int} {k : Nat} (hk : k < l.length) (h1 : ∀ q ∈ l.take k, q.1 ≠ c) (h2 : l[k].1 = c) : Dia.rfind l c = k := by
  have hf : l.findIdx? (fun q => q.1 == c) = some k := by
    rw [List.findIdx?_eq_some_iff_getElem]
    refine ⟨hk, by simpa using h2, fun j hj => ?_⟩
    have : l[j] ∈ l.take k := by
      have hj2 : j < (l.take k).length := by rw [List.length_take]; omega
      have := List.getElem_mem hj2
      simpa using this
    simpa using h1 _ this
  unfold Dia.rfind
  rw [hf]
theorem Dia.rfind_no {l : List (Int × Int)} {c : Int} (h1 : ∀ q ∈ l, q.1 ≠ c) : Dia.rfind l c = -1 := Dia.rfind_none ((Dia.find_iff c).2 h1)
theorem Dia.rfind_bd (l : List (Int × Int)) (c : Int) : -1 ≤ Dia.rfind l c ∧ Dia.rfind l c < (l.length : Int) ∨ l = [] ∧ Dia.rfind l c = -1 := by
  unfold Dia.rfind
  cases h : l.findIdx? (fun q => q.1 == c) with
  | none =>
    by_cases hl : l = []
    · exact .inr ⟨hl, rfl⟩
    · left
      have : 0 < l.length := by cases l with | nil => exact absurd rfl hl | cons => simp
      simp only
      omega
  | some i =>
    obtain ⟨h1, _⟩ := List.findIdx?_eq_some_iff_getElem.1 h
    left
    simp only
    omega

set_option maxRecDepth 100000 in
theorem Tryd.c_rFind (a : Option Addr) (l : List (Int × Int)) (cap : Nat) (c : Int) (w : World) (hl : Dia.PairsAt w a l) (hn : l.length ≤ 1000000) :
    Calls Tryd.prog 15 #[.slice a l.length cap, .int .i64 c] w fun e w' => e = .returned (.int .i64 (Dia.rfind l c)) ∧ w = w' := by
  go_enter Tryd.func15, Tryd.ntmps15
  go_wp2
  go_loop [5] (fun i => ∃ k : Nat, k ≤ l.length ∧ i = .int .i64 k ∧ ∀ q ∈ l.take k, q.1 ≠ c) (fun i => l.length - (intOf i).toNat)
  case atStart => exact ⟨0, Nat.zero_le _, rfl, by simp⟩
  case round =>
    obtain ⟨k, hk, rfl, hne⟩ := hrel
    have HNE := Aid.Hid2.mk hne
    clear hne
    by_cases hlt : k < l.length
    · obtain ⟨b, off, rfl, h0, h1⟩ := hl.get hlt
      have HT := Aid.Hid2.mk (Dia.take_snoc l k hlt)
      have HF := Aid.Hid2.mk (Dia.rfind_at (c := c) hlt HNE.out)
      generalize l[k] = q at *
      obtain ⟨q1, q2⟩ := q
      simp only at h0 h1 HF
      by_cases hq : q1 = c
      · subst hq
        have HF2 := Aid.Hid2.mk (HF.out rfl)
        go_wp2
        go_ret
        exact ⟨Dia.ret_i HF2.out.symm, rfl⟩
      · have hqq : (q1 == c) = false := by simpa using hq
        have HQ := Aid.Hid2.mk hq
        clear hq
        go_wp2
        go_round
        case rel => exact ⟨k + 1, by omega, by go_num, by
          rw [HT.out]
          intro x hx
          rcases List.mem_append.1 hx with hx | hx
          · exact HNE.out x hx
          · rw [List.mem_singleton.1 hx]; exact HQ.out⟩
        case measure => simp [intOf]; omega
    · have e : l.take k = l := List.take_of_length_le (by omega)
      have hne := HNE.out
      rw [e] at hne
      have HF := Aid.Hid2.mk (Dia.rfind_no hne)
      clear hne e
      go_wp2
      go_ret
      exact ⟨Dia.ret_i HF.out.symm, rfl⟩

theorem Dia.rrev_at {l : List (Int × Int)} {p : Int} {k : Nat} (hk : k < l.length) (h1 : ∀ q ∈ l.take k, q.2 ≠ p) (h2 : l[k].2 = p) : Dia.rrev l p = l[k].1 := by
  have e : l = l.take k ++ l[k] :: l.drop (k + 1) := by rw [← List.drop_eq_getElem_cons hk, List.take_append_drop]
  have hf : l.find? (fun q => q.2 == p) = some l[k] := by
    rw [List.find?_eq_some_iff_append]
    exact ⟨by simpa using h2, l.take k, l.drop (k + 1), e, fun q hq => by simpa using h1 q hq⟩
  unfold Dia.rrev
  rw [hf]
theorem Dia.rrev_no {l : List (Int × Int)} {p : Int} (h1 : ∀ q ∈ l, q.2 ≠ p) : Dia.rrev l p = -1 := by
  unfold Dia.rrev
  have hf : l.find? (fun q => q.2 == p) = none := by
    rw [List.find?_eq_none]
    intro q hq
    simpa using h1 q hq
  rw [hf]
set_option maxRecDepth 100000 in
theorem Tryd.c_rReverse (a : Option Addr) (l : List (Int × Int)) (cap : Nat) (p : Int) (w : World) (hl : Dia.PairsAt w a l) (hn : l.length ≤ 1000000) :
    Calls Tryd.prog 17 #[.slice a l.length cap, .int .i32 p] w fun e w' => e = .returned (.int .i64 (Dia.rrev l p)) ∧ w = w' := by
  go_enter Tryd.func17, Tryd.ntmps17
  go_wp2
  go_loop [5] (fun i => ∃ k : Nat, k ≤ l.length ∧ i = .int .i64 k ∧ ∀ q ∈ l.take k, q.2 ≠ p) (fun i => l.length - (intOf i).toNat)
  case atStart => exact ⟨0, Nat.zero_le _, rfl, by simp⟩
  case round =>
    obtain ⟨k, hk, rfl, hne⟩ := hrel
    have HNE := Aid.Hid2.mk hne
    clear hne
    by_cases hlt : k < l.length
    · obtain ⟨b, off, rfl, h0, h1⟩ := hl.get hlt
      have HT := Aid.Hid2.mk (Dia.take_snoc l k hlt)
      have HF := Aid.Hid2.mk (Dia.rrev_at (p := p) hlt HNE.out)
      generalize l[k] = q at *
      obtain ⟨q1, q2⟩ := q
      simp only at h0 h1 HF
      by_cases hq : q2 = p
      · subst hq
        have HF2 := Aid.Hid2.mk (HF.out rfl)
        go_wp2
        go_ret
        exact ⟨Dia.ret_i HF2.out.symm, rfl⟩
      · have hqq : (q2 == p) = false := by simpa using hq
        have HQ := Aid.Hid2.mk hq
        clear hq
        go_wp2
        go_round
        case rel => exact ⟨k + 1, by omega, by go_num, by
          rw [HT.out]
          intro x hx
          rcases List.mem_append.1 hx with hx | hx
          · exact HNE.out x hx
          · rw [List.mem_singleton.1 hx]; exact HQ.out⟩
        case measure => simp [intOf]; omega
    · have e : l.take k = l := List.take_of_length_le (by omega)
      have hne := HNE.out
      rw [e] at hne
      have HF := Aid.Hid2.mk (Dia.rrev_no hne)
      clear hne e
      go_wp2
      go_ret
      exact ⟨Dia.ret_i HF.out.symm, rfl⟩

/-- the document's pairs are handed back -/
def Dia.IsRP (l : List (Int × Int)) (w w' : World) (e : Ending) : Prop := ∃ (a : Option Addr) (cap : Nat), e = .returned (.slice a l.length cap) ∧ Dia.PairsAt w' a l ∧ Below w.heap.size w w'
theorem Tryd.info_rp : (Tryd.prog.info? 42).map (fun i => (i.zero, i.size, i.bytes)) = some (some (.agg #[.int .i64 0, .int .i32 0]), 2, 16) := by kernel_rfl
theorem Dia.pstep_len (p : Int × Int) : ∀ (l : List (Int × Int)) (s : List (Int × Int) × Bool), (l.foldl (Dia.pstep p) s).1.length ≤ s.1.length + l.length + 1 ∧ (s.2 = true → (l.foldl (Dia.pstep p) s).1.length = s.1.length + l.length)
  | [], s => by simp
  | x :: l, s => by
    rw [List.foldl_cons]
    obtain ⟨h1, h2⟩ := Dia.pstep_len p l (Dia.pstep p s x)
    obtain ⟨o, d⟩ := s
    cases d
    · by_cases h : p.1 < x.1
      · have e : Dia.pstep p (o, false) x = (o ++ [p, x], true) := by simp [Dia.pstep, h]
        rw [e] at h1 h2 ⊢
        have := h2 rfl
        simp at *
        omega
      · have e : Dia.pstep p (o, false) x = (o ++ [x], false) := by simp [Dia.pstep, h]
        rw [e] at h1 h2 ⊢
        simp at *
        omega
    · have e : Dia.pstep p (o, true) x = (o ++ [x], true) := by simp [Dia.pstep]
      rw [e] at h1 h2 ⊢
      have := h2 rfl
      simp at *
      omega

set_option maxRecDepth 100000 in
set_option maxHeartbeats 2000000 in
theorem Tryd.c_rPut (a : Option Addr) (l : List (Int × Int)) (cap : Nat) (q : Int × Int) (w : World) (hl : Dia.PairsAt w a l) (hn : l.length ≤ 1000000) :
    Calls Tryd.prog 30 #[.slice a l.length cap, .agg #[.int .i64 q.1, .int .i32 q.2]] w fun e w' => Dia.IsRP (Dia.rput l q) w w' e := by
  obtain ⟨i0, hi, hz0, hz1, hz2⟩ := info_parts Tryd.info_rp
  go_enter Tryd.func30, Tryd.ntmps30
  go_wp2
  go_loopw [5, 6, 7] (fun v d i wr => ∃ k : Nat, k ≤ l.length ∧ i = .int .i64 k ∧ d = .bool ((l.take k).foldl (Dia.pstep q) ([], false)).2 ∧
      wr.ownsRow (w.heap.size + 1) 42 2 v ((l.take k).foldl (Dia.pstep q) ([], false)).1.length (((l.take k).foldl (Dia.pstep q) ([], false)).1.flatMap Dia.pcells) ∧
      Below (w.heap.size + 1) (w.alloc (.cells #[.int .i64 q.1, .int .i32 q.2] 42)) wr)
    (fun _ _ i _ => l.length - (intOf i).toNat)
  case atStart => exact ⟨0, Nat.zero_le _, rfl, rfl, World.ownsRow_nil _ _ _ _, Below.refl _ _⟩
  case round =>
    obtain ⟨k, hk, rfl, rfl, hown, hb⟩ := hrel
    have hbw : Below w.heap.size w wr := Aid.below_new hb (Nat.le_refl _)
    have hs0 := Aid.new_lt hb
    obtain ⟨p0, p1, p0f, p1f⟩ := Aid.two (Aid.blkB hb (heap_alloc_new w _) (by omega))
    have hpl := (Dia.pstep_len q (l.take k) ([], false)).1
    rw [List.length_take] at hpl
    by_cases hlt : k < l.length
    · obtain ⟨b, off, rfl, h0w, h1w⟩ := hl.get hlt
      have h0 := Aid.cell_ext hbw h0w
      have h1 := Aid.cell_ext hbw h1w
      have HS := Aid.Hid2.mk (Dia.fold_snoc (Dia.pstep q) ([], false) l k hlt)
      generalize (l.take k).foldl (Dia.pstep q) ([], false) = S at *
      obtain ⟨o, d⟩ := S
      simp only at hown hpl
      simp only [List.length_nil] at hpl
      generalize l[k] = x at *
      obtain ⟨x1, x2⟩ := x
      obtain ⟨q1, q2⟩ := q
      simp only at h0 h1 p0 p1 h0w h1w
      have hlt' : (k : Int) < (l.length : Int) := by omega
      cases d with
      | true =>
        have HE : Aid.Hid2 ((l.take (k + 1)).foldl (Dia.pstep (q1, q2)) ([], false) = (o ++ [(x1, x2)], true)) := ⟨by rw [HS.out]; simp [Dia.pstep]⟩
        clear HS
        go_wp2_with fail
        go_quiet (fail)
        go_wp2_with (at_builtin; refine Aid.wpList_app1 (w0 := w.alloc (.cells #[.int .i64 q1, .int .i32 q2] 42)) _ rfl _ _ 33 42 2 16 rfl Tryd.underlying33 i0 _ hi hz0 hz1 hz2 rfl (by decide) (w.heap.size + 1) _ _ _ #[.int .i64 x1, .int .i32 x2] _ rfl _ rfl hown (below_drewN hb _) hs0 rfl rfl ?_ ?_ ?_ ?_)
        · simp [Value.oneCell']
        · omega
        · omega
        · intro v' w5 hown5 hb5 hsz5 _
          go_wp2
          go_roundw
          case rel => exact ⟨k + 1, by omega, by go_num, by rw [HE.out], by rw [HE.out, Dia.flat_snoc]; simpa using hown5, hb5⟩
          case measure => simp [intOf]; omega
      | false =>
        by_cases hqx : q1 < x1
        · have HE : Aid.Hid2 ((l.take (k + 1)).foldl (Dia.pstep (q1, q2)) ([], false) = (o ++ [(q1, q2)] ++ [(x1, x2)], true)) := ⟨by rw [HS.out]; simp [Dia.pstep, hqx]⟩
          clear HS
          go_wp2_with fail
          go_quiet (fail)
          go_wp2_with (at_builtin; refine Aid.wpList_app1 (w0 := w.alloc (.cells #[.int .i64 q1, .int .i32 q2] 42)) _ rfl _ _ 33 42 2 16 rfl Tryd.underlying33 i0 _ hi hz0 hz1 hz2 rfl (by decide) (w.heap.size + 1) _ _ _ #[.int .i64 q1, .int .i32 q2] _ rfl _ rfl hown (below_drewN hb _) hs0 rfl rfl ?_ ?_ ?_ ?_)
          · simp [Value.oneCell']
          · omega
          · omega
          · intro v' w5 hown5 hb5 hsz5 _
            have g0 := Aid.cell_ext (Aid.below_new hb5 (Nat.le_refl _)) h0w
            have g1 := Aid.cell_ext (Aid.below_new hb5 (Nat.le_refl _)) h1w
            rw [← Dia.flat_snoc o (q1, q2)] at hown5
            go_wp2_with (at_builtin; refine Aid.wpList_app1 (w0 := w.alloc (.cells #[.int .i64 q1, .int .i32 q2] 42)) _ rfl _ _ 33 42 2 16 rfl Tryd.underlying33 i0 _ hi hz0 hz1 hz2 rfl (by decide) (w.heap.size + 1) _ _ _ #[.int .i64 x1, .int .i32 x2] _ rfl _ rfl hown5 hb5 hsz5 rfl rfl ?_ ?_ ?_ ?_)
            · simp [Value.oneCell']
            · omega
            · omega
            · intro v7 w7 hown7 hb7 hsz7 _
              go_wp2
              go_roundw
              case rel => exact ⟨k + 1, by omega, by go_num, by rw [HE.out], by rw [HE.out, Dia.flat_snoc]; simpa using hown7, hb7⟩
              case measure => simp [intOf]; omega
        · have hd : decide (q1 < x1) = false := decide_eq_false hqx
          have HE : Aid.Hid2 ((l.take (k + 1)).foldl (Dia.pstep (q1, q2)) ([], false) = (o ++ [(x1, x2)], false)) := ⟨by rw [HS.out]; simp [Dia.pstep, hqx]⟩
          clear HS
          go_wp2_with fail
          go_quiet (fail)
          go_wp2_with (at_builtin; refine Aid.wpList_app1 (w0 := w.alloc (.cells #[.int .i64 q1, .int .i32 q2] 42)) _ rfl _ _ 33 42 2 16 rfl Tryd.underlying33 i0 _ hi hz0 hz1 hz2 rfl (by decide) (w.heap.size + 1) _ _ _ #[.int .i64 x1, .int .i32 x2] _ rfl _ rfl hown (below_drewN hb _) hs0 rfl rfl ?_ ?_ ?_ ?_)
          · simp [Value.oneCell']
          · omega
          · omega
          · intro v' w5 hown5 hb5 hsz5 _
            go_wp2
            go_roundw
            case rel => exact ⟨k + 1, by omega, by go_num, by rw [HE.out], by rw [HE.out, Dia.flat_snoc]; simpa using hown5, hb5⟩
            case measure => simp [intOf]; omega
    · have e : l.take k = l := List.take_of_length_le (by omega)
      have HR : Aid.Hid2 (Dia.rput l q = if (l.foldl (Dia.pstep q) ([], false)).2 then (l.foldl (Dia.pstep q) ([], false)).1 else (l.foldl (Dia.pstep q) ([], false)).1 ++ [q]) := ⟨rfl⟩
      rw [e] at hown hpl ⊢
      clear e
      generalize l.foldl (Dia.pstep q) ([], false) = S at *
      obtain ⟨o, d⟩ := S
      simp only at hown hpl
      simp only [List.length_nil] at hpl
      obtain ⟨q1, q2⟩ := q
      simp only at p0 p1
      cases d with
      | true =>
        have HR2 : Aid.Hid2 (Dia.rput l (q1, q2) = o) := ⟨by rw [HR.out]; rfl⟩
        obtain ⟨va, vc, rfl⟩ := Aid.own_val hown
        go_wp2
        go_ret
        exact ⟨va, vc, by rw [HR2.out]; rfl, by rw [HR2.out]; exact Dia.pairsAt_own hown, hbw⟩
      | false =>
        have HR2 : Aid.Hid2 (Dia.rput l (q1, q2) = o ++ [(q1, q2)]) := ⟨by rw [HR.out]; rfl⟩
        go_wp2_with (at_builtin; refine Aid.wpList_app1 (w0 := w.alloc (.cells #[.int .i64 q1, .int .i32 q2] 42)) _ rfl _ _ 33 42 2 16 rfl Tryd.underlying33 i0 _ hi hz0 hz1 hz2 rfl (by decide) (w.heap.size + 1) _ _ _ #[.int .i64 q1, .int .i32 q2] _ rfl _ rfl hown hb hs0 rfl rfl ?_ ?_ ?_ ?_)
        · simp [Value.oneCell']
        · omega
        · omega
        · intro v' w5 hown5 hb5 hsz5 _
          rw [← Dia.flat_snoc o (q1, q2)] at hown5
          obtain ⟨va, vc, rfl⟩ := Aid.own_val hown5
          go_wp2
          go_ret
          exact ⟨va, vc, by rw [HR2.out]; simp, by rw [HR2.out]; exact Dia.pairsAt_own hown5, Aid.below_new hb5 (Nat.le_refl _)⟩
end Go.Proofs
