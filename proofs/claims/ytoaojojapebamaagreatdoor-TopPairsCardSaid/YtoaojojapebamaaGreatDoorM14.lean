/- walks of run: hidden; walks of run: Reverse -/
import Derived.Test.YtoaojojapebamaaGreatDoorM13
import Derived.Test.YtoaojojapebamaaGreatDoorShelf2
namespace Go.Proofs
open Go.RowKit

/-- a row that may be, and where its signs lie -/
structure Dia.YRow where
  x : Dia.XRow
  ok : x.row.Ok
instance : Inhabited Dia.YRow := ⟨⟨⟨⟨0, 0, 1, []⟩, none, 0⟩, ⟨by decide, by decide, by decide, fun _ => by decide, fun _ => by decide, fun h => absurd rfl h⟩⟩⟩
def Dia.YRow.enc (y : Dia.YRow) : List Value := y.x.cells

set_option maxRecDepth 100000 in
theorem Tryz.pred_hidden (code : Int) (B : Nat) (w : World) (hB : B < w.heap.size) (hcell : w.cell? ⟨B, 0, none⟩ = some (.int .i64 code)) (hcode : -9223372036854775808 ≤ code ∧ code ≤ 9223372036854775807) :
    PredBelow Tryz.prog 97 #[.pointer (some ⟨B, 0, none⟩)] (fun y : Dia.YRow => .agg (Dia.YRow.enc y).toArray) (fun y => y.x.row.has code) w := fun W y hb => by
  have hc : W.cell? ⟨B, 0, none⟩ = some (.int .i64 code) := (hb.cell (p := ⟨B, 0, none⟩) hB).trans hcell
  obtain ⟨⟨⟨f, t, c, L⟩, al, cl⟩, ho⟩ := y
  have o1 := ho.f0
  have o2 := ho.f1
  have o3 := ho.c0
  simp only at o1 o2 o3
  have hHas : Aid.Hid2 (∀ w, Calls Tryz.prog 90 #[.agg #[.int .i64 f, .int .i32 t, .int .i64 c, .slice al L.length cl], .int .i64 code] w fun e w' => e = .returned (.bool (Dia.Row.has ⟨f, t, c, L⟩ code)) ∧ Below w.heap.size w w') :=
    ⟨fun w => Tryz.c_has f t c code _ w ⟨o1, by omega⟩ ⟨by omega, by omega⟩ hcode⟩
  have hb' : Below w.heap.size w (W.alloc (.cells #[.int .i64 f, .int .i32 t, .int .i64 c, .slice al L.length cl] 96)) := hb.alloc hb.size _
  have hc2 := Aid.cell_ext (Aid.b1 W (.cells #[.int .i64 f, .int .i32 t, .int .i64 c, .slice al L.length cl] 96)) hc
  have hsz := hb.size
  show Calls Tryz.prog 97 #[.agg #[.int .i64 f, .int .i32 t, .int .i64 c, .slice al L.length cl], .pointer (some ⟨B, 0, none⟩)] W _
  go_enter Tryz.func97, Tryz.ntmps97
  go_wp2_with (go_at_call 90; refine (hHas.out _).mono ?_; rintro e w3 ⟨rfl, hb3⟩)
  go_ret
  exact ⟨rfl, hb'.trans (hb3.mono (by simp; omega))⟩

set_option maxRecDepth 100000 in
theorem Tryz.c_index_none (a : Option Addr) (c : Nat) (fv : Value) (w : World) :
    Calls Tryz.prog 120 #[.slice a 0 c, fv] w fun e w' => e = .returned (.int .i64 (-1)) ∧ w = w' := by
  go_enter Tryz.func120, Tryz.ntmps120
  go_wp2
  go_loop [5, 8] (fun _ i => i = .int .i64 0) (fun _ _ => 0)
  case atStart => rfl
  case round =>
    subst hrel
    go_wp2
    go_ret
    exact ⟨rfl, rfl⟩
set_option maxRecDepth 100000 in
theorem Tryz.c_contains_none (a : Option Addr) (c : Nat) (fv : Value) (w : World) :
    Calls Tryz.prog 96 #[.slice a 0 c, fv] w fun e w' => e = .returned (.bool false) ∧ w = w' := by
  go_enter Tryz.func96, Tryz.ntmps96
  go_wp2_with (go_at_call 120; refine (Tryz.c_index_none _ _ _ _).mono ?_; rintro e w3 ⟨rfl, rfl⟩)
  go_ret
  exact ⟨rfl, rfl⟩

theorem Dia.hid_snoc (a : List (List Dia.Row)) (rs : List Dia.Row) (c : Int) : Dia.hid (a ++ [rs]) c = (Dia.hid a c || rs.any fun r => r.has c) := by simp [Dia.hid]
theorem Tryz.c_contains (ar : Option Addr) (rs : List Dia.Row) (cr : Nat) (code : Int) (B : Nat) (w : World) (hrows : Dia.RowsAt w ar rs) (hok : ∀ r ∈ rs, r.Ok) (hn : rs.length ≤ 1000000) (hB : B < w.heap.size) (hcell : w.cell? ⟨B, 0, none⟩ = some (.int .i64 code))
    (hcode : -9223372036854775808 ≤ code ∧ code ≤ 9223372036854775807) :
    Calls Tryz.prog 96 #[.slice ar rs.length cr, .func (.func 97) #[] #[.pointer (some ⟨B, 0, none⟩)]] w fun e w' => e = .returned (.bool (rs.any fun r => r.has code)) ∧ Below w.heap.size w w' := by
  obtain ⟨X, rfl, h⟩ := hrows
  rcases h with rfl | ⟨b, off, rfl, _, h⟩
  · exact (Tryz.c_contains_none ar cr _ w).mono fun e w' ⟨h1, h2⟩ => ⟨h1, by rw [h2]; exact Below.refl _ _⟩
  · by_cases he : X = []
    · subst he
      exact (Tryz.c_contains_none _ cr _ w).mono fun e w' ⟨h1, h2⟩ => ⟨h1, by rw [h2]; exact Below.refl _ _⟩
    · obtain ⟨Y, hY⟩ : ∃ Y : List Dia.YRow, Y.map (·.x) = X := ⟨X.attach.map fun x => ⟨x.1, hok x.1.row (List.mem_map_of_mem x.2)⟩, by
        show List.map _ (List.map _ X.attach) = X
        rw [List.map_map]
        exact List.attach_map_subtype_val X⟩
      have hYl : Y.length = X.length := by have := congrArg List.length hY; rwa [List.length_map] at this
      have hb : b < w.heap.size := by
        cases X with
        | nil => exact absurd rfl he
        | cons x X => exact World.block_lt_of_cell? w _ ((h 0 x rfl).1 0 _ rfl)
      have eg : ∀ args w, (callFunc 97 args).run Tryz.prog w = .ok (.enter 97 args) w := enters_of Tryz.func97 (by kernel_rfl) rfl
      have hcon := AnyQ.slices_ContainsFunc Tryz.contRow 4 Tryz.isAgg96 Tryz.sizeOf96 Dia.YRow.enc (fun _ => rfl) (fun y => y.x.row.has code) 97 #[.pointer (some ⟨B, 0, none⟩)] eg b off Y.length cr Y w
        (Tryz.pred_hidden code B w hB hcell hcode) (Nat.le_refl _) (by rw [hYl]; rw [List.length_map] at hn; omega) hb (fun j hj i v hv => by
          have hj' : j < X.length := by rw [← hYl]; exact hj
          have e : (Y[j]!).x = X[j] := by
            rw [getElem!_pos Y j hj]
            have h1 : (Y.map (·.x))[j]? = X[j]? := by rw [hY]
            rw [List.getElem?_map, List.getElem?_eq_getElem hj, List.getElem?_eq_getElem hj'] at h1
            simpa using h1
          unfold Dia.YRow.enc at hv
          rw [e] at hv
          exact (h j _ (List.getElem?_eq_getElem hj')).1 i v hv)
      change Calls Tryz.prog 96 _ _ _ at hcon
      have e1 : (Y.take Y.length).any (fun y => y.x.row.has code) = (X.map (·.row)).any fun r => r.has code := by
        have e2 : X.map (·.row) = Y.map fun y => y.x.row := by rw [← hY, List.map_map]; rfl
        rw [List.take_length, e2, List.any_map]
        rfl
      rw [e1, hYl] at hcon
      rw [List.length_map]
      exact hcon

set_option maxRecDepth 100000 in
set_option maxHeartbeats 1000000 in
theorem Tryz.c_hidden (a : Option Addr) (ls : List (List Dia.Row)) (cap first : Nat) (code : Int) (w : World) (hlv : Dia.LevelsAt w a ls) (hok : ∀ rs ∈ ls, ∀ r ∈ rs, r.Ok) (hne : ls ≠ []) (hcap : ls.length ≤ cap) (hf : first ≤ ls.length) (hn : ls.length ≤ 1000000) (hn2 : ∀ rs ∈ ls, rs.length ≤ 1000000)
    (hcode : -9223372036854775808 ≤ code ∧ code ≤ 9223372036854775807) :
    Calls Tryz.prog 63 #[Dia.tabv a ls.length cap, .int .i64 first, .int .i64 code] w fun e w' => e = .returned (.bool (Dia.hid (ls.take first) code)) ∧ Below w.heap.size w w' := by
  unfold Dia.tabv
  obtain ⟨b0, off0, rfl⟩ : ∃ b off, a = some ⟨b, off, none⟩ := by
    rcases hlv with h | ⟨b, off, h, _⟩
    · exact absurd h hne
    · exact ⟨b, off, h⟩
  clear hne
  have hfc : first ≤ cap := by omega
  have hfi : (first : Int) ≤ (cap : Int) := by omega
  have hf0 : (0 : Int) ≤ (first : Int) := by omega
  go_enter Tryz.func63, Tryz.ntmps63
  go_wp2
  go_loopw [8, 14] (fun _ i wr => ∃ k : Nat, k ≤ first ∧ i = .int .i64 k ∧ Dia.hid (ls.take k) code = false ∧ Below (w.heap.size + 2) ((w.alloc (.cells #[.slice (some ⟨b0, off0, none⟩) ls.length cap] 43)).alloc (.cells #[.int .i64 code] 3)) wr)
    (fun _ i _ => first - (intOf i).toNat)
  case atStart => exact ⟨0, Nat.zero_le _, rfl, rfl, Below.refl _ _⟩
  case round =>
    obtain ⟨k, hk, rfl, hh, hb⟩ := hrel
    obtain ⟨hbw, hs0⟩ := Aid.b2w hb
    have HH := Aid.Hid2.mk hh
    clear hh
    by_cases hlt : k < first
    · have hkl : k < ls.length := by omega
      have HT : Aid.Hid2 (Dia.hid (ls.take (k + 1)) code = (ls[k]).any fun r => r.has code) := ⟨by
        rw [Dia.take_snoc ls k hkl, Dia.hid_snoc, HH.out, Bool.false_or]⟩
      have HA : Aid.Hid2 ((ls[k]).any (fun r => r.has code) = true → Dia.hid (ls.take first) code = true) := ⟨fun h => by
        have e : ls.take first = ls.take (k + 1) ++ (ls.take first).drop (k + 1) := by
          have := (List.take_append_drop (k + 1) (ls.take first)).symm
          rw [List.take_take, Nat.min_eq_left (by omega)] at this
          exact this
        rw [e, Dia.hid_append, HT.out, h, Bool.true_or]⟩
      obtain ⟨b, off, ar, cr, hab, hcell, hrows⟩ := (hlv.below hbw).get hkl
      simp only [Option.some.injEq, Addr.mk.injEq, and_true] at hab
      obtain ⟨rfl, rfl⟩ := hab
      have kc := Aid.blkB hb (Aid.heap2 _ _ _).2 (by omega)
      have HC : Aid.Hid2 (Calls Tryz.prog 96 #[.slice ar ls[k].length cr, .func (.func 97) #[] #[.pointer (some ⟨w.heap.size + 1, 0, none⟩)]] wr fun e w' => e = .returned (.bool ((ls[k]).any fun r => r.has code)) ∧ Below wr.heap.size wr w') :=
        ⟨Tryz.c_contains ar ls[k] cr code (w.heap.size + 1) wr hrows (hok _ (List.getElem_mem _)) (hn2 _ (List.getElem_mem _)) (by omega) (Aid.one kc).1 hcode⟩
      clear hrows kc
      generalize ls[k] = rs at *
      cases hq : rs.any (fun r => r.has code) with
      | true =>
        rw [hq] at HC
        have HA2 := Aid.Hid2.mk (HA.out hq)
        clear hq
        go_wp2_with (go_at_call 96; refine (HC.out).mono ?_; rintro e w3 ⟨rfl, hb3⟩)
        go_ret
        rw [HA2.out]
        exact ⟨rfl, Aid.bt hbw hb3⟩
      | false =>
        rw [hq] at HC
        rw [hq] at HT
        clear hq HA
        go_wp2_with (go_at_call 96; refine (HC.out).mono ?_; rintro e w3 ⟨rfl, hb3⟩)
        go_roundw
        case rel => exact ⟨k + 1, by omega, by go_num, HT.out, hb.trans (hb3.mono hs0)⟩
        case measure => simp [intOf]; omega
    · obtain rfl : k = first := by omega
      go_wp2
      go_ret
      rw [HH.out]
      exact ⟨rfl, hbw⟩
end Go.Proofs
namespace Go.Proofs
open Go.RowKit

theorem Dia.fold_snoc {α β : Type} (f : β → α → β) (s : β) (l : List α) (k : Nat) (h : k < l.length) : (l.take (k + 1)).foldl f s = f ((l.take k).foldl f s) l[k] := by
  rw [Dia.take_snoc l k h, List.foldl_append]; rfl
theorem Dia.revTo_succ (ls : List (List Dia.Row)) (p : Int) (i : Nat) (h : i < ls.length) : Dia.revTo ls p (i + 1) = ls[i].foldl (Dia.revRow (Dia.hid (ls.take i)) p) (Dia.revTo ls p i) := by
  simp only [Dia.revTo, List.getD_eq_getElem?_getD, List.getElem?_eq_getElem h, Option.getD_some]
theorem Dia.code_in {r : Dia.Row} (ho : r.Ok) {p c : Int} (h : c ∈ r.codes p) : 0 ≤ c ∧ c ≤ 1048576 := by
  rw [Dia.codes_eq r ho, List.mem_filter] at h
  have h1 := (r.mem_cs c).1 h.1
  have := ho.f0
  have := ho.f1
  simp only [Dia.Row.has, Bool.and_eq_true, decide_eq_true_eq] at h1
  omega
theorem Dia.step_false (h : Int → Bool) (b c : Int) : Dia.step h (b, false) c = if h c then (b, false) else (c, true) := by
  unfold Dia.step; cases h c <;> simp
theorem Dia.step_lt (h : Int → Bool) (b c : Int) (hl : c < b) : Dia.step h (b, true) c = if h c then (b, true) else (c, true) := by
  unfold Dia.step; cases h c <;> simp [hl]
theorem Dia.step_ge (h : Int → Bool) (b c : Int) (hl : ¬ c < b) : Dia.step h (b, true) c = (b, true) := by
  unfold Dia.step; simp [hl]

set_option maxRecDepth 100000 in
set_option maxHeartbeats 4000000 in
theorem Tryz.c_Reverse (a : Option Addr) (ls : List (List Dia.Row)) (cap : Nat) (p : Int) (w : World) (hlv : Dia.LevelsAt w a ls) (hok : ∀ rs ∈ ls, ∀ r ∈ rs, r.Ok) (hcap : ls.length ≤ cap) (hn : ls.length ≤ 1000000) (hn2 : ∀ rs ∈ ls, rs.length ≤ 1000000) :
    Calls Tryz.prog 45 #[Dia.tabv a ls.length cap, .int .i32 p] w fun e w' => e = .returned (.tuple #[.int .i64 (Dia.rev ls p).1, .bool (Dia.rev ls p).2]) ∧ Below w.heap.size w w' := by
  unfold Dia.tabv
  go_enter Tryz.func45, Tryz.ntmps45
  go_wp2
  go_loopw [6, 7, 8, 9, 11, 13, 17] (fun best found _ _ _ _ i wr => ∃ k : Nat, k ≤ ls.length ∧ i = .int .i64 k ∧ best = .int .i64 (Dia.revTo ls p k).1 ∧ found = .bool (Dia.revTo ls p k).2 ∧
      Below (w.heap.size + 1) (w.alloc (.cells #[.slice a ls.length cap] 43)) wr)
    (fun _ _ _ _ _ _ i _ => ls.length - (intOf i).toNat)
  case atStart => exact ⟨0, Nat.zero_le _, rfl, rfl, rfl, Below.refl _ _⟩
  case round =>
    obtain ⟨k, hk, rfl, rfl, rfl, hb⟩ := hrel
    obtain ⟨wo, rfl⟩ : ∃ wo : World, wo = wr := ⟨_, rfl⟩
    have hbw : Below w.heap.size w wo := Aid.below_new hb (Nat.le_refl _)
    have hs0 := Aid.new_lt hb
    by_cases hlt : k < ls.length
    · have HSU := Aid.Hid2.mk (Dia.revTo_succ ls p k hlt)
      have HH : Aid.Hid2 (∀ (c : Int) (w1 : World), 0 ≤ c → c ≤ 1048576 → Below w.heap.size w w1 → Calls Tryz.prog 63 #[.agg #[.slice a ls.length cap], .int .i64 k, .int .i64 c] w1 fun e w' => e = .returned (.bool (Dia.hid (ls.take k) c)) ∧ Below w1.heap.size w1 w') :=
        ⟨fun c w1 h0 h1 hb1 => Tryz.c_hidden a ls cap k c w1 (hlv.below hb1) hok (by intro e; rw [e] at hlt; simp at hlt) hcap (by omega) hn hn2 ⟨by omega, by omega⟩⟩
      obtain ⟨b, off, ar, cr, rfl, hcell, hrows⟩ := (hlv.below hbw).get hlt
      have hok2 := Aid.Hid2.mk (hok ls[k] (List.getElem_mem _))
      have hnn := hn2 ls[k] (List.getElem_mem _)
      generalize hQ : Dia.hid (ls.take k) = Q at *
      clear hQ
      generalize ls[k] = rs at *
      generalize Dia.revTo ls p k = S0 at *
      go_wp2
      go_loopw [6, 7, 11, 13, 24] (fun best found _ _ i wr => ∃ j : Nat, j ≤ rs.length ∧ i = .int .i64 j ∧ best = .int .i64 ((rs.take j).foldl (Dia.revRow Q p) S0).1 ∧ found = .bool ((rs.take j).foldl (Dia.revRow Q p) S0).2 ∧ Below wo.heap.size wo wr)
        (fun _ _ _ _ i _ => rs.length - (intOf i).toNat)
      case atStart => exact ⟨0, Nat.zero_le _, rfl, rfl, rfl, Below.refl _ _⟩
      case round =>
        obtain ⟨j, hj, rfl, rfl, rfl, hb2⟩ := hrel
        obtain ⟨wi, rfl⟩ : ∃ wi : World, wi = wr := ⟨_, rfl⟩
        by_cases hlj : j < rs.length
        · have HSJ := Aid.Hid2.mk (Dia.fold_snoc (Dia.revRow Q p) S0 rs j hlj)
          obtain ⟨b2, off2, rfl, al, cl, h0, h1, h2, h3, h4⟩ := (hrows.below hb2).get hlj
          have hR := hok2.out rs[j] (List.getElem_mem _)
          generalize rs[j] = r at *
          have HCI := Aid.Hid2.mk (fun c (h : c ∈ r.codes p) => Dia.code_in hR h)
          have HC : Aid.Hid2 (∀ w, Aid.RowAt w al (r.list.map Dia.rv) → Calls Tryz.prog 87 #[.agg #[.int .i64 r.from', .int .i32 r.to, .int .i64 r.count, .slice al r.list.length cl], .int .i32 p] w fun e w' => Dia.IsInts (r.codes p) w w' e) :=
            ⟨fun w hr => Tryz.c_codes r al cl p w ⟨hR.f0, by have := hR.f1; have := hR.c0; omega⟩ (fun h => ⟨hR.t0 h, hR.t1 h⟩) ⟨hR.c0, by have := hR.f1; have := hR.f0; omega⟩ (by
              by_cases h : r.list = []
              · rw [h]; simp
              · have := hR.l h; have := hR.f1; have := hR.f0; omega) hr⟩
          have hcl : (r.codes p).length ≤ 1048576 := by
            rw [Dia.codes_eq r hR]
            have h5 := List.length_filter_le (fun c => r.at c == p) r.cs
            have h6 : r.cs.length = r.count.toNat := by simp [Dia.Row.cs]
            have := hR.f1; have := hR.f0
            omega
          have HRW : Aid.Hid2 (∀ s, Dia.revRow Q p s r = (r.codes p).foldl (Dia.step Q) s) := ⟨fun s => rfl⟩
          generalize r.codes p = C at *
          obtain ⟨f, t, c, L⟩ := r
          simp only at h0 h1 h2 h3 h4 HC
          clear hR
          generalize (rs.take j).foldl (Dia.revRow Q p) S0 = S1 at *
          go_wp2_with (go_at_call 87; refine (HC.out _ (h4.below (Aid.b1 _ _))).mono ?_; rintro e w3 ⟨aa, ccap, rfl, hints, hb3⟩)
          have hb3' : Below wi.heap.size wi w3 := Aid.below_new (hb3.mono (by simp)) (Nat.le_refl _)
          go_loopw [6, 7, 13, 32] (fun best found _ i wr => ∃ m : Nat, m ≤ C.length ∧ i = .int .i64 m ∧ best = .int .i64 ((C.take m).foldl (Dia.step Q) S1).1 ∧ found = .bool ((C.take m).foldl (Dia.step Q) S1).2 ∧ Below w3.heap.size w3 wr)
            (fun _ _ _ i _ => C.length - (intOf i).toNat)
          case atStart => exact ⟨0, Nat.zero_le _, rfl, rfl, rfl, Below.refl _ _⟩
          case round =>
            obtain ⟨m, hm, rfl, rfl, rfl, hb4⟩ := hrel
            have hball : Below w.heap.size w wr := Aid.bt (Aid.bt (Aid.bt hbw hb2) hb3') hb4
            have htab := (Aid.one (Aid.blkB (hb.trans ((Aid.bt (Aid.bt hb2 hb3') hb4).mono hs0)) (heap_alloc_new w _) (by omega))).1
            by_cases hlm : m < C.length
            · have HSM := Aid.Hid2.mk (Dia.fold_snoc (Dia.step Q) S1 C m hlm)
              obtain ⟨b5, off5, rfl, hcc⟩ := (hints.below hb4).get (k := m) (by simpa using hlm)
              simp only [List.getElem_map, Dia.nv'] at hcc
              obtain ⟨hc0, hc1⟩ := HCI.out C[m] (List.getElem_mem _)
              generalize C[m] = code at *
              have HHm := Aid.Hid2.mk (HH.out code)
              generalize (C.take m).foldl (Dia.step Q) S1 = S at *
              obtain ⟨bst, fnd⟩ := S
              simp only at *
              cases hq : Q code with
              | true =>
                rw [hq] at HHm
                cases fnd with
                | false =>
                  have HE : Aid.Hid2 ((C.take (m + 1)).foldl (Dia.step Q) S1 = (bst, false)) := ⟨by rw [HSM.out, Dia.step_false, hq]; rfl⟩
                  clear hq HSM
                  go_wp2_with (go_at_call 63; refine (HHm.out _ hc0 hc1 hball).mono ?_; rintro e w5 ⟨rfl, hb5⟩)
                  go_roundw
                  case rel => exact ⟨m + 1, by omega, by go_num, by rw [HE.out], by rw [HE.out], Aid.bt hb4 hb5⟩
                  case measure => simp [intOf]; omega
                | true =>
                  by_cases hl : code < bst
                  · have HE : Aid.Hid2 ((C.take (m + 1)).foldl (Dia.step Q) S1 = (bst, true)) := ⟨by rw [HSM.out, Dia.step_lt Q _ _ hl, hq]; rfl⟩
                    clear hq HSM
                    go_wp2_with (go_at_call 63; refine (HHm.out _ hc0 hc1 hball).mono ?_; rintro e w5 ⟨rfl, hb5⟩)
                    go_roundw
                    case rel => exact ⟨m + 1, by omega, by go_num, by rw [HE.out], by rw [HE.out], Aid.bt hb4 hb5⟩
                    case measure => simp [intOf]; omega
                  · have HE : Aid.Hid2 ((C.take (m + 1)).foldl (Dia.step Q) S1 = (bst, true)) := ⟨by rw [HSM.out, Dia.step_ge Q _ _ hl]⟩
                    clear hq HSM
                    go_wp2
                    go_roundw
                    case rel => exact ⟨m + 1, by omega, by go_num, by rw [HE.out], by rw [HE.out], hb4⟩
                    case measure => simp [intOf]; omega
              | false =>
                rw [hq] at HHm
                cases fnd with
                | false =>
                  have HE : Aid.Hid2 ((C.take (m + 1)).foldl (Dia.step Q) S1 = (code, true)) := ⟨by rw [HSM.out, Dia.step_false, hq]; rfl⟩
                  clear hq HSM
                  go_wp2_with (go_at_call 63; refine (HHm.out _ hc0 hc1 hball).mono ?_; rintro e w5 ⟨rfl, hb5⟩)
                  go_roundw
                  case rel => exact ⟨m + 1, by omega, by go_num, by rw [HE.out], by rw [HE.out], Aid.bt hb4 hb5⟩
                  case measure => simp [intOf]; omega
                | true =>
                  by_cases hl : code < bst
                  · have HE : Aid.Hid2 ((C.take (m + 1)).foldl (Dia.step Q) S1 = (code, true)) := ⟨by rw [HSM.out, Dia.step_lt Q _ _ hl, hq]; rfl⟩
                    clear hq HSM
                    go_wp2_with (go_at_call 63; refine (HHm.out _ hc0 hc1 hball).mono ?_; rintro e w5 ⟨rfl, hb5⟩)
                    go_roundw
                    case rel => exact ⟨m + 1, by omega, by go_num, by rw [HE.out], by rw [HE.out], Aid.bt hb4 hb5⟩
                    case measure => simp [intOf]; omega
                  · have HE : Aid.Hid2 ((C.take (m + 1)).foldl (Dia.step Q) S1 = (bst, true)) := ⟨by rw [HSM.out, Dia.step_ge Q _ _ hl]⟩
                    clear hq HSM
                    go_wp2
                    go_roundw
                    case rel => exact ⟨m + 1, by omega, by go_num, by rw [HE.out], by rw [HE.out], hb4⟩
                    case measure => simp [intOf]; omega
            · have HE : Aid.Hid2 ((rs.take (j + 1)).foldl (Dia.revRow Q p) S0 = (C.take m).foldl (Dia.step Q) S1) := ⟨by
                rw [HSJ.out, HRW.out, List.take_of_length_le (by omega : C.length ≤ m)]⟩
              go_wp2
              go_roundw
              case rel => exact ⟨j + 1, by omega, by go_num, by rw [HE.out], by rw [HE.out], Aid.bt (Aid.bt hb2 hb3') hb4⟩
              case measure => simp [intOf]; omega
        · have HE : Aid.Hid2 (Dia.revTo ls p (k + 1) = (rs.take j).foldl (Dia.revRow Q p) S0) := ⟨by
            rw [HSU.out, List.take_of_length_le (by omega : rs.length ≤ j)]⟩
          go_wp2
          go_roundw
          case rel => exact ⟨k + 1, by omega, by go_num, by rw [HE.out], by rw [HE.out], hb.trans (hb2.mono hs0)⟩
          case measure => simp [intOf]; omega
    · obtain rfl : k = ls.length := by omega
      go_wp2
      go_ret2
      exact ⟨rfl, hbw⟩
end Go.Proofs
