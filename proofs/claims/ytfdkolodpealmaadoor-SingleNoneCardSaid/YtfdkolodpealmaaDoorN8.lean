/- walks of run: hidden -/
import Derived.Test.YtfdkolodpealmaaDoorN7
import Derived.Test.YtfdkolodpealmaaDoorShelf2
namespace Go.Proofs
open Go.RowKit

/-- a row that may be, and where its signs lie -/
structure Dia.YRow where
  x : Dia.XRow
  ok : x.row.Ok
instance : Inhabited Dia.YRow := ⟨⟨⟨⟨0, 0, 1, []⟩, none, 0⟩, ⟨by decide, by decide, by decide, fun _ => by decide, fun _ => by decide, fun h => absurd rfl h⟩⟩⟩
def Dia.YRow.enc (y : Dia.YRow) : List Value := y.x.cells

set_option maxRecDepth 100000 in
theorem Tryd.pred_hidden (code : Int) (B : Nat) (w : World) (hB : B < w.heap.size) (hcell : w.cell? ⟨B, 0, none⟩ = some (.int .i64 code)) (hcode : -9223372036854775808 ≤ code ∧ code ≤ 9223372036854775807) :
    PredBelow Tryd.prog 58 #[.pointer (some ⟨B, 0, none⟩)] (fun y : Dia.YRow => .agg (Dia.YRow.enc y).toArray) (fun y => y.x.row.has code) w := fun W y hb => by
  have hc : W.cell? ⟨B, 0, none⟩ = some (.int .i64 code) := (hb.cell (p := ⟨B, 0, none⟩) hB).trans hcell
  obtain ⟨⟨⟨f, t, c, L⟩, al, cl⟩, ho⟩ := y
  have o1 := ho.f0
  have o2 := ho.f1
  have o3 := ho.c0
  simp only at o1 o2 o3
  have hHas : Aid.Hid2 (∀ w, Calls Tryd.prog 47 #[.agg #[.int .i64 f, .int .i32 t, .int .i64 c, .slice al L.length cl], .int .i64 code] w fun e w' => e = .returned (.bool (Dia.Row.has ⟨f, t, c, L⟩ code)) ∧ Below w.heap.size w w') :=
    ⟨fun w => Tryd.c_has f t c code _ w ⟨o1, by omega⟩ ⟨by omega, by omega⟩ hcode⟩
  have hb' : Below w.heap.size w (W.alloc (.cells #[.int .i64 f, .int .i32 t, .int .i64 c, .slice al L.length cl] 88)) := hb.alloc hb.size _
  have hc2 := Aid.cell_ext (Aid.b1 W (.cells #[.int .i64 f, .int .i32 t, .int .i64 c, .slice al L.length cl] 88)) hc
  have hsz := hb.size
  show Calls Tryd.prog 58 #[.agg #[.int .i64 f, .int .i32 t, .int .i64 c, .slice al L.length cl], .pointer (some ⟨B, 0, none⟩)] W _
  go_enter Tryd.func58, Tryd.ntmps58
  go_wp2_with (go_at_call 47; refine (hHas.out _).mono ?_; rintro e w3 ⟨rfl, hb3⟩)
  go_ret
  exact ⟨rfl, hb'.trans (hb3.mono (by simp; omega))⟩

set_option maxRecDepth 100000 in
theorem Tryd.c_index_none (a : Option Addr) (c : Nat) (fv : Value) (w : World) :
    Calls Tryd.prog 68 #[.slice a 0 c, fv] w fun e w' => e = .returned (.int .i64 (-1)) ∧ w = w' := by
  go_enter Tryd.func68, Tryd.ntmps68
  go_wp2
  go_loop [5, 8] (fun _ i => i = .int .i64 0) (fun _ _ => 0)
  case atStart => rfl
  case round =>
    subst hrel
    go_wp2
    go_ret
    exact ⟨rfl, rfl⟩
set_option maxRecDepth 100000 in
theorem Tryd.c_contains_none (a : Option Addr) (c : Nat) (fv : Value) (w : World) :
    Calls Tryd.prog 57 #[.slice a 0 c, fv] w fun e w' => e = .returned (.bool false) ∧ w = w' := by
  go_enter Tryd.func57, Tryd.ntmps57
  go_wp2_with (go_at_call 68; refine (Tryd.c_index_none _ _ _ _).mono ?_; rintro e w3 ⟨rfl, rfl⟩)
  go_ret
  exact ⟨rfl, rfl⟩

theorem Dia.hid_snoc (a : List (List Dia.Row)) (rs : List Dia.Row) (c : Int) : Dia.hid (a ++ [rs]) c = (Dia.hid a c || rs.any fun r => r.has c) := by simp [Dia.hid]
theorem Tryd.c_contains (ar : Option Addr) (rs : List Dia.Row) (cr : Nat) (code : Int) (B : Nat) (w : World) (hrows : Dia.RowsAt w ar rs) (hok : ∀ r ∈ rs, r.Ok) (hn : rs.length ≤ 1000000) (hB : B < w.heap.size) (hcell : w.cell? ⟨B, 0, none⟩ = some (.int .i64 code))
    (hcode : -9223372036854775808 ≤ code ∧ code ≤ 9223372036854775807) :
    Calls Tryd.prog 57 #[.slice ar rs.length cr, .func (.func 58) #[] #[.pointer (some ⟨B, 0, none⟩)]] w fun e w' => e = .returned (.bool (rs.any fun r => r.has code)) ∧ Below w.heap.size w w' := by
  obtain ⟨X, rfl, h⟩ := hrows
  rcases h with rfl | ⟨b, off, rfl, _, h⟩
  · exact (Tryd.c_contains_none ar cr _ w).mono fun e w' ⟨h1, h2⟩ => ⟨h1, by rw [h2]; exact Below.refl _ _⟩
  · by_cases he : X = []
    · subst he
      exact (Tryd.c_contains_none _ cr _ w).mono fun e w' ⟨h1, h2⟩ => ⟨h1, by rw [h2]; exact Below.refl _ _⟩
    · obtain ⟨Y, hY⟩ : ∃ Y : List Dia.YRow, Y.map (·.x) = X := ⟨X.attach.map fun x => ⟨x.1, hok x.1.row (List.mem_map_of_mem x.2)⟩, by
        show List.map _ (List.map _ X.attach) = X
        rw [List.map_map]
        exact List.attach_map_subtype_val X⟩
      have hYl : Y.length = X.length := by have := congrArg List.length hY; rwa [List.length_map] at this
      have hb : b < w.heap.size := by
        cases X with
        | nil => exact absurd rfl he
        | cons x X => exact World.block_lt_of_cell? w _ ((h 0 x rfl).1 0 _ rfl)
      have eg : ∀ args w, (callFunc 58 args).run Tryd.prog w = .ok (.enter 58 args) w := enters_of Tryd.func58 (by kernel_rfl) rfl
      have hcon := AnyQ.slices_ContainsFunc Tryd.contRow 4 Tryd.isAgg88 Tryd.sizeOf88 Dia.YRow.enc (fun _ => rfl) (fun y => y.x.row.has code) 58 #[.pointer (some ⟨B, 0, none⟩)] eg b off Y.length cr Y w
        (Tryd.pred_hidden code B w hB hcell hcode) (Nat.le_refl _) (by rw [hYl]; rw [List.length_map] at hn; omega) hb (fun j hj i v hv => by
          have hj' : j < X.length := by rw [← hYl]; exact hj
          have e : (Y[j]!).x = X[j] := by
            rw [getElem!_pos Y j hj]
            have h1 : (Y.map (·.x))[j]? = X[j]? := by rw [hY]
            rw [List.getElem?_map, List.getElem?_eq_getElem hj, List.getElem?_eq_getElem hj'] at h1
            simpa using h1
          unfold Dia.YRow.enc at hv
          rw [e] at hv
          exact (h j _ (List.getElem?_eq_getElem hj')).1 i v hv)
      change Calls Tryd.prog 57 _ _ _ at hcon
      have e1 : (Y.take Y.length).any (fun y => y.x.row.has code) = (X.map (·.row)).any fun r => r.has code := by
        have e2 : X.map (·.row) = Y.map fun y => y.x.row := by rw [← hY, List.map_map]; rfl
        rw [List.take_length, e2, List.any_map]
        rfl
      rw [e1, hYl] at hcon
      rw [List.length_map]
      exact hcon

set_option maxRecDepth 100000 in
set_option maxHeartbeats 1000000 in
theorem Tryd.c_hidden (a : Option Addr) (ls : List (List Dia.Row)) (cap first : Nat) (code : Int) (w : World) (hlv : Dia.LevelsAt w a ls) (hok : ∀ rs ∈ ls, ∀ r ∈ rs, r.Ok) (hne : ls ≠ []) (hcap : ls.length ≤ cap) (hf : first ≤ ls.length) (hn : ls.length ≤ 1000000) (hn2 : ∀ rs ∈ ls, rs.length ≤ 1000000)
    (hcode : -9223372036854775808 ≤ code ∧ code ≤ 9223372036854775807) :
    Calls Tryd.prog 42 #[Dia.tabv a ls.length cap, .int .i64 first, .int .i64 code] w fun e w' => e = .returned (.bool (Dia.hid (ls.take first) code)) ∧ Below w.heap.size w w' := by
  unfold Dia.tabv
  obtain ⟨b0, off0, rfl⟩ : ∃ b off, a = some ⟨b, off, none⟩ := by
    rcases hlv with h | ⟨b, off, h, _⟩
    · exact absurd h hne
    · exact ⟨b, off, h⟩
  clear hne
  have hfc : first ≤ cap := by omega
  have hfi : (first : Int) ≤ (cap : Int) := by omega
  have hf0 : (0 : Int) ≤ (first : Int) := by omega
  go_enter Tryd.func42, Tryd.ntmps42
  go_wp2
  go_loopw [8, 14] (fun _ i wr => ∃ k : Nat, k ≤ first ∧ i = .int .i64 k ∧ Dia.hid (ls.take k) code = false ∧ Below (w.heap.size + 2) ((w.alloc (.cells #[.slice (some ⟨b0, off0, none⟩) ls.length cap] 24)).alloc (.cells #[.int .i64 code] 3)) wr)
    (fun _ i _ => first - (intOf i).toNat)
  case atStart => exact ⟨0, Nat.zero_le _, rfl, rfl, Below.refl _ _⟩
  case round =>
    obtain ⟨k, hk, rfl, hh, hb⟩ := hrel
    obtain ⟨hbw, hs0⟩ := Aid.b2w hb
    have HH := Aid.Hid2.mk hh
    clear hh
    by_cases hlt : k < first
    · have hkl : k < ls.length := by omega
      have HT : Aid.Hid2 (Dia.hid (ls.take (k + 1)) code = (ls[k]).any fun r => r.has code) := ⟨by
        rw [Dia.take_snoc ls k hkl, Dia.hid_snoc, HH.out, Bool.false_or]⟩
      have HA : Aid.Hid2 ((ls[k]).any (fun r => r.has code) = true → Dia.hid (ls.take first) code = true) := ⟨fun h => by
        have e : ls.take first = ls.take (k + 1) ++ (ls.take first).drop (k + 1) := by
          have := (List.take_append_drop (k + 1) (ls.take first)).symm
          rw [List.take_take, Nat.min_eq_left (by omega)] at this
          exact this
        rw [e, Dia.hid_append, HT.out, h, Bool.true_or]⟩
      obtain ⟨b, off, ar, cr, hab, hcell, hrows⟩ := (hlv.below hbw).get hkl
      simp only [Option.some.injEq, Addr.mk.injEq, and_true] at hab
      obtain ⟨rfl, rfl⟩ := hab
      have kc := Aid.blkB hb (Aid.heap2 _ _ _).2 (by omega)
      have HC : Aid.Hid2 (Calls Tryd.prog 57 #[.slice ar ls[k].length cr, .func (.func 58) #[] #[.pointer (some ⟨w.heap.size + 1, 0, none⟩)]] wr fun e w' => e = .returned (.bool ((ls[k]).any fun r => r.has code)) ∧ Below wr.heap.size wr w') :=
        ⟨Tryd.c_contains ar ls[k] cr code (w.heap.size + 1) wr hrows (hok _ (List.getElem_mem _)) (hn2 _ (List.getElem_mem _)) (by omega) (Aid.one kc).1 hcode⟩
      clear hrows kc
      generalize ls[k] = rs at *
      cases hq : rs.any (fun r => r.has code) with
      | true =>
        rw [hq] at HC
        have HA2 := Aid.Hid2.mk (HA.out hq)
        clear hq
        go_wp2_with (go_at_call 57; refine (HC.out).mono ?_; rintro e w3 ⟨rfl, hb3⟩)
        go_ret
        rw [HA2.out]
        exact ⟨rfl, Aid.bt hbw hb3⟩
      | false =>
        rw [hq] at HC
        rw [hq] at HT
        clear hq HA
        go_wp2_with (go_at_call 57; refine (HC.out).mono ?_; rintro e w3 ⟨rfl, hb3⟩)
        go_roundw
        case rel => exact ⟨k + 1, by omega, by go_num, HT.out, hb.trans (hb3.mono hs0)⟩
        case measure => simp [intOf]; omega
    · obtain rfl : k = first := by omega
      go_wp2
      go_ret
      rw [HH.out]
      exact ⟨rfl, hbw⟩
end Go.Proofs
