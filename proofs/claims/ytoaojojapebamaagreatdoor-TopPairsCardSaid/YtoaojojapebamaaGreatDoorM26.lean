/- PLAIN: what big5's table finds at a place, by the rows; walks of big5's reference: row, One; walks of big5's reference: One, Signs; walks of big5's reference: Signs; walks of big5: Signs -/
import Derived.Test.YtoaojojapebamaaGreatDoorM22
import Derived.Test.YtoaojojapebamaaGreatDoorM16
import Derived.Test.YtoaojojapebamaaGreatDoorM25
namespace Go.Proofs.Dia

theorem rowPairs_get (l : List Int) (k : Int) (i : Nat) (h0 : ∀ p ∈ l, p ≠ 0) : (rowPairs k l).find? (fun q => q.1 == k + (i : Int)) = if l.getD i 0 = 63 ∨ l.getD i 0 = 0 then none else some (k + (i : Int), l.getD i 0) := by
  by_cases hi : i < l.length
  · rw [rowPairs_some l k i hi]
    have hne : l.getD i 0 ≠ 0 := by
      rw [List.getD_eq_getElem?_getD, List.getElem?_eq_getElem hi]
      exact h0 _ (List.getElem_mem _)
    by_cases hp : l.getD i 0 = 63
    · rw [if_pos hp, if_pos (.inl hp)]
    · rw [if_neg hp, if_neg (by rintro (h | h); exact hp h; exact hne h)]
  · rw [rowPairs_none _ l k (by omega), if_pos (.inr (by rw [List.getD_eq_getElem?_getD, List.getElem?_eq_none (by omega)]; rfl))]
set_option maxRecDepth 100000 in
theorem row_ne0 : (∀ p ∈ rowP136, p ≠ 0) ∧ (∀ p ∈ rowP161, p ≠ 0) ∧ (∀ p ∈ rowP163, p ≠ 0) ∧ (∀ p ∈ rowP164, p ≠ 0) ∧ (∀ p ∈ rowP165, p ≠ 0) := by decide +kernel
theorem big_fwd (lead : Int) (c : Nat) (_h0 : 129 ≤ lead) (_h1 : lead ≤ 255) (hc : c < 157) :
    fwdl bigL ((lead - 129) * 157 + c) = if (rowP lead).getD c 0 = 63 ∨ (rowP lead).getD c 0 = 0 then (0, false) else ((rowP lead).getD c 0, true) := by
  obtain ⟨l1, l2, l3, l4, l5⟩ := row_lens
  obtain ⟨z1, z2, z3, z4, z5⟩ := row_ne0
  unfold fwdl
  rw [big_rows, List.find?_append, List.find?_append, List.find?_append, List.find?_append]
  have N1 := rowPairs_none ((lead - 129) * 157 + c) rowP136 (7 * 157)
  have N2 := rowPairs_none ((lead - 129) * 157 + c) rowP161 (32 * 157)
  have N3 := rowPairs_none ((lead - 129) * 157 + c) rowP163 (34 * 157)
  have N4 := rowPairs_none ((lead - 129) * 157 + c) rowP164 (35 * 157)
  have N5 := rowPairs_none ((lead - 129) * 157 + c) rowP165 (36 * 157)
  by_cases e1 : lead = 136
  · subst e1
    have G := rowPairs_get rowP136 (7 * 157) c z1
    rw [show ((136 : Int) - 129) * 157 + c = 7 * 157 + c from by omega] at *
    rw [G, N2 (by omega), N3 (by omega), N4 (by omega), N5 (by omega)]
    simp only [rowP, if_true]
    by_cases hz : rowP136.getD c 0 = 63 ∨ rowP136.getD c 0 = 0
    · rw [if_pos hz, if_pos hz]; rfl
    · rw [if_neg hz, if_neg hz]; rfl
  by_cases e2 : lead = 161
  · subst e2
    have G := rowPairs_get rowP161 (32 * 157) c z2
    rw [show ((161 : Int) - 129) * 157 + c = 32 * 157 + c from by omega] at *
    rw [N1 (by omega), G, N3 (by omega), N4 (by omega), N5 (by omega)]
    simp only [rowP, if_neg e1, if_true]
    by_cases hz : rowP161.getD c 0 = 63 ∨ rowP161.getD c 0 = 0
    · rw [if_pos hz, if_pos hz]; rfl
    · rw [if_neg hz, if_neg hz]; rfl
  by_cases e3 : lead = 163
  · subst e3
    have G := rowPairs_get rowP163 (34 * 157) c z3
    rw [show ((163 : Int) - 129) * 157 + c = 34 * 157 + c from by omega] at *
    rw [N1 (by omega), N2 (by omega), G, N4 (by omega), N5 (by omega)]
    simp only [rowP, if_neg e1, if_neg e2, if_true]
    by_cases hz : rowP163.getD c 0 = 63 ∨ rowP163.getD c 0 = 0
    · rw [if_pos hz, if_pos hz]; rfl
    · rw [if_neg hz, if_neg hz]; rfl
  by_cases e4 : lead = 164
  · subst e4
    have G := rowPairs_get rowP164 (35 * 157) c z4
    rw [show ((164 : Int) - 129) * 157 + c = 35 * 157 + c from by omega] at *
    rw [N1 (by omega), N2 (by omega), N3 (by omega), G, N5 (by omega)]
    simp only [rowP, if_neg e1, if_neg e2, if_neg e3, if_true]
    by_cases hz : rowP164.getD c 0 = 63 ∨ rowP164.getD c 0 = 0
    · rw [if_pos hz, if_pos hz]; rfl
    · rw [if_neg hz, if_neg hz]; rfl
  by_cases e5 : lead = 165
  · subst e5
    have G := rowPairs_get rowP165 (36 * 157) c z5
    rw [show ((165 : Int) - 129) * 157 + c = 36 * 157 + c from by omega] at *
    rw [N1 (by omega), N2 (by omega), N3 (by omega), N4 (by omega), G]
    simp only [rowP, if_neg e1, if_neg e2, if_neg e3, if_neg e4, if_true]
    by_cases hz : rowP165.getD c 0 = 63 ∨ rowP165.getD c 0 = 0
    · rw [if_pos hz, if_pos hz]; rfl
    · rw [if_neg hz, if_neg hz]; rfl
  rw [N1 (by omega), N2 (by omega), N3 (by omega), N4 (by omega), N5 (by omega)]
  simp [rowP, e1, e2, e3, e4, e5]
end Go.Proofs.Dia
namespace Go.Proofs
open Go.RowKit

def Dia.rowT (lead : Int) : List UInt8 := if lead = 136 then Dia.rowT136 else if lead = 161 then Dia.rowT161 else if lead = 163 then Dia.rowT163 else if lead = 164 then Dia.rowT164 else if lead = 165 then Dia.rowT165 else []
theorem Dia.rowT_pts (lead : Int) : Dia.pts (Dia.rowT lead) = (Dia.rowP lead, -1) := by
  unfold Dia.rowT Dia.rowP
  repeat' split
  · exact Dia.row_pts136
  · exact Dia.row_pts161
  · exact Dia.row_pts163
  · exact Dia.row_pts164
  · exact Dia.row_pts165
  · rfl
end Go.Proofs
namespace Go.Proofs
open Go.RowKit

def Dia.rone (l b : Int) : Int := if Dia.rcell b < 0 then 0 else if (Dia.rowP l).getD (Dia.rcell b).toNat 0 = 63 then 0 else (Dia.rowP l).getD (Dia.rcell b).toNat 0
theorem Dia.rcell_le (b : Int) : Dia.rcell b ≤ 156 := by unfold Dia.rcell; split; omega; split <;> omega
set_option maxRecDepth 100000 in
theorem Dia.rowT_len (l : Int) : (Dia.rowT l).length ≤ 1000000 := by
  have h : Dia.rowT136.length ≤ 1000000 ∧ Dia.rowT161.length ≤ 1000000 ∧ Dia.rowT163.length ≤ 1000000 ∧ Dia.rowT164.length ≤ 1000000 ∧ Dia.rowT165.length ≤ 1000000 := by decide +kernel
  obtain ⟨h1, h2, h3, h4, h5⟩ := h
  unfold Dia.rowT
  repeat' split
  all_goals first | assumption | simp
end Go.Proofs
namespace Go.Proofs
open Go.RowKit

def Dia.rsigns (l b : Int) : List UInt8 := if (Dia.rtwo (l * 256 + b)).1 ≠ 0 then Dia.enc (Dia.rtwo (l * 256 + b)).1 ++ Dia.enc (Dia.rtwo (l * 256 + b)).2 else if Dia.rone l b ≠ 0 then Dia.enc (Dia.rone l b) else []
set_option maxRecDepth 100000 in
theorem Dia.rowP_sc (l : Int) : ∀ p ∈ Dia.rowP l, Dia.sc p = true := by
  have h : (∀ p ∈ Dia.rowP136, Dia.sc p = true) ∧ (∀ p ∈ Dia.rowP161, Dia.sc p = true) ∧ (∀ p ∈ Dia.rowP163, Dia.sc p = true) ∧ (∀ p ∈ Dia.rowP164, Dia.sc p = true) ∧ (∀ p ∈ Dia.rowP165, Dia.sc p = true) := by decide +kernel
  obtain ⟨h1, h2, h3, h4, h5⟩ := h
  unfold Dia.rowP
  repeat' split
  all_goals first | assumption | simp
theorem Dia.rone_sc (l b : Int) (h : Dia.rone l b ≠ 0) : Dia.sc (Dia.rone l b) = true := by
  unfold Dia.rone at *
  split at h
  · exact absurd rfl h
  · rename_i h1
    rw [if_neg h1]
    split at h
    · exact absurd rfl h
    · rename_i h2
      rw [if_neg h2]
      rw [List.getD_eq_getElem?_getD] at h ⊢
      cases e : (Dia.rowP l)[(Dia.rcell b).toNat]? with
      | none => rw [e] at h; exact absurd rfl h
      | some p => exact Dia.rowP_sc l p (List.mem_of_getElem? e)
theorem Dia.rtwo_sc (c : Int) (h : (Dia.rtwo c).1 ≠ 0) : Dia.sc (Dia.rtwo c).1 = true ∧ Dia.sc (Dia.rtwo c).2 = true := by
  unfold Dia.rtwo at *
  repeat' split at h
  all_goals first | exact absurd rfl h | skip
  · rename_i h1; rw [if_pos h1]; decide
  · rename_i h1 h2; rw [if_neg h1, if_pos h2]; decide
  · rename_i h1 h2 h3; rw [if_neg h1, if_neg h2, if_pos h3]; decide
  · rename_i h1 h2 h3 h4; rw [if_neg h1, if_neg h2, if_neg h3, if_pos h4]; decide
end Go.Proofs
namespace Go.Proofs
open Go.RowKit

def Dia.bsigns (l b : Int) : List UInt8 × Bool :=
  if (Dia.bcell b).2 = false ∨ l < 129 ∨ l = 255 then ([], false)
  else if (Dia.rtwo (l * 256 + b)).1 ≠ 0 then (Dia.enc (Dia.rtwo (l * 256 + b)).1 ++ Dia.enc (Dia.rtwo (l * 256 + b)).2, true)
  else if (Dia.fwdl Dia.bigL ((l - 129) * 157 + (Dia.bcell b).1)).2 = true then (Dia.enc (Dia.fwdl Dia.bigL ((l - 129) * 157 + (Dia.bcell b).1)).1, true) else ([], false)
/-- which of the four codes a code isn't -/
def Dia.bpre (k c : Int) : Prop := (0 < k → c ≠ 34914) ∧ (1 < k → c ≠ 34916) ∧ (2 < k → c ≠ 34979) ∧ (3 < k → c ≠ 34981)
theorem Dia.bpre_0 (c : Int) : Dia.bpre 0 c := ⟨fun h => by omega, fun h => by omega, fun h => by omega, fun h => by omega⟩
theorem Dia.bpre_1 {c : Int} (_h : Dia.bpre 0 c) (hc : ¬ c = 34914) : Dia.bpre 1 c := ⟨fun _ => hc, fun h => by omega, fun h => by omega, fun h => by omega⟩
theorem Dia.bpre_2 {c : Int} (h : Dia.bpre 1 c) (hc : ¬ c = 34916) : Dia.bpre 2 c := ⟨fun _ => h.1 (by omega), fun _ => hc, fun h => by omega, fun h => by omega⟩
theorem Dia.bpre_3 {c : Int} (h : Dia.bpre 2 c) (hc : ¬ c = 34979) : Dia.bpre 3 c := ⟨fun _ => h.1 (by omega), fun _ => h.2.1 (by omega), fun _ => hc, fun h => by omega⟩
theorem Dia.bpre_4 {c : Int} (h : Dia.bpre 3 c) (hc : ¬ c = 34981) : Dia.bpre 4 c := ⟨fun _ => h.1 (by omega), fun _ => h.2.1 (by omega), fun _ => h.2.2.1 (by omega), fun _ => hc⟩
theorem Dia.bpre_two {c : Int} (h : Dia.bpre 4 c) : Dia.rtwo c = (0, 0) := by
  obtain ⟨h0, h1, h2, h3⟩ := h
  unfold Dia.rtwo
  rw [if_neg (h0 (by omega)), if_neg (h1 (by omega)), if_neg (h2 (by omega)), if_neg (h3 (by omega))]
theorem Tryz.c_Text2 (C : Array Value) (T : TypeId) (p q : Int) (w0 : World) (hC : C[1]? = some (.int .i32 p) ∧ C[2]? = some (.int .i32 q)) (hp : Dia.sc p = true) (hq : Dia.sc q = true) :
    Calls Tryz.prog 30 #[.slice (some ⟨w0.heap.size, 1, none⟩) 2 2] (w0.alloc (.cells C T)) fun e w' => e = .returned (.tuple #[.string ⟨(Dia.enc p ++ Dia.enc q).toArray⟩, .bool true]) ∧ Below w0.heap.size w0 w' := by
  have hr : Aid.RowAt (w0.alloc (.cells C T)) (some ⟨w0.heap.size, 1, none⟩) ([p, q].map Dia.rv) := .inr ⟨_, _, rfl, fun j u hj => by
    rw [World.cell?_alloc_mark]
    match j, hj with
    | 0, hj => simp [Dia.rv] at hj; subst hj; exact hC.1
    | 1, hj => simp [Dia.rv] at hj; subst hj; exact hC.2⟩
  refine (Tryz.c_Text _ [p, q] 2 _ hr (by simp)).mono fun e w' ⟨he, hb⟩ => ?_
  rw [Dia.txt_ok (by simp [hp, hq])] at he
  exact ⟨by rw [he]; simp [Dia.encs], (Aid.b1 _ _).trans (hb.mono (by simp))⟩
theorem Tryz.c_Text1 (p : Int) (w0 : World) (hp : Dia.sc p = true) :
    Calls Tryz.prog 30 #[.slice (some ⟨w0.heap.size, 0, none⟩) 1 1] (w0.alloc (.cells #[.int .i32 p] 21)) fun e w' => e = .returned (.tuple #[.string ⟨(Dia.enc p).toArray⟩, .bool true]) ∧ Below w0.heap.size w0 w' := by
  refine (Tryz.c_Text _ [p] 1 _ (Aid.row_new _ _ _ _ rfl) (by simp)).mono fun e w' ⟨he, hb⟩ => ?_
  rw [Dia.txt_ok (by simp [hp])] at he
  exact ⟨by rw [he]; simp [Dia.encs], (Aid.b1 _ _).trans (hb.mono (by simp))⟩
theorem Dia.bcell_bd (b : Int) : 0 ≤ (Dia.bcell b).1 ∧ (Dia.bcell b).1 ≤ 156 := by unfold Dia.bcell; split; omega; split; omega; simp
theorem Dia.bigL_sc : ∀ q ∈ Dia.bigL, Dia.sc q.2 = true := by decide +kernel
theorem Dia.fwdl_sc {l : List (Int × Int)} (h : ∀ q ∈ l, Dia.sc q.2 = true) (k : Int) (hk : (Dia.fwdl l k).2 = true) : Dia.sc (Dia.fwdl l k).1 = true := by
  unfold Dia.fwdl at *
  split
  · rename_i q e
    exact h q (List.mem_of_find?_eq_some e)
  · rename_i e
    rw [e] at hk
    exact absurd hk (by simp)
theorem Tryz.c_bsigns_no (l b : Int) (w : World) (hl : 0 ≤ l ∧ l ≤ 255) (hb : 0 ≤ b ∧ b ≤ 255) (h : (Dia.bcell b).2 = false ∨ l < 129 ∨ l = 255) :
    Calls Tryz.prog 37 #[.int .u8 l, .int .u8 b] w fun e w' => e = .returned (.tuple #[.string ⟨#[]⟩, .bool false]) ∧ Below w.heap.size w w' := by
  have HC := Aid.Hid2.mk (Tryz.c_bcell b w hb)
  obtain ⟨l0, l1⟩ := hl
  generalize Dia.bcell b = c at *
  obtain ⟨c, ok⟩ := c
  simp only at h HC
  clear hb
  cases ok with
  | false =>
    clear h
    go_enter Tryz.func37, Tryz.ntmps37
    go_wp2_with fail
    refine HC.out.mono ?_
    rintro e w1 ⟨rfl, rfl⟩
    go_wp2
    go_ret2
    exact ⟨rfl, Below.refl _ _⟩
  | true =>
    by_cases h1 : l < 129
    · clear h
      go_enter Tryz.func37, Tryz.ntmps37
      go_wp2_with fail
      refine HC.out.mono ?_
      rintro e w1 ⟨rfl, rfl⟩
      go_wp2
      go_ret2
      exact ⟨rfl, Below.refl _ _⟩
    · have h2 : l = 255 := by
        rcases h with h | h | h
        · cases h
        · exact absurd h h1
        · exact h
      subst h2
      clear h h1
      go_enter Tryz.func37, Tryz.ntmps37
      go_wp2_with fail
      refine HC.out.mono ?_
      rintro e w1 ⟨rfl, rfl⟩
      go_wp2
      go_ret2
      exact ⟨rfl, Below.refl _ _⟩
end Go.Proofs
