/- walks of big5's reference: Signs -/
import Derived.Test.YtdbpliheggbmdaaDoorBa
namespace Go.Proofs
open Go.RowKit

def Dia.rsigns (l b : Int) : List UInt8 := if (Dia.rtwo (l * 256 + b)).1 ≠ 0 then Dia.enc (Dia.rtwo (l * 256 + b)).1 ++ Dia.enc (Dia.rtwo (l * 256 + b)).2 else if Dia.rone l b ≠ 0 then Dia.enc (Dia.rone l b) else []
set_option maxRecDepth 100000 in
theorem Dia.rowP_sc (l : Int) : ∀ p ∈ Dia.rowP l, Dia.sc p = true := by
  have h : (∀ p ∈ Dia.rowP136, Dia.sc p = true) ∧ (∀ p ∈ Dia.rowP161, Dia.sc p = true) ∧ (∀ p ∈ Dia.rowP163, Dia.sc p = true) ∧ (∀ p ∈ Dia.rowP164, Dia.sc p = true) ∧ (∀ p ∈ Dia.rowP165, Dia.sc p = true) := by decide +kernel
  obtain ⟨h1, h2, h3, h4, h5⟩ := h
  unfold Dia.rowP
  repeat' split
  all_goals first | assumption | simp
theorem Dia.rone_sc (l b : Int) (h : Dia.rone l b ≠ 0) : Dia.sc (Dia.rone l b) = true := by
  unfold Dia.rone at *
  split at h
  · exact absurd rfl h
  · rename_i h1
    rw [if_neg h1]
    split at h
    · exact absurd rfl h
    · rename_i h2
      rw [if_neg h2]
      rw [List.getD_eq_getElem?_getD] at h ⊢
      cases e : (Dia.rowP l)[(Dia.rcell b).toNat]? with
      | none => rw [e] at h; exact absurd rfl h
      | some p => exact Dia.rowP_sc l p (List.mem_of_getElem? e)
theorem Dia.rtwo_sc (c : Int) (h : (Dia.rtwo c).1 ≠ 0) : Dia.sc (Dia.rtwo c).1 = true ∧ Dia.sc (Dia.rtwo c).2 = true := by
  unfold Dia.rtwo at *
  repeat' split at h
  all_goals first | exact absurd rfl h | skip
  · rename_i h1; rw [if_pos h1]; decide
  · rename_i h1 h2; rw [if_neg h1, if_pos h2]; decide
  · rename_i h1 h2 h3; rw [if_neg h1, if_neg h2, if_pos h3]; decide
  · rename_i h1 h2 h3 h4; rw [if_neg h1, if_neg h2, if_neg h3, if_pos h4]; decide
set_option maxRecDepth 100000 in
theorem Tryd.c_rsigns (l b : Int) (w : World) (hl : 0 ≤ l ∧ l ≤ 255) (hb : 0 ≤ b ∧ b ≤ 255) :
    Calls Tryd.prog 8 #[.int .i64 l, .int .i64 b] w fun e w' => e = .returned (.string ⟨(Dia.rsigns l b).toArray⟩) ∧ Below w.heap.size w w' := by
  have HT := Aid.Hid2.mk (Tryd.c_rtwo l b w hl hb)
  have HO : Aid.Hid2 (∀ w1, Calls Tryd.prog 14 #[.int .i64 l, .int .i64 b] w1 fun e w' => e = .returned (.int .i32 (Dia.rone l b)) ∧ Below w1.heap.size w1 w') := ⟨fun w1 => Tryd.c_rone l b w1 hb⟩
  have h1 := Dia.rtwo_sc (l * 256 + b)
  have h2 := Dia.rone_sc l b
  generalize hD : Dia.rsigns l b = D
  unfold Dia.rsigns at hD
  generalize Dia.rtwo (l * 256 + b) = t at *
  generalize Dia.rone l b = o at *
  obtain ⟨p, q⟩ := t
  simp only at HT h1 hD
  by_cases hp : p = 0
  · rw [if_neg (by simpa using hp)] at hD
    subst hp
    clear h1
    by_cases ho : o = 0
    · rw [if_neg (by simpa using ho)] at hD
      subst ho
      subst hD
      clear h2
      go_enter Tryd.func8, Tryd.ntmps8
      go_wp2_with fail
      refine HT.out.mono ?_
      rintro e w1 ⟨rfl, rfl⟩
      go_wp2_with fail
      refine (HO.out _).mono ?_
      rintro e w2 ⟨rfl, hb2⟩
      go_wp2
      go_ret
      exact ⟨rfl, hb2⟩
    · rw [if_pos ho] at hD
      have HB : Aid.Hid2 (∀ w1, Calls Tryd.prog 22 #[.int .i32 o] w1 fun e w' => e = .returned (.string ⟨(Dia.enc o).toArray⟩) ∧ Below w1.heap.size w1 w') := ⟨fun w1 => Tryd.c_refBytes o w1 (h2 ho)⟩
      rw [hD] at HB
      clear h2 hD
      go_enter Tryd.func8, Tryd.ntmps8
      go_wp2_with fail
      refine HT.out.mono ?_
      rintro e w1 ⟨rfl, rfl⟩
      go_wp2_with fail
      refine (HO.out _).mono ?_
      rintro e w2 ⟨rfl, hb2⟩
      go_wp2_with fail
      refine (HB.out _).mono ?_
      rintro e w3 ⟨rfl, hb3⟩
      go_wp2
      go_ret
      exact ⟨rfl, Aid.bt hb2 hb3⟩
  · rw [if_pos hp] at hD
    obtain ⟨s1, s2⟩ := h1 hp
    have HB1 : Aid.Hid2 (∀ w1, Calls Tryd.prog 22 #[.int .i32 p] w1 fun e w' => e = .returned (.string ⟨(Dia.enc p).toArray⟩) ∧ Below w1.heap.size w1 w') := ⟨fun w1 => Tryd.c_refBytes p w1 s1⟩
    have HB2 : Aid.Hid2 (∀ w1, Calls Tryd.prog 22 #[.int .i32 q] w1 fun e w' => e = .returned (.string ⟨(Dia.enc q).toArray⟩) ∧ Below w1.heap.size w1 w') := ⟨fun w1 => Tryd.c_refBytes q w1 s2⟩
    have HD : Aid.Hid2 ((⟨(Dia.enc p).toArray⟩ : ByteArray) ++ ⟨(Dia.enc q).toArray⟩ = ⟨D.toArray⟩) := ⟨by rw [Dia.str_app, hD]⟩
    have hx := Dia.enc_len s1
    have hy := Dia.enc_len s2
    clear h1 h2 s1 s2 hD
    generalize Dia.enc p = x at *
    generalize Dia.enc q = y at *
    go_enter Tryd.func8, Tryd.ntmps8
    go_wp2_with fail
    refine HT.out.mono ?_
    rintro e w1 ⟨rfl, rfl⟩
    go_wp2_with fail
    refine (HB1.out _).mono ?_
    rintro e w2 ⟨rfl, hb2⟩
    go_wp2_with fail
    refine (HB2.out _).mono ?_
    rintro e w3 ⟨rfl, hb3⟩
    go_wp2
    go_ret
    exact ⟨congrArg (fun s => Ending.returned (.string s)) HD.out, Aid.bt hb2 hb3⟩
end Go.Proofs
