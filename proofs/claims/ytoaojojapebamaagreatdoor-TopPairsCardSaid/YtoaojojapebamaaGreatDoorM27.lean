/- walks of big5: Signs; PLAIN: big5, backwards; walks of big5's reference: leads, Code; walks of big5's reference: Code (printed by gcode.py) -/
import Derived.Test.YtoaojojapebamaaGreatDoorM26
import Derived.BigQuiet
import Derived.Deep.QuietTactic
namespace Go.Proofs
open Go.RowKit

set_option maxRecDepth 100000 in
set_option maxHeartbeats 2000000 in
theorem Tryz.c_bsigns_yes (l b : Int) (w : World) (hT : Tryz.Tabs w) (hl : 129 ≤ l ∧ l ≤ 254) (hb : 0 ≤ b ∧ b ≤ 255) (h : (Dia.bcell b).2 = true) :
    Calls Tryz.prog 37 #[.int .u8 l, .int .u8 b] w fun e w' => e = .returned (.tuple #[.string ⟨(Dia.bsigns l b).1.toArray⟩, .bool (Dia.bsigns l b).2]) ∧ Below w.heap.size w w' := by
  have HC := Aid.Hid2.mk (Tryz.c_bcell b w hb)
  have hbd := Dia.bcell_bd b
  obtain ⟨l0, l1⟩ := hl
  obtain ⟨b0, b1⟩ := hb
  have ho := Dia.or256 l b (by omega) (by omega) b0 (by omega)
  generalize hD : Dia.bsigns l b = D
  unfold Dia.bsigns at hD
  rw [if_neg (by rintro (h1 | h1 | h1); (rw [h] at h1; exact absurd h1 (by decide)); omega; omega)] at hD
  have hf := Dia.fwdl_sc Dia.bigL_sc ((l - 129) * 157 + (Dia.bcell b).1)
  have HF : Aid.Hid2 (∀ w1 a cap ls, Dia.T w1 a cap ls Dia.bigL → Calls Tryz.prog 50 #[.agg #[.slice a ls.length cap], .int .i64 ((l - 129) * 157 + (Dia.bcell b).1)] w1 fun e w' => e = .returned (.tuple #[.int .i32 (Dia.fwdl Dia.bigL ((l - 129) * 157 + (Dia.bcell b).1)).1, .bool (Dia.fwdl Dia.bigL ((l - 129) * 157 + (Dia.bcell b).1)).2]) ∧ Below w1.heap.size w1 w') :=
    ⟨fun w1 a cap ls ht => Tryz.t_Forward _ w1 ht (by omega)⟩
  have HL : Aid.Hid2 (∀ w1, Calls Tryz.prog 84 #[.int .i64 l] w1 fun e w' => e = .returned (.int .i64 ((l - 129) * 157)) ∧ w1 = w') := ⟨fun w1 => Tryz.c_brow l w1 ⟨by omega, by omega⟩⟩
  generalize l * 256 + b = kk at *
  generalize Dia.bcell b = c at *
  obtain ⟨c, ok⟩ := c
  simp only at h HC HF hbd hD hf
  subst h
  obtain ⟨c0, c1⟩ := hbd
  have HD1 : Aid.Hid2 (∀ p q, Dia.rtwo kk = (p, q) → p ≠ 0 → D = (Dia.enc p ++ Dia.enc q, true)) := ⟨fun p q e hp => by rw [← hD, e]; exact if_pos hp⟩
  have HD2 : Aid.Hid2 (Dia.rtwo kk = (0, 0) → D = if (Dia.fwdl Dia.bigL ((l - 129) * 157 + c)).2 = true then (Dia.enc (Dia.fwdl Dia.bigL ((l - 129) * 157 + c)).1, true) else ([], false)) := ⟨fun e => by rw [← hD, e]; exact if_neg (by decide)⟩
  clear hD
  have e3 : IntKind.i64.wrap ((l - 129) * 157 + c) = (l - 129) * 157 + c := IntWalk.i64_in _ (by omega)
  generalize Dia.fwdl Dia.bigL ((l - 129) * 157 + c) = fw at *
  obtain ⟨p, ok⟩ := fw
  simp only at HF hf HD2
  have i0 : ∀ w, (Instr.index 112 (.agg #[.int .i64 34914, .int .i32 202, .int .i32 772, .int .i64 34916, .int .i32 202, .int .i32 780, .int .i64 34979, .int .i32 234, .int .i32 772, .int .i64 34981, .int .i32 234, .int .i32 780]) (.int .i64 0)).run Tryz.prog w = .ok (.agg #[.int .i64 34914, .int .i32 202, .int .i32 772]) w := fun _ => by kernel_rfl
  have i1 : ∀ w, (Instr.index 112 (.agg #[.int .i64 34914, .int .i32 202, .int .i32 772, .int .i64 34916, .int .i32 202, .int .i32 780, .int .i64 34979, .int .i32 234, .int .i32 772, .int .i64 34981, .int .i32 234, .int .i32 780]) (.int .i64 1)).run Tryz.prog w = .ok (.agg #[.int .i64 34916, .int .i32 202, .int .i32 780]) w := fun _ => by kernel_rfl
  have i2 : ∀ w, (Instr.index 112 (.agg #[.int .i64 34914, .int .i32 202, .int .i32 772, .int .i64 34916, .int .i32 202, .int .i32 780, .int .i64 34979, .int .i32 234, .int .i32 772, .int .i64 34981, .int .i32 234, .int .i32 780]) (.int .i64 2)).run Tryz.prog w = .ok (.agg #[.int .i64 34979, .int .i32 234, .int .i32 772]) w := fun _ => by kernel_rfl
  have i3 : ∀ w, (Instr.index 112 (.agg #[.int .i64 34914, .int .i32 202, .int .i32 772, .int .i64 34916, .int .i32 202, .int .i32 780, .int .i64 34979, .int .i32 234, .int .i32 772, .int .i64 34981, .int .i32 234, .int .i32 780]) (.int .i64 3)).run Tryz.prog w = .ok (.agg #[.int .i64 34981, .int .i32 234, .int .i32 780]) w := fun _ => by kernel_rfl
  have g1 : decide (l < 129) = false := decide_eq_false (by omega)
  have g2 : (l == 255) = false := by simp; omega
  go_enter Tryz.func37, Tryz.ntmps37
  go_wp2_with fail
  refine HC.out.mono ?_
  rintro e w1 ⟨rfl, rfl⟩
  go_wp2_with fail
  refine (Tryz.c_bpairs _).mono ?_
  rintro e w1 ⟨rfl, hb1⟩
  go_wp2_with fail
  go_loopw [9, 27] (fun _ i wr => ∃ k : Int, 0 ≤ k ∧ k ≤ 4 ∧ i = .int .i64 k ∧ Aid.Hid2 (Dia.bpre k kk) ∧ Below w.heap.size w wr)
    (fun _ i _ => 4 - (intOf i).toNat)
  case atStart => exact ⟨0, by omega, by omega, rfl, ⟨Dia.bpre_0 _⟩, hb1⟩
  case round =>
    obtain ⟨k, hk0, hk4, rfl, HP, hb⟩ := hrel
    have h5 : k = 0 ∨ k = 1 ∨ k = 2 ∨ k = 3 ∨ k = 4 := by omega
    rcases h5 with rfl | rfl | rfl | rfl | rfl
    · by_cases hx : kk = 34914
      · subst hx
        go_wp2_with fail
        refine (Tryz.c_Text2 _ _ 202 772 _ ⟨rfl, rfl⟩ (by decide) (by decide)).mono ?_
        rintro e w2 ⟨rfl, hb2⟩
        go_wp2
        go_ret2
        rw [HD1.out 202 772 rfl (by decide)]
        exact ⟨rfl, Aid.bt hb hb2⟩
      · have hx' : ((34914 : Int) == kk) = false := by simp; omega
        have H2 := Aid.Hid2.mk (Dia.bpre_1 HP.out hx)
        clear hx HP
        go_wp2
        go_roundw
        case rel => exact ⟨1, by omega, by omega, rfl, H2, Aid.bt hb (Aid.b1 _ _)⟩
        case measure => simp [intOf]
    · by_cases hx : kk = 34916
      · subst hx
        go_wp2_with fail
        refine (Tryz.c_Text2 _ _ 202 780 _ ⟨rfl, rfl⟩ (by decide) (by decide)).mono ?_
        rintro e w2 ⟨rfl, hb2⟩
        go_wp2
        go_ret2
        rw [HD1.out 202 780 rfl (by decide)]
        exact ⟨rfl, Aid.bt hb hb2⟩
      · have hx' : ((34916 : Int) == kk) = false := by simp; omega
        have H2 := Aid.Hid2.mk (Dia.bpre_2 HP.out hx)
        clear hx HP
        go_wp2
        go_roundw
        case rel => exact ⟨2, by omega, by omega, rfl, H2, Aid.bt hb (Aid.b1 _ _)⟩
        case measure => simp [intOf]
    · by_cases hx : kk = 34979
      · subst hx
        go_wp2_with fail
        refine (Tryz.c_Text2 _ _ 234 772 _ ⟨rfl, rfl⟩ (by decide) (by decide)).mono ?_
        rintro e w2 ⟨rfl, hb2⟩
        go_wp2
        go_ret2
        rw [HD1.out 234 772 rfl (by decide)]
        exact ⟨rfl, Aid.bt hb hb2⟩
      · have hx' : ((34979 : Int) == kk) = false := by simp; omega
        have H2 := Aid.Hid2.mk (Dia.bpre_3 HP.out hx)
        clear hx HP
        go_wp2
        go_roundw
        case rel => exact ⟨3, by omega, by omega, rfl, H2, Aid.bt hb (Aid.b1 _ _)⟩
        case measure => simp [intOf]
    · by_cases hx : kk = 34981
      · subst hx
        go_wp2_with fail
        refine (Tryz.c_Text2 _ _ 234 780 _ ⟨rfl, rfl⟩ (by decide) (by decide)).mono ?_
        rintro e w2 ⟨rfl, hb2⟩
        go_wp2
        go_ret2
        rw [HD1.out 234 780 rfl (by decide)]
        exact ⟨rfl, Aid.bt hb hb2⟩
      · have hx' : ((34981 : Int) == kk) = false := by simp; omega
        have H2 := Aid.Hid2.mk (Dia.bpre_4 HP.out hx)
        clear hx HP
        go_wp2
        go_roundw
        case rel => exact ⟨4, by omega, by omega, rfl, H2, Aid.bt hb (Aid.b1 _ _)⟩
        case measure => simp [intOf]
    · have HD3 := Aid.Hid2.mk (HD2.out (Dia.bpre_two HP.out))
      clear HP
      cases ok with
      | false =>
        clear hf
        go_wp2_with fail
        refine (Tryz.c_btable _ (hT.below hb)).mono ?_
        rintro e w2 ⟨ls, hl1, x, cp, rfl, ht, hb2⟩
        go_wp2_with fail
        refine (HL.out _).mono ?_
        rintro e w3 ⟨rfl, rfl⟩
        go_wp2_with fail
        refine (HF.out _ _ _ _ ht).mono ?_
        rintro e w3 ⟨rfl, hb3⟩
        go_wp2
        go_ret2
        rw [HD3.out]
        exact ⟨rfl, Aid.bt (Aid.bt hb hb2) hb3⟩
      | true =>
        have hp := hf rfl
        clear hf
        go_wp2_with fail
        refine (Tryz.c_btable _ (hT.below hb)).mono ?_
        rintro e w2 ⟨ls, hl1, x, cp, rfl, ht, hb2⟩
        go_wp2_with fail
        refine (HL.out _).mono ?_
        rintro e w3 ⟨rfl, rfl⟩
        go_wp2_with fail
        refine (HF.out _ _ _ _ ht).mono ?_
        rintro e w3 ⟨rfl, hb3⟩
        go_wp2_with fail
        refine (Tryz.c_Text1 p _ hp).mono ?_
        rintro e w4 ⟨rfl, hb4⟩
        go_wp2
        go_ret2
        rw [HD3.out]
        exact ⟨rfl, Aid.bt (Aid.bt (Aid.bt hb hb2) hb3) hb4⟩
end Go.Proofs
namespace Go.Proofs.Dia

/-- the place of a sign in a row's rest, from a place on -/
def rcI (p : Int) : Nat → List Int → Option Nat
  | _, [] => none
  | n, x :: l => if x = p ∧ x ≠ 63 then some n else rcI p (n + 1) l
/-- the code of a row's place -/
def rcC (lead : Int) (c : Nat) : Int := if c < 63 then lead * 256 + 64 + c else lead * 256 + 161 + c - 63
def rcRow (p lead : Int) : Option Int := (rcI p 0 (rowP lead)).map (rcC lead)
def rcGo (p : Int) : List Int → Int × Int
  | [] => (-1, 0)
  | x :: l => match rcRow p x with | some c => (c, 1) | none => rcGo p l
def rcode1 (p : Int) : Int × Int := rcGo p [136, 161, 163, 164, 165]
def btwoC (p q : Int) : Int := if p = 202 ∧ q = 772 then 34914 else if p = 202 ∧ q = 780 then 34916 else if p = 234 ∧ q = 772 then 34979 else if p = 234 ∧ q = 780 then 34981 else 0
/-- Code -/
def rcode : List Int → Int × Int
  | [] => (-1, 0)
  | [p] => rcode1 p
  | p :: q :: _ => if btwoC p q ≠ 0 then (btwoC p q, 2) else rcode1 p
def bone (p : Int) : List UInt8 × Int := if (revl bigL p).2 = true then (bigB (bcode (revl bigL p).1).toNat 2, 1) else ([], 0)
/-- Bytes -/
def bbytes : List Int → List UInt8 × Int
  | [] => ([], 0)
  | [p] => bone p
  | p :: q :: _ => if btwoC p q ≠ 0 then (bigB (btwoC p q).toNat 2, 2) else bone p

theorem bbytes_two (p q : Int) (r : List Int) : bbytes (p :: q :: r) = if btwoC p q ≠ 0 then (bigB (btwoC p q).toNat 2, 2) else bone p := rfl
theorem rcode_two (p q : Int) (r : List Int) : rcode (p :: q :: r) = if btwoC p q ≠ 0 then (btwoC p q, 2) else rcode1 p := rfl
theorem rcI_bd (p : Int) : ∀ (l : List Int) (n i : Nat), rcI p n l = some i → n ≤ i ∧ i < n + l.length
  | [], _, _, h => by simp [rcI] at h
  | x :: l, n, i, h => by
    unfold rcI at h
    split at h
    · simp at h; subst h; simp
    · have := rcI_bd p l (n + 1) i h
      simp; omega
theorem rowPairs_rev (p k : Int) : ∀ (l : List Int) (n : Nat), (rowPairs (k + n) l).find? (fun q => q.2 == p) = (rcI p n l).map fun (i : Nat) => (k + (i : Int), p)
  | [], _ => rfl
  | x :: l, n => by
    have ih := rowPairs_rev p k l (n + 1)
    have e : k + (n : Int) + 1 = k + ((n + 1 : Nat) : Int) := by omega
    unfold rowPairs rcI
    rw [e]
    by_cases hx : x = 63
    · rw [if_pos hx, if_neg (by rintro ⟨_, h⟩; exact h hx), ih]
    · rw [if_neg hx, List.find?_cons]
      by_cases hp : x = p
      · subst hp
        rw [if_pos ⟨rfl, hx⟩]
        simp
      · have hb : (x == p) = false := by simpa using hp
        rw [if_neg (by rintro ⟨h, _⟩; exact hp h)]
        simp only [hb]
        exact ih
theorem bcode_at (lead : Int) (i : Nat) (_h0 : 129 ≤ lead) (hi : i < 157) : bcode ((lead - 129) * 157 + i) = rcC lead i := by
  have e1 : ((lead - 129) * 157 + (i : Int)) / 157 = lead - 129 := by omega
  have e2 : ((lead - 129) * 157 + (i : Int)) % 157 = i := by omega
  unfold bcode rcC
  rw [e1, e2]
  by_cases h : i < 63
  · rw [if_pos (by omega), if_pos h]; omega
  · rw [if_neg (by omega), if_neg h]; omega
theorem rcC_bd (lead : Int) (i : Nat) (h0 : 129 ≤ lead) (h1 : lead ≤ 254) (hi : i < 157) : 0 ≤ rcC lead i ∧ rcC lead i < 65536 := by
  unfold rcC; split <;> omega
theorem rcode1_bd (p : Int) : rcode1 p = (-1, 0) ∨ ((rcode1 p).2 = 1 ∧ 0 ≤ (rcode1 p).1 ∧ (rcode1 p).1 < 65536) := by
  obtain ⟨l1, l2, l3, l4, l5⟩ := row_lens
  have B : ∀ lead l i, 129 ≤ lead → lead ≤ 254 → rcI p 0 l = some i → l.length ≤ 157 → 0 ≤ rcC lead i ∧ rcC lead i < 65536 := fun lead l i a b h hl => rcC_bd lead i a b (by have := rcI_bd p _ _ _ h; omega)
  unfold rcode1
  simp only [rcGo, rcRow, rowP]
  simp only [if_true, show ((161 : Int) = 136) = False from by simp, show ((163 : Int) = 136) = False from by simp, show ((163 : Int) = 161) = False from by simp, show ((164 : Int) = 136) = False from by simp, show ((164 : Int) = 161) = False from by simp, show ((164 : Int) = 163) = False from by simp, show ((165 : Int) = 136) = False from by simp, show ((165 : Int) = 161) = False from by simp, show ((165 : Int) = 163) = False from by simp, show ((165 : Int) = 164) = False from by simp, if_false]
  cases h1 : rcI p 0 rowP136 with
  | some i => exact .inr ⟨rfl, B 136 _ i (by decide) (by decide) h1 (by omega)⟩
  | none =>
    cases h2 : rcI p 0 rowP161 with
    | some i => exact .inr ⟨rfl, B 161 _ i (by decide) (by decide) h2 (by omega)⟩
    | none =>
      cases h3 : rcI p 0 rowP163 with
      | some i => exact .inr ⟨rfl, B 163 _ i (by decide) (by decide) h3 (by omega)⟩
      | none =>
        cases h4 : rcI p 0 rowP164 with
        | some i => exact .inr ⟨rfl, B 164 _ i (by decide) (by decide) h4 (by omega)⟩
        | none =>
          cases h5 : rcI p 0 rowP165 with
          | some i => exact .inr ⟨rfl, B 165 _ i (by decide) (by decide) h5 (by omega)⟩
          | none => exact .inl rfl
theorem bone_eq (p : Int) : bone p = if (rcode1 p).2 = 0 then ([], 0) else (bigB (rcode1 p).1.toNat 2, 1) := by
  obtain ⟨l1, l2, l3, l4, l5⟩ := row_lens
  have R1 := rowPairs_rev p (7 * 157) rowP136 0
  have R2 := rowPairs_rev p (32 * 157) rowP161 0
  have R3 := rowPairs_rev p (34 * 157) rowP163 0
  have R4 := rowPairs_rev p (35 * 157) rowP164 0
  have R5 := rowPairs_rev p (36 * 157) rowP165 0
  have z : ∀ k : Int, k + ((0 : Nat) : Int) = k := fun k => by omega
  rw [z] at R1 R2 R3 R4 R5
  have B : ∀ lead l i, 129 ≤ lead → rcI p 0 l = some i → l.length ≤ 157 → bcode ((lead - 129) * 157 + i) = rcC lead i := fun lead l i a h hl => bcode_at lead i a (by have := rcI_bd p _ _ _ h; omega)
  unfold bone revl
  rw [big_rows, List.find?_append, List.find?_append, List.find?_append, List.find?_append, R1, R2, R3, R4, R5]
  unfold rcode1
  simp only [rcGo, rcRow, rowP]
  simp only [if_true, show ((161 : Int) = 136) = False from by simp, show ((163 : Int) = 136) = False from by simp, show ((163 : Int) = 161) = False from by simp, show ((164 : Int) = 136) = False from by simp, show ((164 : Int) = 161) = False from by simp, show ((164 : Int) = 163) = False from by simp, show ((165 : Int) = 136) = False from by simp, show ((165 : Int) = 161) = False from by simp, show ((165 : Int) = 163) = False from by simp, show ((165 : Int) = 164) = False from by simp, if_false]
  cases h1 : rcI p 0 rowP136 with
  | some i => simp only [Option.map_some, Option.some_or, if_true]; rw [if_neg (by decide), ← B 136 _ i (by decide) h1 (by omega)]; rfl
  | none =>
    cases h2 : rcI p 0 rowP161 with
    | some i => simp only [Option.map_some, Option.map_none, Option.none_or, Option.some_or, if_true]; rw [if_neg (by decide), ← B 161 _ i (by decide) h2 (by omega)]; rfl
    | none =>
      cases h3 : rcI p 0 rowP163 with
      | some i => simp only [Option.map_some, Option.map_none, Option.none_or, Option.some_or, if_true]; rw [if_neg (by decide), ← B 163 _ i (by decide) h3 (by omega)]; rfl
      | none =>
        cases h4 : rcI p 0 rowP164 with
        | some i => simp only [Option.map_some, Option.map_none, Option.none_or, Option.some_or, if_true]; rw [if_neg (by decide), ← B 164 _ i (by decide) h4 (by omega)]; rfl
        | none =>
          cases h5 : rcI p 0 rowP165 with
          | some i => simp only [Option.map_some, Option.map_none, Option.none_or, if_true]; rw [if_neg (by decide), ← B 165 _ i (by decide) h5 (by omega)]; rfl
          | none => rfl
theorem bbytes_eq (l : List Int) : bbytes l = if (rcode l).2 = 0 then ([], 0) else (bigB (rcode l).1.toNat 2, (rcode l).2) := by
  have H : ∀ p, bone p = if (rcode1 p).2 = 0 then ([], 0) else (bigB (rcode1 p).1.toNat 2, (rcode1 p).2) := fun p => by
    rw [bone_eq]
    rcases rcode1_bd p with h | ⟨h, _⟩
    · rw [h]; rfl
    · rw [h]
  match l with
  | [] => rfl
  | [p] => exact H p
  | p :: q :: r =>
    rw [bbytes_two, rcode_two]
    by_cases h : btwoC p q = 0
    · have h' : ¬ (btwoC p q ≠ 0) := by simp [h]
      rw [if_neg h', if_neg h']; exact H p
    · rw [if_pos h, if_pos h]; rfl
theorem btwoC_bd (p q : Int) : 0 ≤ btwoC p q ∧ btwoC p q < 65536 := by
  unfold btwoC
  repeat' split
  all_goals decide
theorem rcode_bd (l : List Int) : rcode l = (-1, 0) ∨ (0 ≤ (rcode l).1 ∧ (rcode l).1 < 65536 ∧ ((rcode l).2 = 1 ∨ (rcode l).2 = 2)) := by
  have H : ∀ p, rcode1 p = (-1, 0) ∨ (0 ≤ (rcode1 p).1 ∧ (rcode1 p).1 < 65536 ∧ ((rcode1 p).2 = 1 ∨ (rcode1 p).2 = 2)) := fun p => by
    rcases rcode1_bd p with h | ⟨h, h0, h1⟩
    · exact .inl h
    · exact .inr ⟨h0, h1, .inl h⟩
  match l with
  | [] => exact .inl rfl
  | [p] => exact H p
  | p :: q :: r =>
    rw [rcode_two]
    by_cases h : btwoC p q = 0
    · have h' : ¬ (btwoC p q ≠ 0) := by simp [h]
      rw [if_neg h']; exact H p
    · rw [if_pos h]; exact .inr ⟨(btwoC_bd p q).1, (btwoC_bd p q).2, .inr rfl⟩
theorem bbytes_app (l m : List Int) (h : 2 ≤ l.length) : bbytes (l ++ m) = bbytes l := by
  match l, h with
  | p :: q :: r, _ => rfl
theorem bbytes_one (l : List Int) (h : 2 ≤ l.length) : (bbytes l).2 = 2 ∨ bbytes l = bbytes [l.getD 0 0] := by
  match l, h with
  | p :: q :: r, _ =>
    rw [bbytes_two]
    by_cases h : btwoC p q = 0
    · have h' : ¬ (btwoC p q ≠ 0) := by simp [h]
      rw [if_neg h']; exact .inr rfl
    · rw [if_pos h]; exact .inl rfl
end Go.Proofs.Dia
namespace Go.Proofs
open Go.RowKit

def Dia.leadL : List Int := [136, 161, 163, 164, 165]
def Dia.iv (x : Int) : Value := .int .i64 x
theorem Dia.btwoC_of (b p q : Int) (h : Dia.rtwo (34816 + b) = (p, q)) (hp : p ≠ 0) : Dia.btwoC p q = 34816 + b := by
  unfold Dia.rtwo at h
  repeat' split at h
  all_goals (cases h; first | exact absurd rfl hp | (rename_i e; rw [e]; rfl) | (rename_i _ e; rw [e]; rfl) | skip)
theorem Dia.btwoC_no (p q : Int) (h : ∀ b : Int, 64 ≤ b → b < 255 → ¬ ((Dia.rtwo (34816 + b)).1 ≠ 0 ∧ (Dia.rtwo (34816 + b)).1 = p ∧ (Dia.rtwo (34816 + b)).2 = q)) : Dia.btwoC p q = 0 := by
  unfold Dia.btwoC
  split
  · rename_i e; exact absurd ⟨by decide, by rw [e.1]; rfl, by rw [e.2]; rfl⟩ (h 98 (by decide) (by decide))
  split
  · rename_i e; exact absurd ⟨by decide, by rw [e.1]; rfl, by rw [e.2]; rfl⟩ (h 100 (by decide) (by decide))
  split
  · rename_i e; exact absurd ⟨by decide, by rw [e.1]; rfl, by rw [e.2]; rfl⟩ (h 163 (by decide) (by decide))
  split
  · rename_i e; exact absurd ⟨by decide, by rw [e.1]; rfl, by rw [e.2]; rfl⟩ (h 165 (by decide) (by decide))
  rfl
end Go.Proofs
namespace Go.Proofs
open Go.RowKit

end Go.Proofs
