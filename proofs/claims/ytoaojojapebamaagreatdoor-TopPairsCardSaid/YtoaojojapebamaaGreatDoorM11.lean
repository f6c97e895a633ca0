/- walks of run: right, of codes one behind the other -/
import Derived.Test.YtoaojojapebamaaGreatDoorM10
namespace Go.Proofs
open Go.RowKit

set_option maxRecDepth 100000 in
set_option maxHeartbeats 1000000 in
theorem Tryz.c_right_seq (f t c : Int) (w : World) (hf : -9223372036854775808 ≤ f ∧ f ≤ 9223372036854775807) (hc : -9223372036854775808 ≤ c ∧ c ≤ 9223372036854775807) (ht : -2147483648 ≤ t ∧ t ≤ 2147483647) :
    Calls Tryz.prog 99 #[.agg #[.int .i64 f, .int .i32 t, .int .i64 c, .string ⟨#[]⟩]] w fun e w' => Tryz.IsRight (Dia.right ⟨f, t, c, []⟩) w w' e := by
  obtain ⟨hf0, hf1⟩ := hf
  obtain ⟨hc0, hc1⟩ := hc
  obtain ⟨ht0, ht1⟩ := ht
  by_cases hr : f < 0 ∨ c < 1 ∨ 1048576 < c ∨ 1048576 - c < f
  · have hn : Dia.right ⟨f, t, c, []⟩ = none := by
      unfold Dia.right Dia.inRange
      simp only [if_true]
      rw [decide_eq_false (by omega)]; rfl
    have HN := Aid.Hid2.mk hn
    clear hn
    go_enter Tryz.func99, Tryz.ntmps99
    go_wp2
    all_goals first
      | (exfalso; omega)
      | exact bodyPost_ret (v := .tuple #[.agg #[.int .i64 0, .int .i32 0, .int .i64 0, .slice none 0 0], .bool false]) (by simp [results, Tryz.results99, go_sem]) rfl
          ⟨0, 0, 0, none, 0, 0, by rw [HN.out]; rfl, (by rw [HN.out]; intro r hr; cases hr), Aid.b3 _ _ _ _⟩
  · have h1 : 0 ≤ f := by omega
    have h2 : 1 ≤ c := by omega
    have h3 : c ≤ 1048576 := by omega
    have h4 : f ≤ 1048576 - c := by omega
    clear hr hf0 hf1 hc0 hc1
    have hir : Dia.inRange f c = true := decide_eq_true ⟨h1, h2, h3, h4⟩
    cases hs5 : Dia.sc t
    · have HN : Aid.Hid2 (Dia.right ⟨f, t, c, []⟩ = none) := ⟨by
        unfold Dia.right Dia.seqOk
        simp [hs5]⟩
      have H5 : Aid.Hid2 (∀ w, Calls Tryz.prog 55 #[.int .i32 t] w fun e w' => e = .returned (.bool false) ∧ w = w') := ⟨fun w => by have := Tryz.c_Scalar t w; rw [hs5] at this; exact this⟩
      clear hs5 hir
      go_enter Tryz.func99, Tryz.ntmps99
      go_wp2_with (go_at_call 55; refine (H5.out _).mono ?_; rintro e w1 ⟨rfl, rfl⟩)
      all_goals first
        | (exfalso; omega)
        | exact bodyPost_ret (v := .tuple #[.agg #[.int .i64 0, .int .i32 0, .int .i64 0, .slice none 0 0], .bool false]) (by simp [results, Tryz.results99, go_sem]) rfl
            ⟨0, 0, 0, none, 0, 0, by rw [HN.out]; rfl, (by rw [HN.out]; intro r hr; cases hr), Aid.b3 _ _ _ _⟩
    · have H5 : Aid.Hid2 (∀ w, Calls Tryz.prog 55 #[.int .i32 t] w fun e w' => e = .returned (.bool true) ∧ w = w') := ⟨fun w => by have := Tryz.c_Scalar t w; rw [hs5] at this; exact this⟩
      have hb := (Dia.sc_iff t).1 hs5
      have t0 : 0 ≤ t := by omega
      have t1 : t ≤ 1114111 := by omega
      have HE : Aid.Hid2 (Dia.right ⟨f, t, c, []⟩ = if (Dia.sc (t + (c - 1)) && (decide (55296 ≤ t) || decide (t + (c - 1) ≤ 57343))) = true then some ⟨f, t, c, []⟩ else none) := ⟨by
        unfold Dia.right Dia.seqOk
        simp only [if_true, hs5, hir, Bool.true_and]⟩
      have H6 : Aid.Hid2 (∀ w, Calls Tryz.prog 55 #[.int .i32 (t + (c - 1))] w fun e w' => e = .returned (.bool (Dia.sc (t + (c - 1)))) ∧ w = w') := ⟨fun w => Tryz.c_Scalar _ w⟩
      clear hs5 hir hb ht0 ht1
      generalize hq : Dia.sc (t + (c - 1)) = q at *
      clear hq
      have fin : ∀ (bb : Bool), (q && (decide (55296 ≤ t) || decide (t + (c - 1) ≤ 57343))) = bb → Aid.Hid2 (∀ (w w' : World), Below w.heap.size w w' → Tryz.IsRight (Dia.right ⟨f, t, c, []⟩) w w' (.returned (.tuple #[.agg #[.int .i64 f, .int .i32 t, .int .i64 c, .slice none 0 0], .bool bb]))) := by
        intro bb hbb
        refine ⟨fun w w' hw => ⟨f, t, c, none, 0, 0, ?_, ?_, hw⟩⟩
        · rw [HE.out, hbb]; cases bb <;> rfl
        · rw [HE.out, hbb]
          intro r hr
          cases bb
          · cases hr
          · cases hr
            exact ⟨rfl, rfl, rfl, rfl, World.ownsRow_nil _ _ _ _⟩
      clear HE
      cases q
      · exact Tryz.c_right_s1 f t c w h1 h2 h3 h4 t0 t1 H5 H6 (fin false rfl)
      · by_cases hd : 55296 ≤ t
        · exact Tryz.c_right_s2 f t c w h1 h2 h3 h4 t0 t1 (decide_eq_true hd) H5 H6 (fin true (by rw [decide_eq_true hd]; rfl))
        · by_cases he : t + (c - 1) ≤ 57343
          · exact Tryz.c_right_s3 f t c w h1 h2 h3 h4 t0 t1 (decide_eq_false hd) (decide_eq_true he) H5 H6 (fin true (by rw [decide_eq_true he, Bool.or_true]; rfl))
          · exact Tryz.c_right_s4 f t c w h1 h2 h3 h4 t0 t1 (decide_eq_false hd) (decide_eq_false he) H5 H6 (fin false (by rw [decide_eq_false hd, decide_eq_false he]; rfl))
end Go.Proofs
