/- walks of point's reference: At -/
import Derived.Test.YtfdkolodpealmaaDoorW4
namespace Go.Proofs
open Go.RowKit

theorem Dia.acc_bd (l : List UInt8) (i : Nat) {c : Nat} {n : Nat} {p0 : Int} (k : Nat) (hc : Dia.Lead c n p0) (hm : ∀ j, 1 ≤ j → j < k + 1 → 0 ≤ Dia.more l (i + j)) : 0 ≤ Dia.acc l i p0 k ∧ (k ≤ 3 → Dia.acc l i p0 k ≤ 8388607) := by
  have h0 : 0 ≤ p0 ∧ p0 ≤ 31 := by unfold Dia.Lead at hc; omega
  have key : ∀ k : Nat, (∀ j, 1 ≤ j → j < k + 1 → 0 ≤ Dia.more l (i + j)) → 0 ≤ Dia.acc l i p0 k := by
    intro k
    induction k with
    | zero => intro _; exact h0.1
    | succ k ih =>
      intro hm
      have h1 := ih (fun j a b => hm j a (by omega))
      have h2 := hm (k + 1) (by omega) (by omega)
      show 0 ≤ Dia.acc l i p0 k * 64 + Dia.more l (i + (k + 1))
      omega
  refine ⟨key k hm, fun hk => ?_⟩
  have hmm := Dia.more_le l
  have a0 : Dia.acc l i p0 0 = p0 := rfl
  have a1 : Dia.acc l i p0 1 = Dia.acc l i p0 0 * 64 + Dia.more l (i + 1) := rfl
  have a2 : Dia.acc l i p0 2 = Dia.acc l i p0 1 * 64 + Dia.more l (i + 2) := rfl
  have a3 : Dia.acc l i p0 3 = Dia.acc l i p0 2 * 64 + Dia.more l (i + 3) := rfl
  have m1 := hmm (i + 1)
  have m2 := hmm (i + 2)
  have m3 := hmm (i + 3)
  have : k = 0 ∨ k = 1 ∨ k = 2 ∨ k = 3 := by omega
  rcases this with rfl | rfl | rfl | rfl <;> omega

set_option maxRecDepth 100000 in
theorem Tryd.c_more' (s : ByteArray) (i : Nat) (w : World) (j : Int) (_hs : s.size ≤ 9223372036854775807) (hj : (Value.int .i64 j) = .int .i64 (i : Nat)) :
    Calls Tryd.prog 53 #[.string s, .int .i64 j] w fun e w' => e = .returned (.int .i32 (Dia.more s.data.toList i)) ∧ w = w' := by
  cases hj
  exact Tryd.c_more s i w _hs

set_option maxRecDepth 100000 in
set_option maxHeartbeats 1000000 in
theorem Tryd.c_At (s : ByteArray) (i : Nat) (w : World) (hi : i < s.size) (hs : s.size ≤ 1000000) :
    Calls Tryd.prog 36 #[.string s, .int .i64 i] w fun e w' =>
      e = .returned (.tuple #[.int .i32 (Dia.hd (s.data.toList.drop i)).1, .int .i64 ((Dia.hd (s.data.toList.drop i)).2 : Nat)]) ∧ Below w.heap.size w w' := by
  have hi' : i < s.data.toList.length := hi
  have hb := s[i].toNat_lt
  by_cases c1 : s[i].toNat < 128
  · have hres := Lib.hid (Dia.at_ascii hi' c1)
    have c1' : (s[i].toNat : Int) < 128 := by omega
    go_enter Tryd.func36, Tryd.ntmps36
    go_wp2
    go_ret2
    rw [hres.out]
    exact ⟨rfl, Below.refl _ _⟩
  by_cases c2 : (128 ≤ s[i].toNat ∧ s[i].toNat < 192) ∨ 248 ≤ s[i].toNat
  · have hres := Lib.hid (Dia.at_stray hi' c2)
    have c1' : ¬ (s[i].toNat : Int) < 128 := by omega
    rcases c2 with c2 | c2
    · have c2' : (s[i].toNat : Int) < 192 := by omega
      go_enter Tryd.func36, Tryd.ntmps36
      go_wp2
      go_ret2
      rw [hres.out]
      exact ⟨rfl, Below.refl _ _⟩
    · have c2' : 248 ≤ (s[i].toNat : Int) := by omega
      go_enter Tryd.func36, Tryd.ntmps36
      go_wp2
      go_ret2
      rw [hres.out]
      exact ⟨rfl, Below.refl _ _⟩
  have hl : ∃ n p0, Dia.Lead (s.data.toList[i]).toNat n p0 := by
    show ∃ n p0, Dia.Lead (s[i]).toNat n p0
    by_cases d2 : s[i].toNat < 224
    · exact ⟨2, _, .inl ⟨rfl, by omega, d2, rfl⟩⟩
    by_cases d3 : s[i].toNat < 240
    · exact ⟨3, _, .inr (.inl ⟨rfl, by omega, d3, rfl⟩)⟩
    · exact ⟨4, _, .inr (.inr ⟨rfl, by omega, by omega, rfl⟩)⟩
  clear c2
  obtain ⟨n, p0, hc⟩ := hl
  have hlead : Dia.Lead (s[i]).toNat n p0 := hc
  have hcc := hlead
  unfold Dia.Lead at hcc
  have hn : n = 2 ∨ n = 3 ∨ n = 4 := by omega
  clear hcc c1 hb
  rcases hn with rfl | rfl | rfl
  · have hn : 2 ≤ 4 := by omega
    obtain rfl : p0 = (s[i].toNat : Int) - 192 := by unfold Dia.Lead at hlead; omega
    have hlo : (192 : Int) ≤ (s[i].toNat : Int) := by unfold Dia.Lead at hlead; omega
    have hhi : (s[i].toNat : Int) < 224 := by unfold Dia.Lead at hlead; omega
    go_enter Tryd.func36, Tryd.ntmps36
    go_wp2
    go_loopw [8, 9, 10] (fun p kk _ wr => ∃ k : Nat, k + 1 ≤ 2 ∧ kk = .int .i64 (k + 1 : Nat) ∧ p = .int .i32 (Dia.acc s.data.toList i ((s[i].toNat : Int) - 192) k) ∧ (∀ j, 1 ≤ j → j < k + 1 → 0 ≤ Dia.more s.data.toList (i + j)) ∧ w = wr)
      (fun _ kk _ _ => 2 - (intOf kk).toNat)
    case atStart => exact ⟨0, by omega, rfl, rfl, by omega, rfl⟩
    case round =>
      obtain ⟨k, hk, rfl, rfl, hm, rfl⟩ := hrel
      have hml := Dia.more_le s.data.toList (i + (k + 1))
      have hbd := Dia.acc_bd s.data.toList i k hlead hm
      by_cases hlt : k + 1 < 2
      · by_cases hneg : Dia.more s.data.toList (i + (k + 1)) < 0
        · have hres := Lib.hid (Dia.at_short hi' hc (k := k + 1) (by omega) hlt hneg)
          go_wp2_with (go_at_call 53; refine (Tryd.c_more' s (i + (k + 1)) _ _ (by omega) (by go_num)).mono ?_; rintro e w' ⟨rfl, rfl⟩)
          go_ret2
          rw [hres.out]
          exact ⟨rfl, Below.refl _ _⟩
        · go_wp2_with (go_at_call 53; refine (Tryd.c_more' s (i + (k + 1)) _ _ (by omega) (by go_num)).mono ?_; rintro e w' ⟨rfl, rfl⟩)
          go_roundw
          case rel => exact ⟨k + 1, by omega, by go_num, by go_num, fun j h1 h2 => (by
            by_cases e : j = k + 1
            · subst e; omega
            · exact hm j h1 (by omega)), by trivial⟩
          case measure => simp [intOf]; omega
      · obtain rfl : k = 2 - 1 := by omega
        have hend := Dia.at_end hi' hc hm
        have H1 : Aid.Hid2 (¬ (Dia.sc (Dia.acc s.data.toList i ((s[i].toNat : Int) - 192) 1) = true ∧ (Dia.enc (Dia.acc s.data.toList i ((s[i].toNat : Int) - 192) 1)).length = 2) → Dia.hd (s.data.toList.drop i) = (0, 0)) := ⟨hend.1⟩
        have H2 : Aid.Hid2 ((Dia.sc (Dia.acc s.data.toList i ((s[i].toNat : Int) - 192) 1) = true ∧ (Dia.enc (Dia.acc s.data.toList i ((s[i].toNat : Int) - 192) 1)).length = 2) → Dia.hd (s.data.toList.drop i) = ((Dia.acc s.data.toList i ((s[i].toNat : Int) - 192) 1), 2)) := ⟨hend.2⟩
        clear hend
        by_cases hs : Dia.sc (Dia.acc s.data.toList i ((s[i].toNat : Int) - 192) 1) = true
        · have hel := Dia.enc_len hs
          go_wp2_with (first
            | (go_at_call 54; refine (Tryd.c_refScalar _ _).mono ?_; rintro e w' ⟨rfl, rfl⟩)
            | (go_at_call 35; refine (Tryd.c_refBytes _ _ hs).mono ?_; rintro e w1 ⟨rfl, hb1⟩))
          · have hz : (((Dia.enc (Dia.acc s.data.toList i ((s[i].toNat : Int) - 192) 1)).length : Int) != 2) = true := by assumption
            go_ret2
            rw [H1.out (by rintro ⟨_, h⟩; rw [h] at hz; simp at hz)]
            exact ⟨rfl, hb1⟩
          · have hz : (((Dia.enc (Dia.acc s.data.toList i ((s[i].toNat : Int) - 192) 1)).length : Int) != 2) = false := by assumption
            go_ret2
            rw [H2.out ⟨hs, by simp at hz; omega⟩]
            exact ⟨rfl, hb1⟩
        · go_wp2_with (go_at_call 54; refine (Tryd.c_refScalar _ _).mono ?_; rintro e w' ⟨rfl, rfl⟩)
          go_ret2
          rw [H1.out (fun h => hs h.1)]
          exact ⟨rfl, Below.refl _ _⟩
  · have hn : 3 ≤ 4 := by omega
    obtain rfl : p0 = (s[i].toNat : Int) - 224 := by unfold Dia.Lead at hlead; omega
    have hlo : (224 : Int) ≤ (s[i].toNat : Int) := by unfold Dia.Lead at hlead; omega
    have hhi : (s[i].toNat : Int) < 240 := by unfold Dia.Lead at hlead; omega
    go_enter Tryd.func36, Tryd.ntmps36
    go_wp2
    go_loopw [8, 9, 10] (fun p kk _ wr => ∃ k : Nat, k + 1 ≤ 3 ∧ kk = .int .i64 (k + 1 : Nat) ∧ p = .int .i32 (Dia.acc s.data.toList i ((s[i].toNat : Int) - 224) k) ∧ (∀ j, 1 ≤ j → j < k + 1 → 0 ≤ Dia.more s.data.toList (i + j)) ∧ w = wr)
      (fun _ kk _ _ => 3 - (intOf kk).toNat)
    case atStart => exact ⟨0, by omega, rfl, rfl, by omega, rfl⟩
    case round =>
      obtain ⟨k, hk, rfl, rfl, hm, rfl⟩ := hrel
      have hml := Dia.more_le s.data.toList (i + (k + 1))
      have hbd := Dia.acc_bd s.data.toList i k hlead hm
      by_cases hlt : k + 1 < 3
      · by_cases hneg : Dia.more s.data.toList (i + (k + 1)) < 0
        · have hres := Lib.hid (Dia.at_short hi' hc (k := k + 1) (by omega) hlt hneg)
          go_wp2_with (go_at_call 53; refine (Tryd.c_more' s (i + (k + 1)) _ _ (by omega) (by go_num)).mono ?_; rintro e w' ⟨rfl, rfl⟩)
          go_ret2
          rw [hres.out]
          exact ⟨rfl, Below.refl _ _⟩
        · go_wp2_with (go_at_call 53; refine (Tryd.c_more' s (i + (k + 1)) _ _ (by omega) (by go_num)).mono ?_; rintro e w' ⟨rfl, rfl⟩)
          go_roundw
          case rel => exact ⟨k + 1, by omega, by go_num, by go_num, fun j h1 h2 => (by
            by_cases e : j = k + 1
            · subst e; omega
            · exact hm j h1 (by omega)), by trivial⟩
          case measure => simp [intOf]; omega
      · obtain rfl : k = 3 - 1 := by omega
        have hend := Dia.at_end hi' hc hm
        have H1 : Aid.Hid2 (¬ (Dia.sc (Dia.acc s.data.toList i ((s[i].toNat : Int) - 224) 2) = true ∧ (Dia.enc (Dia.acc s.data.toList i ((s[i].toNat : Int) - 224) 2)).length = 3) → Dia.hd (s.data.toList.drop i) = (0, 0)) := ⟨hend.1⟩
        have H2 : Aid.Hid2 ((Dia.sc (Dia.acc s.data.toList i ((s[i].toNat : Int) - 224) 2) = true ∧ (Dia.enc (Dia.acc s.data.toList i ((s[i].toNat : Int) - 224) 2)).length = 3) → Dia.hd (s.data.toList.drop i) = ((Dia.acc s.data.toList i ((s[i].toNat : Int) - 224) 2), 3)) := ⟨hend.2⟩
        clear hend
        by_cases hs : Dia.sc (Dia.acc s.data.toList i ((s[i].toNat : Int) - 224) 2) = true
        · have hel := Dia.enc_len hs
          go_wp2_with (first
            | (go_at_call 54; refine (Tryd.c_refScalar _ _).mono ?_; rintro e w' ⟨rfl, rfl⟩)
            | (go_at_call 35; refine (Tryd.c_refBytes _ _ hs).mono ?_; rintro e w1 ⟨rfl, hb1⟩))
          · have hz : (((Dia.enc (Dia.acc s.data.toList i ((s[i].toNat : Int) - 224) 2)).length : Int) != 3) = true := by assumption
            go_ret2
            rw [H1.out (by rintro ⟨_, h⟩; rw [h] at hz; simp at hz)]
            exact ⟨rfl, hb1⟩
          · have hz : (((Dia.enc (Dia.acc s.data.toList i ((s[i].toNat : Int) - 224) 2)).length : Int) != 3) = false := by assumption
            go_ret2
            rw [H2.out ⟨hs, by simp at hz; omega⟩]
            exact ⟨rfl, hb1⟩
        · go_wp2_with (go_at_call 54; refine (Tryd.c_refScalar _ _).mono ?_; rintro e w' ⟨rfl, rfl⟩)
          go_ret2
          rw [H1.out (fun h => hs h.1)]
          exact ⟨rfl, Below.refl _ _⟩
  · have hn : 4 ≤ 4 := by omega
    obtain rfl : p0 = (s[i].toNat : Int) - 240 := by unfold Dia.Lead at hlead; omega
    have hlo : (240 : Int) ≤ (s[i].toNat : Int) := by unfold Dia.Lead at hlead; omega
    have hhi : (s[i].toNat : Int) < 248 := by unfold Dia.Lead at hlead; omega
    go_enter Tryd.func36, Tryd.ntmps36
    go_wp2
    go_loopw [8, 9, 10] (fun p kk _ wr => ∃ k : Nat, k + 1 ≤ 4 ∧ kk = .int .i64 (k + 1 : Nat) ∧ p = .int .i32 (Dia.acc s.data.toList i ((s[i].toNat : Int) - 240) k) ∧ (∀ j, 1 ≤ j → j < k + 1 → 0 ≤ Dia.more s.data.toList (i + j)) ∧ w = wr)
      (fun _ kk _ _ => 4 - (intOf kk).toNat)
    case atStart => exact ⟨0, by omega, rfl, rfl, by omega, rfl⟩
    case round =>
      obtain ⟨k, hk, rfl, rfl, hm, rfl⟩ := hrel
      have hml := Dia.more_le s.data.toList (i + (k + 1))
      have hbd := Dia.acc_bd s.data.toList i k hlead hm
      by_cases hlt : k + 1 < 4
      · by_cases hneg : Dia.more s.data.toList (i + (k + 1)) < 0
        · have hres := Lib.hid (Dia.at_short hi' hc (k := k + 1) (by omega) hlt hneg)
          go_wp2_with (go_at_call 53; refine (Tryd.c_more' s (i + (k + 1)) _ _ (by omega) (by go_num)).mono ?_; rintro e w' ⟨rfl, rfl⟩)
          go_ret2
          rw [hres.out]
          exact ⟨rfl, Below.refl _ _⟩
        · go_wp2_with (go_at_call 53; refine (Tryd.c_more' s (i + (k + 1)) _ _ (by omega) (by go_num)).mono ?_; rintro e w' ⟨rfl, rfl⟩)
          go_roundw
          case rel => exact ⟨k + 1, by omega, by go_num, by go_num, fun j h1 h2 => (by
            by_cases e : j = k + 1
            · subst e; omega
            · exact hm j h1 (by omega)), by trivial⟩
          case measure => simp [intOf]; omega
      · obtain rfl : k = 4 - 1 := by omega
        have hend := Dia.at_end hi' hc hm
        have H1 : Aid.Hid2 (¬ (Dia.sc (Dia.acc s.data.toList i ((s[i].toNat : Int) - 240) 3) = true ∧ (Dia.enc (Dia.acc s.data.toList i ((s[i].toNat : Int) - 240) 3)).length = 4) → Dia.hd (s.data.toList.drop i) = (0, 0)) := ⟨hend.1⟩
        have H2 : Aid.Hid2 ((Dia.sc (Dia.acc s.data.toList i ((s[i].toNat : Int) - 240) 3) = true ∧ (Dia.enc (Dia.acc s.data.toList i ((s[i].toNat : Int) - 240) 3)).length = 4) → Dia.hd (s.data.toList.drop i) = ((Dia.acc s.data.toList i ((s[i].toNat : Int) - 240) 3), 4)) := ⟨hend.2⟩
        clear hend
        by_cases hs : Dia.sc (Dia.acc s.data.toList i ((s[i].toNat : Int) - 240) 3) = true
        · have hel := Dia.enc_len hs
          go_wp2_with (first
            | (go_at_call 54; refine (Tryd.c_refScalar _ _).mono ?_; rintro e w' ⟨rfl, rfl⟩)
            | (go_at_call 35; refine (Tryd.c_refBytes _ _ hs).mono ?_; rintro e w1 ⟨rfl, hb1⟩))
          · have hz : (((Dia.enc (Dia.acc s.data.toList i ((s[i].toNat : Int) - 240) 3)).length : Int) != 4) = true := by assumption
            go_ret2
            rw [H1.out (by rintro ⟨_, h⟩; rw [h] at hz; simp at hz)]
            exact ⟨rfl, hb1⟩
          · have hz : (((Dia.enc (Dia.acc s.data.toList i ((s[i].toNat : Int) - 240) 3)).length : Int) != 4) = false := by assumption
            go_ret2
            rw [H2.out ⟨hs, by simp at hz; omega⟩]
            exact ⟨rfl, hb1⟩
        · go_wp2_with (go_at_call 54; refine (Tryd.c_refScalar _ _).mono ?_; rintro e w' ⟨rfl, rfl⟩)
          go_ret2
          rw [H1.out (fun h => hs h.1)]
          exact ⟨rfl, Below.refl _ _⟩
end Go.Proofs
