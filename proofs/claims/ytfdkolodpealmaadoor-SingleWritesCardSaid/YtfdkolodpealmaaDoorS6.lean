/- walks of single's reference: Nth, Sign -/
import Derived.Test.YtfdkolodpealmaaDoorS2
namespace Go.Proofs
open Go.RowKit

theorem Dia.upTo_get {l : List UInt8} {k : Nat} {ps : List Int} (hu : Dia.UpTo l k ps) (hlt : k < l.length) (hok : (Dia.pts l).2 = -1) :
    (Dia.hd (l.drop k)).2 ≠ 0 ∧ (Dia.pts l).1[ps.length]? = some (Dia.hd (l.drop k)).1 := by
  have hne : (Dia.hd (l.drop k)).2 ≠ 0 := by
    intro h
    rw [Dia.upTo_bad hu hlt h] at hok
    simp at hok
  refine ⟨hne, ?_⟩
  obtain ⟨h0, h1, _⟩ := Dia.upTo_step hu hne
  generalize (Dia.hd (l.drop k)).1 = q at *
  generalize l.drop (k + (Dia.hd (l.drop k)).2) = r at *
  rcases Dia.pts_cases r with ⟨p2, g1, g2, _⟩ | ⟨p2, r2, g1, g3, g4, g2, _⟩
  · have hall : ∀ p ∈ (ps ++ [q]) ++ p2, Dia.sc p = true := fun p hp => by
      rcases List.mem_append.1 hp with h | h
      · exact h0 p h
      · exact g1 p h
    rw [h1, g2, ← Dia.encs_append, Dia.pts_ok _ hall]
    simp
  · exfalso
    have hall : ∀ p ∈ (ps ++ [q]) ++ p2, Dia.sc p = true := fun p hp => by
      rcases List.mem_append.1 hp with h | h
      · exact h0 p h
      · exact g1 p h
    rw [h1, g2, ← List.append_assoc, ← Dia.encs_append, Dia.pts_bad _ hall _ g3 g4] at hok
    simp at hok
set_option maxRecDepth 100000 in
set_option maxHeartbeats 400000 in
theorem Tryd.c_Nth (s : ByteArray) (n : Nat) (w : World) (hs : s.size ≤ 1000000) (ls : List Int) (hok : Dia.pts s.data.toList = (ls, -1)) (hn : n < ls.length) :
    Calls Tryd.prog 28 #[.string s, .int .i64 n] w fun e w' => e = .returned (.int .i32 (ls.getD n 0)) ∧ Below w.heap.size w w' := by
  have HOK := Aid.Hid2.mk hok
  have hl0 : ls.length ≤ s.size := by
    have := Dia.pts_len s.data.toList
    rw [hok] at this
    exact this
  clear hok
  generalize hg : ls.getD n 0 = G
  have HG := Aid.Hid2.mk hg
  clear hg
  go_enter Tryd.func28, Tryd.ntmps28
  go_wp2
  go_loopw [1, 5, 6, 7] (fun vn a _ _ wr => ∃ (k : Nat) (ps : List Int), a = .int .i64 k ∧ ps.length ≤ n ∧ vn = .int .i64 ((n - ps.length : Nat) : Int) ∧ Dia.UpTo s.data.toList k ps ∧ Below w.heap.size w wr)
    (fun vn _ _ _ _ => (intOf vn).toNat)
  case atStart => exact ⟨0, [], rfl, Nat.zero_le _, rfl, Dia.upTo_zero _, Below.refl _ _⟩
  case round =>
    obtain ⟨k, ps, rfl, hpn, rfl, hu, hb⟩ := hrel
    have hk : k ≤ s.size := Dia.upTo_le hu
    have hlt : k < s.size := by
      rcases Nat.lt_or_ge k s.size with h | h
      · exact h
      · have := Dia.upTo_end hu (show ¬ k < s.size by omega)
        rw [HOK.out] at this
        have e : ls = ps := congrArg Prod.fst this
        rw [e] at hn
        omega
    have h4 := Dia.hd_le (s.data.toList.drop k)
    have HU := Aid.Hid2.mk hu
    clear hu
    generalize hm : ps.length = m at *
    have HM := Aid.Hid2.mk hm
    clear hm
    obtain ⟨g1, g2⟩ := Dia.upTo_get HU.out hlt (by rw [HOK.out])
    have G2 := Aid.Hid2.mk g2
    have G3 := Aid.Hid2.mk (Dia.upTo_step HU.out g1)
    have g1' : 1 ≤ (Dia.hd (s.data.toList.drop k)).2 := Nat.pos_of_ne_zero g1
    have HA : Aid.Hid2 (∀ w1, Calls Tryd.prog 36 #[.string s, .int .i64 k] w1 fun e w' => e = .returned (.tuple #[.int .i32 (Dia.hd (s.data.toList.drop k)).1, .int .i64 ((Dia.hd (s.data.toList.drop k)).2 : Nat)]) ∧ Below w1.heap.size w1 w') := ⟨fun w1 => Tryd.c_At s k w1 hlt hs⟩
    clear g1 g2
    generalize Dia.hd (s.data.toList.drop k) = q at *
    obtain ⟨q1, q2⟩ := q
    simp only at g1' h4 HA
    have d2 : ((q2 : Int) == 0) = false := by simp; omega
    by_cases hmn : m = n
    · have HR : Aid.Hid2 (G = q1) := ⟨by
        rw [← HG.out]
        have := G2.out
        rw [HM.out, hmn, HOK.out] at this
        rw [List.getD_eq_getElem?_getD, this]
        rfl⟩
      have d1 : (((n - m : Nat) : Int) == 0) = true := by simp; omega
      clear hmn
      generalize n - m = r at *
      go_wp2_with (go_at_call 36; refine (HA.out _).mono ?_; rintro e w1 ⟨rfl, hb1⟩)
      go_ret
      exact ⟨(by rw [HR.out]; go_num), Aid.bt hb hb1⟩
    · have d1 : (((n - m : Nat) : Int) == 0) = false := by simp; omega
      have HR : Aid.Hid2 (n - (ps ++ [q1]).length = n - m - 1 ∧ (ps ++ [q1]).length ≤ n) := ⟨by rw [List.length_append, HM.out]; simp; omega⟩
      have hr : 1 ≤ n - m := by omega
      have hr2 : n - m ≤ 1000000 := by omega
      generalize n - m = r at *
      go_wp2_with (go_at_call 36; refine (HA.out _).mono ?_; rintro e w1 ⟨rfl, hb1⟩)
      go_roundw
      case rel => exact ⟨k + q2, ps ++ [q1], by go_num, HR.out.2, by rw [HR.out.1]; go_num, G3.out, Aid.bt hb hb1⟩
      case measure => simp [intOf]; omega
namespace Dia
def sg (c : Int) (n : Nat) : Int := (sinS c).getD n 0
theorem sg_at (c : Int) (b : UInt8) : sg c b.toNat = sinAt c b := rfl
set_option maxRecDepth 100000 in
theorem sg_low {c : Int} (h : 0 ≤ c ∧ c ≤ 3) (n : Nat) (hn : n < 256) (hc : c = 0 ∨ n < 128) : sg c n = n := by
  have h0 : ∀ n, n < 256 → sg 0 n = n := by decide +kernel
  have h1 : ∀ n, n < 128 → sg 1 n = n := by decide +kernel
  have h2 : ∀ n, n < 128 → sg 2 n = n := by decide +kernel
  have h3 : ∀ n, n < 128 → sg 3 n = n := by decide +kernel
  have : c = 0 ∨ c = 1 ∨ c = 2 ∨ c = 3 := by omega
  rcases this with rfl | rfl | rfl | rfl
  · exact h0 n hn
  · exact h1 n (by omega)
  · exact h2 n (by omega)
  · exact h3 n (by omega)
set_option maxRecDepth 100000 in
theorem sg_3a : ∀ n, n < 48 → sg 3 (n + 128) = n + 1040 := by decide +kernel
set_option maxRecDepth 100000 in
theorem sg_3b : ∀ n, n < 48 → sinFS.getD n 0 = sg 3 (n + 176) := by decide +kernel
set_option maxRecDepth 100000 in
theorem sg_3c : ∀ n, n < 16 → sg 3 (n + 224) = n + 1088 := by decide +kernel
set_option maxRecDepth 100000 in
theorem sg_3d : ∀ n, n < 16 → sinOS.getD n 0 = sg 3 (n + 240) := by decide +kernel
set_option maxRecDepth 100000 in
theorem sg_1 : ∀ n, n < 128 → sinRS.getD n 0 = sg 1 (n + 128) := by decide +kernel
def uk (n : Nat) : Bool := n == 36 || n == 38 || n == 39 || n == 45 || n == 52 || n == 54 || n == 55 || n == 61
set_option maxRecDepth 100000 in
theorem sg_2 : ∀ n, n < 128 → uk n = false → sinRS.getD n 0 = sg 2 (n + 128) := by decide +kernel
theorem sinFS_len : sinFS.length = 48 ∧ sinOS.length = 16 ∧ sinRS.length = 128 ∧ sinF.length ≤ 1000 ∧ sinO.length ≤ 1000 ∧ sinR.length ≤ 1000 := by decide +kernel
end Dia
set_option maxRecDepth 100000 in
set_option maxHeartbeats 1000000 in
theorem Tryd.c_rSign_low (c : Int) (n : Nat) (w : World) (h : 0 ≤ c ∧ c ≤ 3) (hn : n < 256) (hc : c = 0 ∨ n < 128) :
    Calls Tryd.prog 11 #[.int .i64 c, .int .u8 n] w fun e w' => e = .returned (.int .i32 (Dia.sg c n)) ∧ Below w.heap.size w w' := by
  have HV := Aid.Hid2.mk (Dia.sg_low h n hn hc)
  rw [HV.out]
  clear HV
  have hw : IntKind.i32.wrap (n : Int) = n := IntWalk.i32_in _ (by omega)
  by_cases h0 : c = 0
  · subst h0
    go_enter Tryd.func11, Tryd.ntmps11
    go_wp2
    go_ret
    exact ⟨rfl, Below.refl _ _⟩
  · have d0 : (c == 0) = false := by simpa using h0
    have d1 : decide ((n : Int) < 128) = true := decide_eq_true (by omega)
    clear hc h h0
    go_enter Tryd.func11, Tryd.ntmps11
    go_wp2
    go_ret
    exact ⟨rfl, Below.refl _ _⟩
theorem Tryd.c_NthF (n : Nat) (hn : n < 48) : Aid.Hid2 (∀ (s : ByteArray) (w1 : World), s = ⟨Dia.sinF.toArray⟩ → Calls Tryd.prog 28 #[.string s, .int .i64 n] w1 fun e w' => e = .returned (.int .i32 (Dia.sg 3 (n + 176))) ∧ Below w1.heap.size w1 w') := ⟨fun s w1 hs => by
  subst hs
  obtain ⟨z1, z2, z3, z4, z5, z6⟩ := Dia.sinFS_len
  have h := Tryd.c_Nth ⟨Dia.sinF.toArray⟩ n w1 (by simp only [ByteArray.size, List.size_toArray]; omega) Dia.sinFS Dia.sinF_pts (by omega)
  rw [Dia.sg_3b n hn] at h
  exact h⟩
theorem Tryd.c_NthO (n : Nat) (hn : n < 16) : Aid.Hid2 (∀ (s : ByteArray) (w1 : World), s = ⟨Dia.sinO.toArray⟩ → Calls Tryd.prog 28 #[.string s, .int .i64 n] w1 fun e w' => e = .returned (.int .i32 (Dia.sg 3 (n + 240))) ∧ Below w1.heap.size w1 w') := ⟨fun s w1 hs => by
  subst hs
  obtain ⟨z1, z2, z3, z4, z5, z6⟩ := Dia.sinFS_len
  have h := Tryd.c_Nth ⟨Dia.sinO.toArray⟩ n w1 (by simp only [ByteArray.size, List.size_toArray]; omega) Dia.sinOS Dia.sinO_pts (by omega)
  rw [Dia.sg_3d n hn] at h
  exact h⟩
theorem Tryd.c_NthR (c : Int) (n : Nat) (hn : n < 128) (hv : Dia.sinRS.getD n 0 = Dia.sg c (n + 128)) : Aid.Hid2 (∀ (s : ByteArray) (w1 : World), s = ⟨Dia.sinR.toArray⟩ → Calls Tryd.prog 28 #[.string s, .int .i64 n] w1 fun e w' => e = .returned (.int .i32 (Dia.sg c (n + 128))) ∧ Below w1.heap.size w1 w') := ⟨fun s w1 hs => by
  subst hs
  obtain ⟨z1, z2, z3, z4, z5, z6⟩ := Dia.sinFS_len
  have h := Tryd.c_Nth ⟨Dia.sinR.toArray⟩ n w1 (by simp only [ByteArray.size, List.size_toArray]; omega) Dia.sinRS Dia.sinR_pts (by omega)
  rw [hv] at h
  exact h⟩
set_option maxRecDepth 100000 in
set_option maxHeartbeats 1000000 in
theorem Tryd.c_rSign_3 (m : Nat) (w : World) (hm : m < 128) :
    Calls Tryd.prog 11 #[.int .i64 3, .int .u8 ((m + 128 : Nat) : Int)] w fun e w' => e = .returned (.int .i32 (Dia.sg 3 (m + 128))) ∧ Below w.heap.size w w' := by
  have dl : decide (((m + 128 : Nat) : Int) < 128) = false := decide_eq_false (by omega)
  by_cases h1 : m < 48
  · have HV := Aid.Hid2.mk (Dia.sg_3a m h1)
    have d1 : decide (((m + 128 : Nat) : Int) < 176) = true := decide_eq_true (by omega)
    have e1 : 1040 + ((m + 128 : Nat) : Int) - 128 = (m : Int) + 1040 := by omega
    have e2 : IntKind.i32.wrap ((m : Int) + 1040) = (m : Int) + 1040 := IntWalk.i32_in _ (by omega)
    have hN : ((m + 128 : Nat) : Int) ≤ 300 := by omega
    rw [HV.out]
    clear HV
    have hN0 : 0 ≤ ((m + 128 : Nat) : Int) := by omega
    generalize ((m + 128 : Nat) : Int) = N at *
    go_enter Tryd.func11, Tryd.ntmps11
    go_wp2
    go_ret
    exact ⟨by go_num, Below.refl _ _⟩
  · by_cases h2 : m < 96
    · have d1 : decide (((m + 128 : Nat) : Int) < 176) = false := decide_eq_false (by omega)
      have d2 : decide (((m + 128 : Nat) : Int) < 224) = true := decide_eq_true (by omega)
      obtain ⟨q, rfl⟩ : ∃ q, m = q + 48 := ⟨m - 48, by omega⟩
      have HN := Tryd.c_NthF q (by omega)
      rw [show q + 48 + 128 = q + 176 by omega] at *
      have e1 : ((q + 176 : Nat) : Int) - 176 = q := by omega
      have hN : ((q + 176 : Nat) : Int) ≤ 300 := by omega
      have hN0 : 0 ≤ ((q + 176 : Nat) : Int) := by omega
      generalize Dia.sg 3 (q + 176) = V at *
      generalize ((q + 176 : Nat) : Int) = N at *
      go_enter Tryd.func11, Tryd.ntmps11
      go_wp2_with fail
      refine (HN.out _ _ (by kernel_rfl)).mono ?_
      rintro e w1 ⟨rfl, hb1⟩
      go_wp2
      go_ret
      exact ⟨rfl, hb1⟩
    · have d1 : decide (((m + 128 : Nat) : Int) < 176) = false := decide_eq_false (by omega)
      have d2 : decide (((m + 128 : Nat) : Int) < 224) = false := decide_eq_false (by omega)
      by_cases h3 : m < 112
      · have d3 : decide (((m + 128 : Nat) : Int) < 240) = true := decide_eq_true (by omega)
        obtain ⟨q, rfl⟩ : ∃ q, m = q + 96 := ⟨m - 96, by omega⟩
        have HV := Aid.Hid2.mk (Dia.sg_3c q (by omega))
        rw [show q + 96 + 128 = q + 224 by omega] at *
        rw [HV.out]
        clear HV
        have e1 : 1088 + ((q + 224 : Nat) : Int) - 224 = (q : Int) + 1088 := by omega
        have e2 : IntKind.i32.wrap ((q : Int) + 1088) = (q : Int) + 1088 := IntWalk.i32_in _ (by omega)
        have hN : ((q + 224 : Nat) : Int) ≤ 300 := by omega
        have hN0 : 0 ≤ ((q + 224 : Nat) : Int) := by omega
        generalize ((q + 224 : Nat) : Int) = N at *
        go_enter Tryd.func11, Tryd.ntmps11
        go_wp2
        go_ret
        exact ⟨by go_num, Below.refl _ _⟩
      · have d3 : decide (((m + 128 : Nat) : Int) < 240) = false := decide_eq_false (by omega)
        obtain ⟨q, rfl⟩ : ∃ q, m = q + 112 := ⟨m - 112, by omega⟩
        have HN := Tryd.c_NthO q (by omega)
        rw [show q + 112 + 128 = q + 240 by omega] at *
        have e1 : ((q + 240 : Nat) : Int) - 240 = q := by omega
        have hN : ((q + 240 : Nat) : Int) ≤ 300 := by omega
        have hN0 : 0 ≤ ((q + 240 : Nat) : Int) := by omega
        generalize Dia.sg 3 (q + 240) = V at *
        generalize ((q + 240 : Nat) : Int) = N at *
        go_enter Tryd.func11, Tryd.ntmps11
        go_wp2_with fail
        refine (HN.out _ _ (by kernel_rfl)).mono ?_
        rintro e w1 ⟨rfl, hb1⟩
        go_wp2
        go_ret
        exact ⟨rfl, hb1⟩
set_option maxRecDepth 100000 in
set_option maxHeartbeats 1000000 in
theorem Tryd.c_rSign_1 (m : Nat) (w : World) (hm : m < 128) :
    Calls Tryd.prog 11 #[.int .i64 1, .int .u8 ((m + 128 : Nat) : Int)] w fun e w' => e = .returned (.int .i32 (Dia.sg 1 (m + 128))) ∧ Below w.heap.size w w' := by
  have dl : decide (((m + 128 : Nat) : Int) < 128) = false := decide_eq_false (by omega)
  have HN := Tryd.c_NthR 1 m hm (Dia.sg_1 m hm)
  have e1 : ((m + 128 : Nat) : Int) - 128 = m := by omega
  have hN : ((m + 128 : Nat) : Int) ≤ 300 := by omega
  have hN0 : 0 ≤ ((m + 128 : Nat) : Int) := by omega
  generalize Dia.sg 1 (m + 128) = V at *
  generalize ((m + 128 : Nat) : Int) = N at *
  go_enter Tryd.func11, Tryd.ntmps11
  go_wp2_with fail
  refine (HN.out _ _ (by kernel_rfl)).mono ?_
  rintro e w1 ⟨rfl, hb1⟩
  go_wp2
  go_ret
  exact ⟨rfl, hb1⟩
set_option maxRecDepth 100000 in
theorem Tryd.c_rSign_164 (w : World) : Calls Tryd.prog 11 #[.int .i64 2, .int .u8 164] w fun e w' => e = .returned (.int .i32 1108) ∧ Below w.heap.size w w' := by
  go_enter Tryd.func11, Tryd.ntmps11
  go_wp2
  go_ret
  exact ⟨rfl, Below.refl _ _⟩
set_option maxRecDepth 100000 in
theorem Tryd.c_rSign_166 (w : World) : Calls Tryd.prog 11 #[.int .i64 2, .int .u8 166] w fun e w' => e = .returned (.int .i32 1110) ∧ Below w.heap.size w w' := by
  go_enter Tryd.func11, Tryd.ntmps11
  go_wp2
  go_ret
  exact ⟨rfl, Below.refl _ _⟩
set_option maxRecDepth 100000 in
theorem Tryd.c_rSign_167 (w : World) : Calls Tryd.prog 11 #[.int .i64 2, .int .u8 167] w fun e w' => e = .returned (.int .i32 1111) ∧ Below w.heap.size w w' := by
  go_enter Tryd.func11, Tryd.ntmps11
  go_wp2
  go_ret
  exact ⟨rfl, Below.refl _ _⟩
set_option maxRecDepth 100000 in
theorem Tryd.c_rSign_173 (w : World) : Calls Tryd.prog 11 #[.int .i64 2, .int .u8 173] w fun e w' => e = .returned (.int .i32 1169) ∧ Below w.heap.size w w' := by
  go_enter Tryd.func11, Tryd.ntmps11
  go_wp2
  go_ret
  exact ⟨rfl, Below.refl _ _⟩
set_option maxRecDepth 100000 in
theorem Tryd.c_rSign_180 (w : World) : Calls Tryd.prog 11 #[.int .i64 2, .int .u8 180] w fun e w' => e = .returned (.int .i32 1028) ∧ Below w.heap.size w w' := by
  go_enter Tryd.func11, Tryd.ntmps11
  go_wp2
  go_ret
  exact ⟨rfl, Below.refl _ _⟩
set_option maxRecDepth 100000 in
theorem Tryd.c_rSign_182 (w : World) : Calls Tryd.prog 11 #[.int .i64 2, .int .u8 182] w fun e w' => e = .returned (.int .i32 1030) ∧ Below w.heap.size w w' := by
  go_enter Tryd.func11, Tryd.ntmps11
  go_wp2
  go_ret
  exact ⟨rfl, Below.refl _ _⟩
set_option maxRecDepth 100000 in
theorem Tryd.c_rSign_183 (w : World) : Calls Tryd.prog 11 #[.int .i64 2, .int .u8 183] w fun e w' => e = .returned (.int .i32 1031) ∧ Below w.heap.size w w' := by
  go_enter Tryd.func11, Tryd.ntmps11
  go_wp2
  go_ret
  exact ⟨rfl, Below.refl _ _⟩
set_option maxRecDepth 100000 in
theorem Tryd.c_rSign_189 (w : World) : Calls Tryd.prog 11 #[.int .i64 2, .int .u8 189] w fun e w' => e = .returned (.int .i32 1168) ∧ Below w.heap.size w w' := by
  go_enter Tryd.func11, Tryd.ntmps11
  go_wp2
  go_ret
  exact ⟨rfl, Below.refl _ _⟩
set_option maxRecDepth 100000 in
set_option maxHeartbeats 1000000 in
theorem Tryd.c_rSign_2 (m : Nat) (w : World) (hm : m < 128) :
    Calls Tryd.prog 11 #[.int .i64 2, .int .u8 ((m + 128 : Nat) : Int)] w fun e w' => e = .returned (.int .i32 (Dia.sg 2 (m + 128))) ∧ Below w.heap.size w w' := by
  cases hu : Dia.uk m with
  | true =>
    have : m = 36 ∨ m = 38 ∨ m = 39 ∨ m = 45 ∨ m = 52 ∨ m = 54 ∨ m = 55 ∨ m = 61 := by
      simp only [Dia.uk, Bool.or_eq_true, beq_iff_eq] at hu
      omega
    rcases this with rfl | rfl | rfl | rfl | rfl | rfl | rfl | rfl
    · exact Tryd.c_rSign_164 w
    · exact Tryd.c_rSign_166 w
    · exact Tryd.c_rSign_167 w
    · exact Tryd.c_rSign_173 w
    · exact Tryd.c_rSign_180 w
    · exact Tryd.c_rSign_182 w
    · exact Tryd.c_rSign_183 w
    · exact Tryd.c_rSign_189 w
  | false =>
    have HN := Tryd.c_NthR 2 m hm (Dia.sg_2 m hm hu)
    simp only [Dia.uk, Bool.or_eq_false_iff, beq_eq_false_iff_ne] at hu
    obtain ⟨⟨⟨⟨⟨⟨⟨u1, u2⟩, u3⟩, u4⟩, u5⟩, u6⟩, u7⟩, u8⟩ := hu
    have dl : decide (((m + 128 : Nat) : Int) < 128) = false := decide_eq_false (by omega)
    have g1 : (((m + 128 : Nat) : Int) == 164) = false := by simp; omega
    have g2 : (((m + 128 : Nat) : Int) == 166) = false := by simp; omega
    have g3 : (((m + 128 : Nat) : Int) == 167) = false := by simp; omega
    have g4 : (((m + 128 : Nat) : Int) == 173) = false := by simp; omega
    have g5 : (((m + 128 : Nat) : Int) == 180) = false := by simp; omega
    have g6 : (((m + 128 : Nat) : Int) == 182) = false := by simp; omega
    have g7 : (((m + 128 : Nat) : Int) == 183) = false := by simp; omega
    have g8 : (((m + 128 : Nat) : Int) == 189) = false := by simp; omega
    have e1 : ((m + 128 : Nat) : Int) - 128 = m := by omega
    have hN : ((m + 128 : Nat) : Int) ≤ 300 := by omega
    have hN0 : 0 ≤ ((m + 128 : Nat) : Int) := by omega
    clear u1 u2 u3 u4 u5 u6 u7 u8
    generalize Dia.sg 2 (m + 128) = V at *
    generalize ((m + 128 : Nat) : Int) = N at *
    go_enter Tryd.func11, Tryd.ntmps11
    go_wp2_with fail
    refine (HN.out _ _ (by kernel_rfl)).mono ?_
    rintro e w1 ⟨rfl, hb1⟩
    go_wp2
    go_ret
    exact ⟨rfl, hb1⟩
theorem Tryd.c_rSign (c : Int) (b : UInt8) (w : World) (h : 0 ≤ c ∧ c ≤ 3) :
    Calls Tryd.prog 11 #[.int .i64 c, .int .u8 b.toNat] w fun e w' => e = .returned (.int .i32 (Dia.sinAt c b)) ∧ Below w.heap.size w w' := by
  rw [← Dia.sg_at]
  have hn := b.toNat_lt
  generalize b.toNat = n at *
  by_cases hc : c = 0 ∨ n < 128
  · exact Tryd.c_rSign_low c n w h (by omega) hc
  · obtain ⟨m, rfl⟩ : ∃ m, n = m + 128 := ⟨n - 128, by omega⟩
    have : c = 1 ∨ c = 2 ∨ c = 3 := by omega
    rcases this with rfl | rfl | rfl
    · exact Tryd.c_rSign_1 m w (by omega)
    · exact Tryd.c_rSign_2 m w (by omega)
    · exact Tryd.c_rSign_3 m w (by omega)
end Go.Proofs
