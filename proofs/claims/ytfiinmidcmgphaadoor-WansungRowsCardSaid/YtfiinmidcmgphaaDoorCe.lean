/- walks of wansung's reference: Nth, span, Row -/
import Derived.Test.YtfiinmidcmgphaaDoorCd
namespace Go.Proofs
open Go.RowKit

theorem Dia.upTo_get {l : List UInt8} {k : Nat} {ps : List Int} (hu : Dia.UpTo l k ps) (hlt : k < l.length) (hok : (Dia.pts l).2 = -1) :
    (Dia.hd (l.drop k)).2 ≠ 0 ∧ (Dia.pts l).1[ps.length]? = some (Dia.hd (l.drop k)).1 := by
  have hne : (Dia.hd (l.drop k)).2 ≠ 0 := by
    intro h
    rw [Dia.upTo_bad hu hlt h] at hok
    simp at hok
  refine ⟨hne, ?_⟩
  obtain ⟨h0, h1, _⟩ := Dia.upTo_step hu hne
  generalize (Dia.hd (l.drop k)).1 = q at *
  generalize l.drop (k + (Dia.hd (l.drop k)).2) = r at *
  rcases Dia.pts_cases r with ⟨p2, g1, g2, _⟩ | ⟨p2, r2, g1, g3, g4, g2, _⟩
  · have hall : ∀ p ∈ (ps ++ [q]) ++ p2, Dia.sc p = true := fun p hp => by
      rcases List.mem_append.1 hp with h | h
      · exact h0 p h
      · exact g1 p h
    rw [h1, g2, ← Dia.encs_append, Dia.pts_ok _ hall]
    simp
  · exfalso
    have hall : ∀ p ∈ (ps ++ [q]) ++ p2, Dia.sc p = true := fun p hp => by
      rcases List.mem_append.1 hp with h | h
      · exact h0 p h
      · exact g1 p h
    rw [h1, g2, ← List.append_assoc, ← Dia.encs_append, Dia.pts_bad _ hall _ g3 g4] at hok
    simp at hok
set_option maxRecDepth 100000 in
set_option maxHeartbeats 400000 in
theorem Tryd.c_Nth (s : ByteArray) (n : Nat) (w : World) (hs : s.size ≤ 1000000) (ls : List Int) (hok : Dia.pts s.data.toList = (ls, -1)) (hn : n < ls.length) :
    Calls Tryd.prog 38 #[.string s, .int .i64 n] w fun e w' => e = .returned (.int .i32 (ls.getD n 0)) ∧ Below w.heap.size w w' := by
  have HOK := Aid.Hid2.mk hok
  have hl0 : ls.length ≤ s.size := by
    have := Dia.pts_len s.data.toList
    rw [hok] at this
    exact this
  clear hok
  generalize hg : ls.getD n 0 = G
  have HG := Aid.Hid2.mk hg
  clear hg
  go_enter Tryd.func38, Tryd.ntmps38
  go_wp2
  go_loopw [1, 5, 6, 7] (fun vn a _ _ wr => ∃ (k : Nat) (ps : List Int), a = .int .i64 k ∧ ps.length ≤ n ∧ vn = .int .i64 ((n - ps.length : Nat) : Int) ∧ Dia.UpTo s.data.toList k ps ∧ Below w.heap.size w wr)
    (fun vn _ _ _ _ => (intOf vn).toNat)
  case atStart => exact ⟨0, [], rfl, Nat.zero_le _, rfl, Dia.upTo_zero _, Below.refl _ _⟩
  case round =>
    obtain ⟨k, ps, rfl, hpn, rfl, hu, hb⟩ := hrel
    have hk : k ≤ s.size := Dia.upTo_le hu
    have hlt : k < s.size := by
      rcases Nat.lt_or_ge k s.size with h | h
      · exact h
      · have := Dia.upTo_end hu (show ¬ k < s.size by omega)
        rw [HOK.out] at this
        have e : ls = ps := congrArg Prod.fst this
        rw [e] at hn
        omega
    have h4 := Dia.hd_le (s.data.toList.drop k)
    have HU := Aid.Hid2.mk hu
    clear hu
    generalize hm : ps.length = m at *
    have HM := Aid.Hid2.mk hm
    clear hm
    obtain ⟨g1, g2⟩ := Dia.upTo_get HU.out hlt (by rw [HOK.out])
    have G2 := Aid.Hid2.mk g2
    have G3 := Aid.Hid2.mk (Dia.upTo_step HU.out g1)
    have g1' : 1 ≤ (Dia.hd (s.data.toList.drop k)).2 := Nat.pos_of_ne_zero g1
    have HA : Aid.Hid2 (∀ w1, Calls Tryd.prog 54 #[.string s, .int .i64 k] w1 fun e w' => e = .returned (.tuple #[.int .i32 (Dia.hd (s.data.toList.drop k)).1, .int .i64 ((Dia.hd (s.data.toList.drop k)).2 : Nat)]) ∧ Below w1.heap.size w1 w') := ⟨fun w1 => Tryd.c_At s k w1 hlt hs⟩
    clear g1 g2
    generalize Dia.hd (s.data.toList.drop k) = q at *
    obtain ⟨q1, q2⟩ := q
    simp only at g1' h4 HA
    have d2 : ((q2 : Int) == 0) = false := by simp; omega
    by_cases hmn : m = n
    · have HR : Aid.Hid2 (G = q1) := ⟨by
        rw [← HG.out]
        have := G2.out
        rw [HM.out, hmn, HOK.out] at this
        rw [List.getD_eq_getElem?_getD, this]
        rfl⟩
      have d1 : (((n - m : Nat) : Int) == 0) = true := by simp; omega
      clear hmn
      generalize n - m = r at *
      go_wp2_with (go_at_call 54; refine (HA.out _).mono ?_; rintro e w1 ⟨rfl, hb1⟩)
      go_ret
      exact ⟨(by rw [HR.out]; go_num), Aid.bt hb hb1⟩
    · have d1 : (((n - m : Nat) : Int) == 0) = false := by simp; omega
      have HR : Aid.Hid2 (n - (ps ++ [q1]).length = n - m - 1 ∧ (ps ++ [q1]).length ≤ n) := ⟨by rw [List.length_append, HM.out]; simp; omega⟩
      have hr : 1 ≤ n - m := by omega
      have hr2 : n - m ≤ 1000000 := by omega
      generalize n - m = r at *
      go_wp2_with (go_at_call 54; refine (HA.out _).mono ?_; rintro e w1 ⟨rfl, hb1⟩)
      go_roundw
      case rel => exact ⟨k + q2, ps ++ [q1], by go_num, HR.out.2, by rw [HR.out.1]; go_num, G3.out, Aid.bt hb hb1⟩
      case measure => simp [intOf]; omega
def Dia.span (b f l p : Int) : Int := if b < f ∨ l < b then 0 else p + (b - f)
set_option maxRecDepth 100000 in
theorem Tryd.c_span (b f l p : Int) (w : World) (hb : 0 ≤ b ∧ b ≤ 255) (hf : 0 ≤ f ∧ f ≤ 255) (hl : 0 ≤ l ∧ l ≤ 255) (hp : 0 ≤ p ∧ p ≤ 100000) :
    Calls Tryd.prog 39 #[.int .i64 b, .int .i64 f, .int .i64 l, .int .i32 p] w fun e w' => e = .returned (.int .i32 (Dia.span b f l p)) ∧ w = w' := by
  obtain ⟨b0, b1⟩ := hb
  obtain ⟨f0, f1⟩ := hf
  obtain ⟨l0, l1⟩ := hl
  obtain ⟨p0, p1⟩ := hp
  have e1 : IntKind.i64.wrap (b - f) = b - f := IntWalk.i64_in _ (by omega)
  have e2 : IntKind.i32.wrap (b - f) = b - f := IntWalk.i32_in _ (by omega)
  have e3 : IntKind.i32.wrap (p + (b - f)) = p + (b - f) := IntWalk.i32_in _ (by omega)
  by_cases h1 : b < f
  · have HB : Aid.Hid2 (Dia.span b f l p = 0) := ⟨by unfold Dia.span; rw [if_pos (.inl h1)]⟩
    have d1 : decide (b < f) = true := decide_eq_true h1
    rw [HB.out]
    go_enter Tryd.func39, Tryd.ntmps39
    go_wp2
    go_ret
    exact ⟨rfl, rfl⟩
  · have d1 : decide (b < f) = false := decide_eq_false h1
    by_cases h2 : l < b
    · have HB : Aid.Hid2 (Dia.span b f l p = 0) := ⟨by unfold Dia.span; rw [if_pos (.inr h2)]⟩
      have d2 : decide (l < b) = true := decide_eq_true h2
      rw [HB.out]
      go_enter Tryd.func39, Tryd.ntmps39
      go_wp2
      go_ret
      exact ⟨rfl, rfl⟩
    · have d2 : decide (l < b) = false := decide_eq_false h2
      have HB : Aid.Hid2 (Dia.span b f l p = p + (b - f)) := ⟨by unfold Dia.span; rw [if_neg (by rintro (h | h); exact h1 h; exact h2 h)]⟩
      rw [HB.out]
      go_enter Tryd.func39, Tryd.ntmps39
      go_wp2
      go_ret
      exact ⟨by go_num, rfl⟩

namespace Dia
set_option maxRecDepth 100000
theorem row0 : ∀ j : Nat, j < 94 → wanPS.getD j 0 = wAt 0 j := by decide +kernel
theorem row1 : ∀ j : Nat, j < 94 → (if j < 71 then wanMS.getD j 0 else 0) = wAt 1 j := by decide +kernel
theorem row2 : ∀ j : Nat, j < 94 → (if j = 59 then 65510 else if j = 93 then 65507 else 65281 + (j : Int)) = wAt 2 j := by decide +kernel
theorem row3 : ∀ j : Nat, j < 94 → 12593 + (j : Int) = wAt 3 j := by decide +kernel
theorem row4 : ∀ j : Nat, j < 94 → Dia.span (161 + (j : Int)) 161 170 8560 + Dia.span (161 + (j : Int)) 176 185 8544 + Dia.span (161 + (j : Int)) 193 209 913 + Dia.span (161 + (j : Int)) 210 216 931 + Dia.span (161 + (j : Int)) 225 241 945 + Dia.span (161 + (j : Int)) 242 248 963 = wAt 4 j := by decide +kernel
theorem row5 : ∀ j : Nat, j < 94 → (if j < 68 then wanFS.getD j 0 else 0) = wAt 5 j := by decide +kernel
theorem row9 : ∀ j : Nat, j < 94 → Dia.span (161 + (j : Int)) 161 243 12353 = wAt 9 j := by decide +kernel
theorem row10 : ∀ j : Nat, j < 94 → Dia.span (161 + (j : Int)) 161 246 12449 = wAt 10 j := by decide +kernel
theorem row11 : ∀ j : Nat, j < 94 → Dia.span (161 + (j : Int)) 161 166 1040 + Dia.span (161 + (j : Int)) 167 167 1025 + Dia.span (161 + (j : Int)) 168 193 1046 + Dia.span (161 + (j : Int)) 209 214 1072 + Dia.span (161 + (j : Int)) 215 215 1105 + Dia.span (161 + (j : Int)) 216 241 1078 = wAt 11 j := by decide +kernel
theorem row678 : ∀ j : Nat, j < 94 → wAt 6 j = 0 ∧ wAt 7 j = 0 ∧ wAt 8 j = 0 := by decide +kernel
theorem row12 (m j : Nat) (h : 12 ≤ m) : wAt m j = 0 := by
  unfold wAt
  rw [List.getD_eq_getElem?_getD (l := wanW), List.getElem?_eq_none (by rw [wanW_len.1]; exact h)]
  rfl
theorem wan_lens : wanPS.length = 94 ∧ wanMS.length = 71 ∧ wanFS.length = 68 ∧ wanP.length ≤ 1000 ∧ wanM.length ≤ 1000 ∧ wanF.length ≤ 1000 := by decide +kernel
theorem span_bd (b f l p : Int) (hb : 0 ≤ b ∧ b ≤ 255) (hf : 0 ≤ f ∧ f ≤ 255) (hp : 0 ≤ p ∧ p ≤ 100000) : 0 ≤ span b f l p ∧ span b f l p ≤ 100255 := by
  unfold span; split <;> omega
end Dia
set_option maxRecDepth 100000 in
set_option maxHeartbeats 1000000 in
theorem Tryd.c_Row_0 (j : Nat) (w : World) (hj : j < 94) :
    Calls Tryd.prog 20 #[.int .i64 161, .int .i64 (161 + (j : Int))] w fun e w' => e = .returned (.int .i32 (Dia.wAt 0 j)) ∧ Below w.heap.size w w' := by
  obtain ⟨n1, n2, n3, z1, z2, z3⟩ := Dia.wan_lens
  have hbv := Dia.row0 j hj
  have e0 : 161 + (j : Int) - 161 = j := by omega
  have HN : Aid.Hid2 (∀ (s : ByteArray) (w1 : World), s = ⟨Dia.wanP.toArray⟩ → Calls Tryd.prog 38 #[.string s, .int .i64 j] w1 fun e w' => e = .returned (.int .i32 (Dia.wAt 0 j)) ∧ Below w1.heap.size w1 w') := ⟨fun s w1 hs => by
    subst hs
    have h := Tryd.c_Nth ⟨Dia.wanP.toArray⟩ j w1 (by simp only [ByteArray.size, List.size_toArray]; omega) Dia.wanPS Dia.wanP_pts (by omega)
    rw [hbv] at h
    exact h⟩
  clear hbv
  go_enter Tryd.func20, Tryd.ntmps20
  go_wp2_with fail
  refine (HN.out _ _ (by kernel_rfl)).mono ?_
  rintro e w1 ⟨rfl, hb1⟩
  go_wp2
  go_ret
  exact ⟨rfl, hb1⟩
set_option maxRecDepth 100000 in
set_option maxHeartbeats 1000000 in
theorem Tryd.c_Row_1 (j : Nat) (w : World) (hj : j < 94) :
    Calls Tryd.prog 20 #[.int .i64 162, .int .i64 (161 + (j : Int))] w fun e w' => e = .returned (.int .i32 (Dia.wAt 1 j)) ∧ Below w.heap.size w w' := by
  obtain ⟨n1, n2, n3, z1, z2, z3⟩ := Dia.wan_lens
  have hbv := Dia.row1 j hj
  have e0 : 161 + (j : Int) - 161 = j := by omega
  by_cases hlt : j < 71
  · rw [if_pos hlt] at hbv
    have d0 : decide ((j : Int) < 71) = true := decide_eq_true (by omega)
    have HN : Aid.Hid2 (∀ (s : ByteArray) (w1 : World), s = ⟨Dia.wanM.toArray⟩ → Calls Tryd.prog 38 #[.string s, .int .i64 j] w1 fun e w' => e = .returned (.int .i32 (Dia.wAt 1 j)) ∧ Below w1.heap.size w1 w') := ⟨fun s w1 hs => by
      subst hs
      have h := Tryd.c_Nth ⟨Dia.wanM.toArray⟩ j w1 (by simp only [ByteArray.size, List.size_toArray]; omega) Dia.wanMS Dia.wanM_pts (by omega)
      rw [hbv] at h
      exact h⟩
    clear hbv
    go_enter Tryd.func20, Tryd.ntmps20
    go_wp2_with fail
    refine (HN.out _ _ (by kernel_rfl)).mono ?_
    rintro e w1 ⟨rfl, hb1⟩
    go_wp2
    go_ret
    exact ⟨rfl, hb1⟩
  · rw [if_neg hlt] at hbv
    have d0 : decide ((j : Int) < 71) = false := decide_eq_false (by omega)
    have HV := Aid.Hid2.mk hbv
    rw [← HV.out]
    clear hbv
    go_enter Tryd.func20, Tryd.ntmps20
    go_wp2
    go_ret
    exact ⟨rfl, Below.refl _ _⟩
set_option maxRecDepth 100000 in
set_option maxHeartbeats 1000000 in
theorem Tryd.c_Row_5 (j : Nat) (w : World) (hj : j < 94) :
    Calls Tryd.prog 20 #[.int .i64 166, .int .i64 (161 + (j : Int))] w fun e w' => e = .returned (.int .i32 (Dia.wAt 5 j)) ∧ Below w.heap.size w w' := by
  obtain ⟨n1, n2, n3, z1, z2, z3⟩ := Dia.wan_lens
  have hbv := Dia.row5 j hj
  have e0 : 161 + (j : Int) - 161 = j := by omega
  by_cases hlt : j < 68
  · rw [if_pos hlt] at hbv
    have d0 : decide ((j : Int) < 68) = true := decide_eq_true (by omega)
    have HN : Aid.Hid2 (∀ (s : ByteArray) (w1 : World), s = ⟨Dia.wanF.toArray⟩ → Calls Tryd.prog 38 #[.string s, .int .i64 j] w1 fun e w' => e = .returned (.int .i32 (Dia.wAt 5 j)) ∧ Below w1.heap.size w1 w') := ⟨fun s w1 hs => by
      subst hs
      have h := Tryd.c_Nth ⟨Dia.wanF.toArray⟩ j w1 (by simp only [ByteArray.size, List.size_toArray]; omega) Dia.wanFS Dia.wanF_pts (by omega)
      rw [hbv] at h
      exact h⟩
    clear hbv
    go_enter Tryd.func20, Tryd.ntmps20
    go_wp2_with fail
    refine (HN.out _ _ (by kernel_rfl)).mono ?_
    rintro e w1 ⟨rfl, hb1⟩
    go_wp2
    go_ret
    exact ⟨rfl, hb1⟩
  · rw [if_neg hlt] at hbv
    have d0 : decide ((j : Int) < 68) = false := decide_eq_false (by omega)
    have HV := Aid.Hid2.mk hbv
    rw [← HV.out]
    clear hbv
    go_enter Tryd.func20, Tryd.ntmps20
    go_wp2
    go_ret
    exact ⟨rfl, Below.refl _ _⟩
set_option maxRecDepth 100000 in
set_option maxHeartbeats 1000000 in
theorem Tryd.c_Row_4 (j : Nat) (w : World) (hj : j < 94) :
    Calls Tryd.prog 20 #[.int .i64 165, .int .i64 (161 + (j : Int))] w fun e w' => e = .returned (.int .i32 (Dia.wAt 4 j)) ∧ Below w.heap.size w w' := by
  have HV := Aid.Hid2.mk (Dia.row4 j hj)
  rw [← HV.out]
  have b0 : 0 ≤ 161 + (j : Int) := by omega
  have b1 : 161 + (j : Int) ≤ 255 := by omega
  clear HV
  generalize 161 + (j : Int) = b at *
  have H0 := Aid.Hid2.mk (fun w1 => Tryd.c_span b 161 170 8560 w1 ⟨b0, b1⟩ (by decide) (by decide) (by decide))
  obtain ⟨x0, y0⟩ := Dia.span_bd b 161 170 8560 ⟨b0, b1⟩ (by decide) (by decide)
  have H1 := Aid.Hid2.mk (fun w1 => Tryd.c_span b 176 185 8544 w1 ⟨b0, b1⟩ (by decide) (by decide) (by decide))
  obtain ⟨x1, y1⟩ := Dia.span_bd b 176 185 8544 ⟨b0, b1⟩ (by decide) (by decide)
  have H2 := Aid.Hid2.mk (fun w1 => Tryd.c_span b 193 209 913 w1 ⟨b0, b1⟩ (by decide) (by decide) (by decide))
  obtain ⟨x2, y2⟩ := Dia.span_bd b 193 209 913 ⟨b0, b1⟩ (by decide) (by decide)
  have H3 := Aid.Hid2.mk (fun w1 => Tryd.c_span b 210 216 931 w1 ⟨b0, b1⟩ (by decide) (by decide) (by decide))
  obtain ⟨x3, y3⟩ := Dia.span_bd b 210 216 931 ⟨b0, b1⟩ (by decide) (by decide)
  have H4 := Aid.Hid2.mk (fun w1 => Tryd.c_span b 225 241 945 w1 ⟨b0, b1⟩ (by decide) (by decide) (by decide))
  obtain ⟨x4, y4⟩ := Dia.span_bd b 225 241 945 ⟨b0, b1⟩ (by decide) (by decide)
  have H5 := Aid.Hid2.mk (fun w1 => Tryd.c_span b 242 248 963 w1 ⟨b0, b1⟩ (by decide) (by decide) (by decide))
  obtain ⟨x5, y5⟩ := Dia.span_bd b 242 248 963 ⟨b0, b1⟩ (by decide) (by decide)
  generalize Dia.span b 161 170 8560 = s0 at *
  generalize Dia.span b 176 185 8544 = s1 at *
  generalize Dia.span b 193 209 913 = s2 at *
  generalize Dia.span b 210 216 931 = s3 at *
  generalize Dia.span b 225 241 945 = s4 at *
  generalize Dia.span b 242 248 963 = s5 at *
  have e1 : IntKind.i32.wrap (s0 + s1) = s0 + s1 := IntWalk.i32_in _ (by omega)
  have e2 : IntKind.i32.wrap (s0 + s1 + s2) = s0 + s1 + s2 := IntWalk.i32_in _ (by omega)
  have e3 : IntKind.i32.wrap (s0 + s1 + s2 + s3) = s0 + s1 + s2 + s3 := IntWalk.i32_in _ (by omega)
  have e4 : IntKind.i32.wrap (s0 + s1 + s2 + s3 + s4) = s0 + s1 + s2 + s3 + s4 := IntWalk.i32_in _ (by omega)
  have e5 : IntKind.i32.wrap (s0 + s1 + s2 + s3 + s4 + s5) = s0 + s1 + s2 + s3 + s4 + s5 := IntWalk.i32_in _ (by omega)
  go_enter Tryd.func20, Tryd.ntmps20
  go_wp2_with fail
  refine (H0.out _).mono ?_
  rintro e w1 ⟨rfl, rfl⟩
  go_wp2_with fail
  refine (H1.out _).mono ?_
  rintro e w1 ⟨rfl, rfl⟩
  go_wp2_with fail
  refine (H2.out _).mono ?_
  rintro e w1 ⟨rfl, rfl⟩
  go_wp2_with fail
  refine (H3.out _).mono ?_
  rintro e w1 ⟨rfl, rfl⟩
  go_wp2_with fail
  refine (H4.out _).mono ?_
  rintro e w1 ⟨rfl, rfl⟩
  go_wp2_with fail
  refine (H5.out _).mono ?_
  rintro e w1 ⟨rfl, rfl⟩
  go_wp2
  go_ret
  exact ⟨by go_num, Below.refl _ _⟩
set_option maxRecDepth 100000 in
set_option maxHeartbeats 1000000 in
theorem Tryd.c_Row_9 (j : Nat) (w : World) (hj : j < 94) :
    Calls Tryd.prog 20 #[.int .i64 170, .int .i64 (161 + (j : Int))] w fun e w' => e = .returned (.int .i32 (Dia.wAt 9 j)) ∧ Below w.heap.size w w' := by
  have HV := Aid.Hid2.mk (Dia.row9 j hj)
  rw [← HV.out]
  have b0 : 0 ≤ 161 + (j : Int) := by omega
  have b1 : 161 + (j : Int) ≤ 255 := by omega
  clear HV
  generalize 161 + (j : Int) = b at *
  have H0 := Aid.Hid2.mk (fun w1 => Tryd.c_span b 161 243 12353 w1 ⟨b0, b1⟩ (by decide) (by decide) (by decide))
  obtain ⟨x0, y0⟩ := Dia.span_bd b 161 243 12353 ⟨b0, b1⟩ (by decide) (by decide)
  generalize Dia.span b 161 243 12353 = s0 at *
  go_enter Tryd.func20, Tryd.ntmps20
  go_wp2_with fail
  refine (H0.out _).mono ?_
  rintro e w1 ⟨rfl, rfl⟩
  go_wp2
  go_ret
  exact ⟨by go_num, Below.refl _ _⟩
set_option maxRecDepth 100000 in
set_option maxHeartbeats 1000000 in
theorem Tryd.c_Row_10 (j : Nat) (w : World) (hj : j < 94) :
    Calls Tryd.prog 20 #[.int .i64 171, .int .i64 (161 + (j : Int))] w fun e w' => e = .returned (.int .i32 (Dia.wAt 10 j)) ∧ Below w.heap.size w w' := by
  have HV := Aid.Hid2.mk (Dia.row10 j hj)
  rw [← HV.out]
  have b0 : 0 ≤ 161 + (j : Int) := by omega
  have b1 : 161 + (j : Int) ≤ 255 := by omega
  clear HV
  generalize 161 + (j : Int) = b at *
  have H0 := Aid.Hid2.mk (fun w1 => Tryd.c_span b 161 246 12449 w1 ⟨b0, b1⟩ (by decide) (by decide) (by decide))
  obtain ⟨x0, y0⟩ := Dia.span_bd b 161 246 12449 ⟨b0, b1⟩ (by decide) (by decide)
  generalize Dia.span b 161 246 12449 = s0 at *
  go_enter Tryd.func20, Tryd.ntmps20
  go_wp2_with fail
  refine (H0.out _).mono ?_
  rintro e w1 ⟨rfl, rfl⟩
  go_wp2
  go_ret
  exact ⟨by go_num, Below.refl _ _⟩
set_option maxRecDepth 100000 in
set_option maxHeartbeats 1000000 in
theorem Tryd.c_Row_11 (j : Nat) (w : World) (hj : j < 94) :
    Calls Tryd.prog 20 #[.int .i64 172, .int .i64 (161 + (j : Int))] w fun e w' => e = .returned (.int .i32 (Dia.wAt 11 j)) ∧ Below w.heap.size w w' := by
  have HV := Aid.Hid2.mk (Dia.row11 j hj)
  rw [← HV.out]
  have b0 : 0 ≤ 161 + (j : Int) := by omega
  have b1 : 161 + (j : Int) ≤ 255 := by omega
  clear HV
  generalize 161 + (j : Int) = b at *
  have H0 := Aid.Hid2.mk (fun w1 => Tryd.c_span b 161 166 1040 w1 ⟨b0, b1⟩ (by decide) (by decide) (by decide))
  obtain ⟨x0, y0⟩ := Dia.span_bd b 161 166 1040 ⟨b0, b1⟩ (by decide) (by decide)
  have H1 := Aid.Hid2.mk (fun w1 => Tryd.c_span b 167 167 1025 w1 ⟨b0, b1⟩ (by decide) (by decide) (by decide))
  obtain ⟨x1, y1⟩ := Dia.span_bd b 167 167 1025 ⟨b0, b1⟩ (by decide) (by decide)
  have H2 := Aid.Hid2.mk (fun w1 => Tryd.c_span b 168 193 1046 w1 ⟨b0, b1⟩ (by decide) (by decide) (by decide))
  obtain ⟨x2, y2⟩ := Dia.span_bd b 168 193 1046 ⟨b0, b1⟩ (by decide) (by decide)
  have H3 := Aid.Hid2.mk (fun w1 => Tryd.c_span b 209 214 1072 w1 ⟨b0, b1⟩ (by decide) (by decide) (by decide))
  obtain ⟨x3, y3⟩ := Dia.span_bd b 209 214 1072 ⟨b0, b1⟩ (by decide) (by decide)
  have H4 := Aid.Hid2.mk (fun w1 => Tryd.c_span b 215 215 1105 w1 ⟨b0, b1⟩ (by decide) (by decide) (by decide))
  obtain ⟨x4, y4⟩ := Dia.span_bd b 215 215 1105 ⟨b0, b1⟩ (by decide) (by decide)
  have H5 := Aid.Hid2.mk (fun w1 => Tryd.c_span b 216 241 1078 w1 ⟨b0, b1⟩ (by decide) (by decide) (by decide))
  obtain ⟨x5, y5⟩ := Dia.span_bd b 216 241 1078 ⟨b0, b1⟩ (by decide) (by decide)
  generalize Dia.span b 161 166 1040 = s0 at *
  generalize Dia.span b 167 167 1025 = s1 at *
  generalize Dia.span b 168 193 1046 = s2 at *
  generalize Dia.span b 209 214 1072 = s3 at *
  generalize Dia.span b 215 215 1105 = s4 at *
  generalize Dia.span b 216 241 1078 = s5 at *
  have e1 : IntKind.i32.wrap (s0 + s1) = s0 + s1 := IntWalk.i32_in _ (by omega)
  have e2 : IntKind.i32.wrap (s0 + s1 + s2) = s0 + s1 + s2 := IntWalk.i32_in _ (by omega)
  have e3 : IntKind.i32.wrap (s0 + s1 + s2 + s3) = s0 + s1 + s2 + s3 := IntWalk.i32_in _ (by omega)
  have e4 : IntKind.i32.wrap (s0 + s1 + s2 + s3 + s4) = s0 + s1 + s2 + s3 + s4 := IntWalk.i32_in _ (by omega)
  have e5 : IntKind.i32.wrap (s0 + s1 + s2 + s3 + s4 + s5) = s0 + s1 + s2 + s3 + s4 + s5 := IntWalk.i32_in _ (by omega)
  go_enter Tryd.func20, Tryd.ntmps20
  go_wp2_with fail
  refine (H0.out _).mono ?_
  rintro e w1 ⟨rfl, rfl⟩
  go_wp2_with fail
  refine (H1.out _).mono ?_
  rintro e w1 ⟨rfl, rfl⟩
  go_wp2_with fail
  refine (H2.out _).mono ?_
  rintro e w1 ⟨rfl, rfl⟩
  go_wp2_with fail
  refine (H3.out _).mono ?_
  rintro e w1 ⟨rfl, rfl⟩
  go_wp2_with fail
  refine (H4.out _).mono ?_
  rintro e w1 ⟨rfl, rfl⟩
  go_wp2_with fail
  refine (H5.out _).mono ?_
  rintro e w1 ⟨rfl, rfl⟩
  go_wp2
  go_ret
  exact ⟨by go_num, Below.refl _ _⟩
set_option maxRecDepth 100000 in
set_option maxHeartbeats 1000000 in
theorem Tryd.c_Row_2 (j : Nat) (w : World) (hj : j < 94) :
    Calls Tryd.prog 20 #[.int .i64 163, .int .i64 (161 + (j : Int))] w fun e w' => e = .returned (.int .i32 (Dia.wAt 2 j)) ∧ Below w.heap.size w w' := by
  have hv := Dia.row2 j hj
  by_cases h1 : j = 59
  · subst h1
    rw [← hv]
    clear hv
    go_enter Tryd.func20, Tryd.ntmps20
    go_wp2
    go_ret
    exact ⟨rfl, Below.refl _ _⟩
  · by_cases h2 : j = 93
    · subst h2
      rw [← hv]
      clear hv
      go_enter Tryd.func20, Tryd.ntmps20
      go_wp2
      go_ret
      exact ⟨rfl, Below.refl _ _⟩
    · rw [if_neg h1, if_neg h2] at hv
      rw [← hv]
      have d1 : (161 + (j : Int) == 220) = false := by simp; omega
      have d2 : (161 + (j : Int) == 254) = false := by simp; omega
      have e1 : 65281 + (161 + (j : Int)) - 161 = 65281 + (j : Int) := by omega
      clear hv h1 h2
      go_enter Tryd.func20, Tryd.ntmps20
      go_wp2
      go_ret
      exact ⟨by go_num, Below.refl _ _⟩
set_option maxRecDepth 100000 in
set_option maxHeartbeats 1000000 in
theorem Tryd.c_Row_3 (j : Nat) (w : World) (hj : j < 94) :
    Calls Tryd.prog 20 #[.int .i64 164, .int .i64 (161 + (j : Int))] w fun e w' => e = .returned (.int .i32 (Dia.wAt 3 j)) ∧ Below w.heap.size w w' := by
  have hv := Dia.row3 j hj
  rw [← hv]
  have e1 : 12593 + (161 + (j : Int)) - 161 = 12593 + (j : Int) := by omega
  clear hv
  go_enter Tryd.func20, Tryd.ntmps20
  go_wp2
  go_ret
  exact ⟨by go_num, Below.refl _ _⟩
set_option maxRecDepth 100000 in
set_option maxHeartbeats 1000000 in
theorem Tryd.c_Row_no (l : Int) (j : Nat) (w : World) (hl : l = 167 ∨ l = 168 ∨ l = 169 ∨ 173 ≤ l ∧ l ≤ 255) :
    Calls Tryd.prog 20 #[.int .i64 l, .int .i64 (161 + (j : Int))] w fun e w' => e = .returned (.int .i32 0) ∧ Below w.heap.size w w' := by
  have d161 : (l == 161) = false := by simp; omega
  have d162 : (l == 162) = false := by simp; omega
  have d163 : (l == 163) = false := by simp; omega
  have d164 : (l == 164) = false := by simp; omega
  have d165 : (l == 165) = false := by simp; omega
  have d166 : (l == 166) = false := by simp; omega
  have d170 : (l == 170) = false := by simp; omega
  have d171 : (l == 171) = false := by simp; omega
  have d172 : (l == 172) = false := by simp; omega
  clear hl
  go_enter Tryd.func20, Tryd.ntmps20
  go_wp2
  go_ret
  exact ⟨rfl, Below.refl _ _⟩
theorem Tryd.c_Row (m j : Nat) (w : World) (hm : m ≤ 94) (hj : j < 94) :
    Calls Tryd.prog 20 #[.int .i64 (161 + (m : Int)), .int .i64 (161 + (j : Int))] w fun e w' => e = .returned (.int .i32 (Dia.wAt m j)) ∧ Below w.heap.size w w' := by
  by_cases h12 : 12 ≤ m
  · rw [Dia.row12 m j h12]
    exact Tryd.c_Row_no _ j w (by omega)
  · have h : m = 0 ∨ m = 1 ∨ m = 2 ∨ m = 3 ∨ m = 4 ∨ m = 5 ∨ m = 6 ∨ m = 7 ∨ m = 8 ∨ m = 9 ∨ m = 10 ∨ m = 11 := by omega
    obtain ⟨r6, r7, r8⟩ := Dia.row678 j hj
    rcases h with rfl | rfl | rfl | rfl | rfl | rfl | rfl | rfl | rfl | rfl | rfl | rfl
    · exact Tryd.c_Row_0 j w hj
    · exact Tryd.c_Row_1 j w hj
    · exact Tryd.c_Row_2 j w hj
    · exact Tryd.c_Row_3 j w hj
    · exact Tryd.c_Row_4 j w hj
    · exact Tryd.c_Row_5 j w hj
    · rw [r6]; exact Tryd.c_Row_no _ j w (by omega)
    · rw [r7]; exact Tryd.c_Row_no _ j w (by omega)
    · rw [r8]; exact Tryd.c_Row_no _ j w (by omega)
    · exact Tryd.c_Row_9 j w hj
    · exact Tryd.c_Row_10 j w hj
    · exact Tryd.c_Row_11 j w hj
end Go.Proofs
