/- walks of big5's reference: nth -/
import Derived.Test.YtdbpliheggbmdaaDoorB4
namespace Go.Proofs
open Go.RowKit

theorem Dia.upTo_get {l : List UInt8} {k : Nat} {ps : List Int} (hu : Dia.UpTo l k ps) (hlt : k < l.length) (hok : (Dia.pts l).2 = -1) :
    (Dia.hd (l.drop k)).2 ≠ 0 ∧ (Dia.pts l).1[ps.length]? = some (Dia.hd (l.drop k)).1 := by
  have hne : (Dia.hd (l.drop k)).2 ≠ 0 := by
    intro h
    rw [Dia.upTo_bad hu hlt h] at hok
    simp at hok
  refine ⟨hne, ?_⟩
  obtain ⟨h0, h1, _⟩ := Dia.upTo_step hu hne
  generalize (Dia.hd (l.drop k)).1 = q at *
  generalize l.drop (k + (Dia.hd (l.drop k)).2) = r at *
  rcases Dia.pts_cases r with ⟨p2, g1, g2, _⟩ | ⟨p2, r2, g1, g3, g4, g2, _⟩
  · have hall : ∀ p ∈ (ps ++ [q]) ++ p2, Dia.sc p = true := fun p hp => by
      rcases List.mem_append.1 hp with h | h
      · exact h0 p h
      · exact g1 p h
    rw [h1, g2, ← Dia.encs_append, Dia.pts_ok _ hall]
    simp
  · exfalso
    have hall : ∀ p ∈ (ps ++ [q]) ++ p2, Dia.sc p = true := fun p hp => by
      rcases List.mem_append.1 hp with h | h
      · exact h0 p h
      · exact g1 p h
    rw [h1, g2, ← List.append_assoc, ← Dia.encs_append, Dia.pts_bad _ hall _ g3 g4] at hok
    simp at hok
set_option maxRecDepth 100000 in
set_option maxHeartbeats 400000 in
theorem Tryd.c_nth (s : ByteArray) (n : Nat) (w : World) (hs : s.size ≤ 1000000) (hn : n ≤ 1000000) (hok : (Dia.pts s.data.toList).2 = -1) :
    Calls Tryd.prog 32 #[.string s, .int .i64 n] w fun e w' => e = .returned (.int .i32 ((Dia.pts s.data.toList).1.getD n 0)) ∧ Below w.heap.size w w' := by
  have HOK := Aid.Hid2.mk hok
  clear hok
  generalize hg : (Dia.pts s.data.toList).1.getD n 0 = G
  have HG := Aid.Hid2.mk hg
  clear hg
  go_enter Tryd.func32, Tryd.ntmps32
  go_wp2
  go_loopw [5, 6, 7, 8] (fun a i _ _ wr => ∃ (k : Nat) (ps : List Int), a = .int .i64 k ∧ i = .int .i64 ps.length ∧ ps.length ≤ n ∧ Dia.UpTo s.data.toList k ps ∧ Below w.heap.size w wr)
    (fun a _ _ _ _ => s.size - (intOf a).toNat)
  case atStart => exact ⟨0, [], rfl, rfl, Nat.zero_le _, Dia.upTo_zero _, Below.refl _ _⟩
  case round =>
    obtain ⟨k, ps, rfl, rfl, hpn, hu, hb⟩ := hrel
    have hk : k ≤ s.size := Dia.upTo_le hu
    have h4 := Dia.hd_le (s.data.toList.drop k)
    have HU := Aid.Hid2.mk hu
    clear hu
    generalize hm : ps.length = m at *
    have HM := Aid.Hid2.mk hm
    clear hm
    by_cases hlt : k < s.size
    · obtain ⟨g1, g2⟩ := Dia.upTo_get HU.out hlt HOK.out
      have G2 := Aid.Hid2.mk g2
      have G3 := Aid.Hid2.mk (Dia.upTo_step HU.out g1)
      have g1' : 1 ≤ (Dia.hd (s.data.toList.drop k)).2 := Nat.pos_of_ne_zero g1
      have HA : Aid.Hid2 (∀ w1, Calls Tryd.prog 24 #[.string s, .int .i64 k] w1 fun e w' => e = .returned (.tuple #[.int .i32 (Dia.hd (s.data.toList.drop k)).1, .int .i64 ((Dia.hd (s.data.toList.drop k)).2 : Nat)]) ∧ Below w1.heap.size w1 w') := ⟨fun w1 => Tryd.c_At s k w1 hlt hs⟩
      clear g1 g2
      generalize Dia.hd (s.data.toList.drop k) = q at *
      obtain ⟨q1, q2⟩ := q
      simp only at g1' h4 HA
      have hlt' : (k : Int) < (s.size : Int) := by omega
      by_cases hmn : m = n
      · have HR : Aid.Hid2 (G = q1) := ⟨by
          rw [← HG.out]
          have := G2.out
          rw [HM.out, hmn] at this
          rw [List.getD_eq_getElem?_getD, this]
          rfl⟩
        subst hmn
        go_wp2_with (go_at_call 24; refine (HA.out _).mono ?_; rintro e w1 ⟨rfl, hb1⟩)
        go_ret
        exact ⟨(by rw [HR.out]; go_num), Aid.bt hb hb1⟩
      · have hmi : ¬ (m : Int) = (n : Int) := by omega
        go_wp2_with (go_at_call 24; refine (HA.out _).mono ?_; rintro e w1 ⟨rfl, hb1⟩)
        go_roundw
        case rel => exact ⟨k + q2, ps ++ [q1], by go_num, by rw [List.length_append, HM.out]; go_num, by rw [List.length_append, HM.out]; simp; omega, G3.out, Aid.bt hb hb1⟩
        case measure => simp [intOf]; omega
    · have hend := Dia.upTo_end HU.out hlt
      have HR : Aid.Hid2 (G = 0) := ⟨by
        rw [← HG.out]
        rw [hend, List.getD_eq_getElem?_getD, List.getElem?_eq_none (by have := HM.out; simp only; omega)]
        rfl⟩
      clear hend
      go_wp2
      go_ret
      exact ⟨(by rw [HR.out]; go_num), hb⟩
end Go.Proofs
