/- PLAIN: johab: what its functions compute; two bytes of a sign lead back to it; walks of johab; walks of johab: Sign, Bytes; walks of johab: Bytes; layer 6's example -/
import Derived.Test.YtoaojojapebamaaGreatDoorM06
import Derived.Test.YtoaojojapebamaaGreatDoorM17
import Derived.Test.YtoaojojapebamaaGreatDoorM18
namespace Go.Proofs.Dia
def jmed (c : Int) : Int := if c = 2 then -1 else if 3 ≤ c ∧ c ≤ 7 then c - 3 else if 10 ≤ c ∧ c ≤ 15 then c - 5 else if 18 ≤ c ∧ c ≤ 23 then c - 7 else if 26 ≤ c ∧ c ≤ 29 then c - 9 else -2
def jfin (c : Int) : Int := if 1 ≤ c ∧ c ≤ 17 then c - 1 else if 19 ≤ c ∧ c ≤ 29 then c - 2 else -2
def jmc (m : Int) : Int := if m < 5 then m + 3 else if m < 11 then m + 5 else if m < 17 then m + 7 else m + 9
def jfc (f : Int) : Int := if f < 17 then f + 1 else f + 2
theorem jmed_mc {m : Int} (h : 0 ≤ m ∧ m ≤ 20) : jmed (jmc m) = m := by unfold jmed jmc; repeat' split <;> try omega
theorem jfin_fc {f : Int} (h : 0 ≤ f ∧ f ≤ 27) : jfin (jfc f) = f := by unfold jfin jfc; repeat' split <;> try omega
theorem jmc_med {c : Int} (h : 0 ≤ jmed c) : jmc (jmed c) = c := by unfold jmed jmc at *; repeat' split at * <;> try omega
theorem jfc_fin {c : Int} (h : 0 ≤ jfin c) : jfc (jfin c) = c := by unfold jfin jfc at *; repeat' split at * <;> try omega
theorem jmed_bd (c : Int) : -2 ≤ jmed c ∧ jmed c ≤ 20 := by unfold jmed; repeat' split <;> try omega
theorem jfin_bd (c : Int) : -2 ≤ jfin c ∧ jfin c ≤ 27 := by unfold jfin; repeat' split <;> try omega
theorem jmc_bd {m : Int} (h : 0 ≤ m ∧ m ≤ 20) : 3 ≤ jmc m ∧ jmc m ≤ 29 := by unfold jmc; repeat' split <;> try omega
theorem jfc_bd {f : Int} (h : 0 ≤ f ∧ f ≤ 27) : 1 ≤ jfc f ∧ jfc f ≤ 29 := by unfold jfc; repeat' split <;> try omega
def jcons : List UInt8 := [97, 98, 68, 99, 70, 71, 100, 101, 102, 74, 75, 76, 77, 78, 79, 80, 103, 104, 105, 83, 106, 107, 108, 109, 110, 111, 112, 113, 114, 115]
def jalone (x : Int) : Int × Bool := if Lib.indexByte jcons x.toNat.toUInt8 < 0 then (0, false) else (12593 + Lib.indexByte jcons x.toNat.toUInt8, true)
def jcon (n : Nat) : Int := ((jcons.getD n 0).toNat : Int)
theorem jcon_at : ∀ n, n < 30 → jalone (jcon n) = (12593 + (n : Int), true) ∧ ((97 ≤ jcon n ∧ jcon n ≤ 115) ∨ (66 ≤ jcon n ∧ jcon n ≤ 92)) := by decide +kernel
theorem jalone_bd : ∀ x : Nat, x < 256 → (jalone x).2 = true → 12593 ≤ (jalone x).1 ∧ (jalone x).1 ≤ 12622 := by decide +kernel
/-- the sign of an initial's, a medial's and a final's numbers (-1: none; below: no such) -/
def jsg (i m f : Int) : Int × Bool :=
  if i < -1 ∨ 18 < i ∨ m < -1 ∨ f < 0 then (0, false)
  else if 0 ≤ i ∧ 0 ≤ m then (44032 + ((i * 21 + m) * 28) + f, true)
  else if 0 ≤ i ∧ f = 0 then jalone (97 + i)
  else if 0 ≤ m ∧ f = 0 then (12623 + m, true)
  else if 0 ≤ i ∨ 0 ≤ m ∨ f = 0 then (0, false)
  else jalone (65 + f)
def jsign (l t : Int) : Int × Bool :=
  if l < 128 then (0, false) else jsg ((l * 256 + t) / 1024 % 32 - 2) (jmed ((l * 256 + t) / 32 % 32)) (jfin ((l * 256 + t) % 32))
def jcode (i m f : Int) : Int := 32768 + i * 1024 + m * 32 + f
def jtwo (i m f : Int) : List UInt8 := bigB (jcode i m f).toNat 2
def jbytes (p : Int) : List UInt8 × Bool :=
  if 44032 ≤ p ∧ p < 55204 then (jtwo ((p - 44032) / 28 / 21 + 2) (jmc ((p - 44032) / 28 % 21)) (jfc ((p - 44032) % 28)), true)
  else if 12623 ≤ p ∧ p ≤ 12643 then (jtwo 1 (jmc (p - 12623)) 1, true)
  else if 12593 ≤ p ∧ p < 12623 then (if 97 ≤ jcon (p - 12593).toNat then (jtwo (jcon (p - 12593).toNat - 97 + 2) 2 1, true) else (jtwo 1 2 (jfc (jcon (p - 12593).toNat - 65)), true))
  else ([], false)
theorem jbig2 (n : Nat) (h : n < 65536) : bigB n 2 = [(n / 256).toUInt8, (n % 256).toUInt8] := by
  have e : List.range 2 = [0, 1] := rfl
  simp only [bigB, e, List.map_cons, List.map_nil]
  congr 2
  · congr 1; omega
  · congr 2; omega
/-- two bytes that lead to a sign -/
def JTwo (s : List UInt8) (p : Int) : Prop := ∃ l t : UInt8, s = [l, t] ∧ 128 ≤ l.toNat ∧ jsign l.toNat t.toNat = (p, true)
theorem jtwo_sign {i m f p : Int} (hi : 0 ≤ i ∧ i ≤ 31) (hm : 0 ≤ m ∧ m ≤ 31) (hf : 0 ≤ f ∧ f ≤ 31) (h : jsg (i - 2) (jmed m) (jfin f) = (p, true)) : JTwo (jtwo i m f) p := by
  obtain ⟨n, hn⟩ := Int.eq_ofNat_of_zero_le (show 0 ≤ jcode i m f by unfold jcode; omega)
  have hn2 : n < 65536 := by unfold jcode at hn; omega
  have h1 : (n / 256).toUInt8.toNat = n / 256 := u8 _ (by omega)
  have h2 : (n % 256).toUInt8.toNat = n % 256 := u8 _ (by omega)
  refine ⟨(n / 256).toUInt8, (n % 256).toUInt8, ?_, ?_, ?_⟩
  · unfold jtwo; rw [hn, Int.toNat_natCast]; exact jbig2 n hn2
  · rw [h1]; unfold jcode at hn; omega
  · rw [h1, h2]
    unfold jsign
    unfold jcode at hn
    rw [if_neg (by omega)]
    have e : ((n / 256 : Nat) : Int) * 256 + ((n % 256 : Nat) : Int) = 32768 + i * 1024 + m * 32 + f := by omega
    rw [e, show (32768 + i * 1024 + m * 32 + f) / 1024 % 32 = i by omega, show (32768 + i * 1024 + m * 32 + f) / 32 % 32 = m by omega, show (32768 + i * 1024 + m * 32 + f) % 32 = f by omega]
    exact h
theorem jbytes_back {p : Int} (h : (jbytes p).2 = true) : JTwo (jbytes p).1 p := by
  unfold jbytes at h ⊢
  by_cases h1 : 44032 ≤ p ∧ p < 55204
  · rw [if_pos h1]
    have b1 : 0 ≤ (p - 44032) / 28 % 21 ∧ (p - 44032) / 28 % 21 ≤ 20 := by omega
    have b2 : 0 ≤ (p - 44032) % 28 ∧ (p - 44032) % 28 ≤ 27 := by omega
    have c1 := jmc_bd b1
    have c2 := jfc_bd b2
    refine jtwo_sign (by omega) (by omega) (by omega) ?_
    rw [jmed_mc b1, jfin_fc b2]
    unfold jsg
    rw [if_neg (by omega), if_pos (by omega)]
    congr 1
    omega
  · rw [if_neg h1] at h ⊢
    by_cases h2 : 12623 ≤ p ∧ p ≤ 12643
    · rw [if_pos h2]
      have b1 : 0 ≤ p - 12623 ∧ p - 12623 ≤ 20 := by omega
      have c1 := jmc_bd b1
      refine jtwo_sign (by omega) (by omega) (by omega) ?_
      rw [jmed_mc b1, show jfin 1 = 0 from rfl]
      unfold jsg
      rw [if_neg (by omega), if_neg (by omega), if_neg (by omega), if_pos (by omega)]
      congr 1
      omega
    · rw [if_neg h2] at h ⊢
      by_cases h3 : 12593 ≤ p ∧ p < 12623
      · rw [if_pos h3]
        obtain ⟨g1, g2⟩ := jcon_at (p - 12593).toNat (by omega)
        have e : 12593 + (((p - 12593).toNat : Nat) : Int) = p := by omega
        rw [e] at g1
        by_cases h4 : 97 ≤ jcon (p - 12593).toNat
        · rw [if_pos h4]
          refine jtwo_sign (by omega) (by omega) (by omega) ?_
          rw [show jmed 2 = -1 from rfl, show jfin 1 = 0 from rfl]
          unfold jsg
          rw [if_neg (by omega), if_neg (by omega), if_pos (by omega), show 97 + (jcon (p - 12593).toNat - 97 + 2 - 2) = jcon (p - 12593).toNat by omega]
          exact g1
        · rw [if_neg h4]
          have b2 : 0 ≤ jcon (p - 12593).toNat - 65 ∧ jcon (p - 12593).toNat - 65 ≤ 27 := by omega
          have c2 := jfc_bd b2
          refine jtwo_sign (by omega) (by omega) (by omega) ?_
          rw [show jmed 2 = -1 from rfl, jfin_fc b2]
          unfold jsg
          rw [if_neg (by omega), if_neg (by omega), if_neg (by omega), if_neg (by omega), if_neg (by omega), show 65 + (jcon (p - 12593).toNat - 65) = jcon (p - 12593).toNat by omega]
          exact g1
      · rw [if_neg h3] at h
        simp at h
end Go.Proofs.Dia
namespace Go.Proofs
open Go.RowKit

theorem Dia.jor (k : Nat) (a c : Int) (hk : k ≤ 15) (h0 : 0 ≤ a) (h1 : a ≤ 100000) (c0 : 0 ≤ c) (c1 : c < 2 ^ k) : bits .or .i64 (a * 2 ^ k) c = a * 2 ^ k + c := by
  obtain ⟨n, rfl⟩ := Int.eq_ofNat_of_zero_le h0
  obtain ⟨m, rfl⟩ := Int.eq_ofNat_of_zero_le c0
  show IntKind.i64.wrap ((BitVec.ofInt 64 ((n : Int) * 2 ^ k) ||| BitVec.ofInt 64 (m : Int)).toNat : Int) = _
  have hm : m < 2 ^ k := by
    have h2 : ((2 ^ k : Nat) : Int) = (2 : Int) ^ k := by push_cast; rfl
    omega
  have hp : 2 ^ k ≤ 2 ^ 15 := Nat.pow_le_pow_right (by decide) hk
  have e0 : ((n : Int) * 2 ^ k) = ((2 ^ k * n : Nat) : Int) := by push_cast; rw [Int.mul_comm]
  have e2 : (2 ^ k * n ||| m) = 2 ^ k * n + m := (Nat.two_pow_add_eq_or_of_lt hm n).symm
  have hb : 2 ^ k * n ≤ 2 ^ 15 * 100000 := Nat.mul_le_mul hp (by omega)
  rw [e0, BitVec.ofInt_natCast, BitVec.ofInt_natCast, BitVec.toNat_or, BitVec.toNat_ofNat, BitVec.toNat_ofNat, Nat.mod_eq_of_lt (by omega), Nat.mod_eq_of_lt (by omega)]
  rw [e2, IntWalk.i64_in _ (by omega)]
  push_cast
  rfl
theorem Dia.jand31 (x : Int) (h0 : 0 ≤ x) (h1 : x ≤ 100000) : bits .and .i64 x 31 = x % 32 := by
  obtain ⟨n, rfl⟩ := Int.eq_ofNat_of_zero_le h0
  show IntKind.i64.wrap ((BitVec.ofInt 64 (n : Int) &&& BitVec.ofInt 64 ((31 : Nat) : Int)).toNat : Int) = _
  rw [BitVec.ofInt_natCast, BitVec.ofInt_natCast, BitVec.toNat_and, BitVec.toNat_ofNat, BitVec.toNat_ofNat, Nat.mod_eq_of_lt (by omega), Nat.mod_eq_of_lt (by omega)]
  rw [show (31 : Nat) = 2 ^ 5 - 1 from rfl, Nat.and_two_pow_sub_one_eq_mod, IntWalk.i64_in _ (by omega)]
  omega
set_option maxRecDepth 100000 in
set_option maxHeartbeats 1000000 in
theorem Tryz.c_jmed (x : Int) (w : World) (h : 0 ≤ x ∧ x ≤ 31) :
    Calls Tryz.prog 69 #[.int .i64 x] w fun e w' => e = .returned (.int .i64 (Dia.jmed x)) ∧ w = w' := by
  obtain ⟨h0, h1⟩ := h
  by_cases c0 : x = 2
  · have d0 : (x == 2) = true := by simpa using c0
    have HV : Aid.Hid2 (Dia.jmed x = -1) := ⟨by unfold Dia.jmed; repeat' split <;> try omega⟩
    rw [HV.out]
    clear HV
    go_enter Tryz.func69, Tryz.ntmps69
    go_wp2
    go_ret
    exact ⟨by go_num, rfl⟩
  · have d0 : (x == 2) = false := by simpa using c0
    by_cases c1 : 3 ≤ x
    · have d1 : decide (3 ≤ x) = true := decide_eq_true c1
      by_cases b1 : x ≤ 7
      · have g1 : decide (x ≤ 7) = true := decide_eq_true b1
        have HV : Aid.Hid2 (Dia.jmed x = x - 3) := ⟨by unfold Dia.jmed; repeat' split <;> try omega⟩
        rw [HV.out]
        clear HV
        go_enter Tryz.func69, Tryz.ntmps69
        go_wp2
        go_ret
        exact ⟨by go_num, rfl⟩
      · have g1 : decide (x ≤ 7) = false := decide_eq_false b1
        by_cases c2 : 10 ≤ x
        · have d2 : decide (10 ≤ x) = true := decide_eq_true c2
          by_cases b2 : x ≤ 15
          · have g2 : decide (x ≤ 15) = true := decide_eq_true b2
            have HV : Aid.Hid2 (Dia.jmed x = x - 5) := ⟨by unfold Dia.jmed; repeat' split <;> try omega⟩
            rw [HV.out]
            clear HV
            go_enter Tryz.func69, Tryz.ntmps69
            go_wp2
            go_ret
            exact ⟨by go_num, rfl⟩
          · have g2 : decide (x ≤ 15) = false := decide_eq_false b2
            by_cases c3 : 18 ≤ x
            · have d3 : decide (18 ≤ x) = true := decide_eq_true c3
              by_cases b3 : x ≤ 23
              · have g3 : decide (x ≤ 23) = true := decide_eq_true b3
                have HV : Aid.Hid2 (Dia.jmed x = x - 7) := ⟨by unfold Dia.jmed; repeat' split <;> try omega⟩
                rw [HV.out]
                clear HV
                go_enter Tryz.func69, Tryz.ntmps69
                go_wp2
                go_ret
                exact ⟨by go_num, rfl⟩
              · have g3 : decide (x ≤ 23) = false := decide_eq_false b3
                by_cases c4 : 26 ≤ x
                · have d4 : decide (26 ≤ x) = true := decide_eq_true c4
                  by_cases b4 : x ≤ 29
                  · have g4 : decide (x ≤ 29) = true := decide_eq_true b4
                    have HV : Aid.Hid2 (Dia.jmed x = x - 9) := ⟨by unfold Dia.jmed; repeat' split <;> try omega⟩
                    rw [HV.out]
                    clear HV
                    go_enter Tryz.func69, Tryz.ntmps69
                    go_wp2
                    go_ret
                    exact ⟨by go_num, rfl⟩
                  · have g4 : decide (x ≤ 29) = false := decide_eq_false b4
                    have HV : Aid.Hid2 (Dia.jmed x = -2) := ⟨by unfold Dia.jmed; repeat' split <;> try omega⟩
                    rw [HV.out]
                    clear HV
                    go_enter Tryz.func69, Tryz.ntmps69
                    go_wp2
                    go_ret
                    exact ⟨by go_num, rfl⟩
                · have d4 : decide (26 ≤ x) = false := decide_eq_false c4
                  have HV : Aid.Hid2 (Dia.jmed x = -2) := ⟨by unfold Dia.jmed; repeat' split <;> try omega⟩
                  rw [HV.out]
                  clear HV
                  go_enter Tryz.func69, Tryz.ntmps69
                  go_wp2
                  go_ret
                  exact ⟨by go_num, rfl⟩
            · have d3 : decide (18 ≤ x) = false := decide_eq_false c3
              have d4 : decide (26 ≤ x) = false := decide_eq_false (by omega)
              have HV : Aid.Hid2 (Dia.jmed x = -2) := ⟨by unfold Dia.jmed; repeat' split <;> try omega⟩
              rw [HV.out]
              clear HV
              go_enter Tryz.func69, Tryz.ntmps69
              go_wp2
              go_ret
              exact ⟨by go_num, rfl⟩
        · have d2 : decide (10 ≤ x) = false := decide_eq_false c2
          have d3 : decide (18 ≤ x) = false := decide_eq_false (by omega)
          have d4 : decide (26 ≤ x) = false := decide_eq_false (by omega)
          have HV : Aid.Hid2 (Dia.jmed x = -2) := ⟨by unfold Dia.jmed; repeat' split <;> try omega⟩
          rw [HV.out]
          clear HV
          go_enter Tryz.func69, Tryz.ntmps69
          go_wp2
          go_ret
          exact ⟨by go_num, rfl⟩
    · have d1 : decide (3 ≤ x) = false := decide_eq_false c1
      have d2 : decide (10 ≤ x) = false := decide_eq_false (by omega)
      have d3 : decide (18 ≤ x) = false := decide_eq_false (by omega)
      have d4 : decide (26 ≤ x) = false := decide_eq_false (by omega)
      have HV : Aid.Hid2 (Dia.jmed x = -2) := ⟨by unfold Dia.jmed; repeat' split <;> try omega⟩
      rw [HV.out]
      clear HV
      go_enter Tryz.func69, Tryz.ntmps69
      go_wp2
      go_ret
      exact ⟨by go_num, rfl⟩
set_option maxRecDepth 100000 in
set_option maxHeartbeats 1000000 in
theorem Tryz.c_jfin (x : Int) (w : World) (h : 0 ≤ x ∧ x ≤ 31) :
    Calls Tryz.prog 70 #[.int .i64 x] w fun e w' => e = .returned (.int .i64 (Dia.jfin x)) ∧ w = w' := by
  obtain ⟨h0, h1⟩ := h
  by_cases c0 : 1 ≤ x
  · have d0 : decide (1 ≤ x) = true := decide_eq_true c0
    by_cases b0 : x ≤ 17
    · have g0 : decide (x ≤ 17) = true := decide_eq_true b0
      have HV : Aid.Hid2 (Dia.jfin x = x - 1) := ⟨by unfold Dia.jfin; repeat' split <;> try omega⟩
      rw [HV.out]
      clear HV
      go_enter Tryz.func70, Tryz.ntmps70
      go_wp2
      go_ret
      exact ⟨by go_num, rfl⟩
    · have g0 : decide (x ≤ 17) = false := decide_eq_false b0
      by_cases c1 : 19 ≤ x
      · have d1 : decide (19 ≤ x) = true := decide_eq_true c1
        by_cases b1 : x ≤ 29
        · have g1 : decide (x ≤ 29) = true := decide_eq_true b1
          have HV : Aid.Hid2 (Dia.jfin x = x - 2) := ⟨by unfold Dia.jfin; repeat' split <;> try omega⟩
          rw [HV.out]
          clear HV
          go_enter Tryz.func70, Tryz.ntmps70
          go_wp2
          go_ret
          exact ⟨by go_num, rfl⟩
        · have g1 : decide (x ≤ 29) = false := decide_eq_false b1
          have HV : Aid.Hid2 (Dia.jfin x = -2) := ⟨by unfold Dia.jfin; repeat' split <;> try omega⟩
          rw [HV.out]
          clear HV
          go_enter Tryz.func70, Tryz.ntmps70
          go_wp2
          go_ret
          exact ⟨by go_num, rfl⟩
      · have d1 : decide (19 ≤ x) = false := decide_eq_false c1
        have HV : Aid.Hid2 (Dia.jfin x = -2) := ⟨by unfold Dia.jfin; repeat' split <;> try omega⟩
        rw [HV.out]
        clear HV
        go_enter Tryz.func70, Tryz.ntmps70
        go_wp2
        go_ret
        exact ⟨by go_num, rfl⟩
  · have d0 : decide (1 ≤ x) = false := decide_eq_false c0
    have d1 : decide (19 ≤ x) = false := decide_eq_false (by omega)
    have HV : Aid.Hid2 (Dia.jfin x = -2) := ⟨by unfold Dia.jfin; repeat' split <;> try omega⟩
    rw [HV.out]
    clear HV
    go_enter Tryz.func70, Tryz.ntmps70
    go_wp2
    go_ret
    exact ⟨by go_num, rfl⟩
set_option maxRecDepth 100000 in
set_option maxHeartbeats 1000000 in
theorem Tryz.c_jmc (x : Int) (w : World) (h : 0 ≤ x ∧ x ≤ 20) :
    Calls Tryz.prog 74 #[.int .i64 x] w fun e w' => e = .returned (.int .i64 (Dia.jmc x)) ∧ w = w' := by
  obtain ⟨h0, h1⟩ := h
  by_cases c0 : x < 5
  · have d0 : decide (x < 5) = true := decide_eq_true c0
    have HV : Aid.Hid2 (Dia.jmc x = x + 3) := ⟨by unfold Dia.jmc; repeat' split <;> try omega⟩
    rw [HV.out]
    clear HV
    go_enter Tryz.func74, Tryz.ntmps74
    go_wp2
    go_ret
    exact ⟨by go_num, rfl⟩
  · have d0 : decide (x < 5) = false := decide_eq_false c0
    by_cases c1 : x < 11
    · have d1 : decide (x < 11) = true := decide_eq_true c1
      have HV : Aid.Hid2 (Dia.jmc x = x + 5) := ⟨by unfold Dia.jmc; repeat' split <;> try omega⟩
      rw [HV.out]
      clear HV
      go_enter Tryz.func74, Tryz.ntmps74
      go_wp2
      go_ret
      exact ⟨by go_num, rfl⟩
    · have d1 : decide (x < 11) = false := decide_eq_false c1
      by_cases c2 : x < 17
      · have d2 : decide (x < 17) = true := decide_eq_true c2
        have HV : Aid.Hid2 (Dia.jmc x = x + 7) := ⟨by unfold Dia.jmc; repeat' split <;> try omega⟩
        rw [HV.out]
        clear HV
        go_enter Tryz.func74, Tryz.ntmps74
        go_wp2
        go_ret
        exact ⟨by go_num, rfl⟩
      · have d2 : decide (x < 17) = false := decide_eq_false c2
        have HV : Aid.Hid2 (Dia.jmc x = x + 9) := ⟨by unfold Dia.jmc; repeat' split <;> try omega⟩
        rw [HV.out]
        clear HV
        go_enter Tryz.func74, Tryz.ntmps74
        go_wp2
        go_ret
        exact ⟨by go_num, rfl⟩
set_option maxRecDepth 100000 in
set_option maxHeartbeats 1000000 in
theorem Tryz.c_jfc (x : Int) (w : World) (h : 0 ≤ x ∧ x ≤ 27) :
    Calls Tryz.prog 75 #[.int .i64 x] w fun e w' => e = .returned (.int .i64 (Dia.jfc x)) ∧ w = w' := by
  obtain ⟨h0, h1⟩ := h
  by_cases c0 : x < 17
  · have d0 : decide (x < 17) = true := decide_eq_true c0
    have HV : Aid.Hid2 (Dia.jfc x = x + 1) := ⟨by unfold Dia.jfc; repeat' split <;> try omega⟩
    rw [HV.out]
    clear HV
    go_enter Tryz.func75, Tryz.ntmps75
    go_wp2
    go_ret
    exact ⟨by go_num, rfl⟩
  · have d0 : decide (x < 17) = false := decide_eq_false c0
    have HV : Aid.Hid2 (Dia.jfc x = x + 2) := ⟨by unfold Dia.jfc; repeat' split <;> try omega⟩
    rw [HV.out]
    clear HV
    go_enter Tryz.func75, Tryz.ntmps75
    go_wp2
    go_ret
    exact ⟨by go_num, rfl⟩
set_option maxRecDepth 100000 in
set_option maxHeartbeats 1000000 in
theorem Tryz.c_jSyllable (i m f : Int) (w : World) (hi : 0 ≤ i ∧ i ≤ 18) (hm : 0 ≤ m ∧ m ≤ 20) (hf : 0 ≤ f ∧ f ≤ 27) :
    Calls Tryz.prog 71 #[.int .i64 i, .int .i64 m, .int .i64 f] w fun e w' => e = .returned (.tuple #[.int .i32 (44032 + ((i * 21 + m) * 28) + f), .bool true]) ∧ w = w' := by
  obtain ⟨i0, i1⟩ := hi
  obtain ⟨m0, m1⟩ := hm
  obtain ⟨f0, f1⟩ := hf
  have d1 : decide (i < 0) = false := decide_eq_false (by omega)
  have d2 : decide (19 ≤ i) = false := decide_eq_false (by omega)
  have d3 : decide (m < 0) = false := decide_eq_false (by omega)
  have d4 : decide (21 ≤ m) = false := decide_eq_false (by omega)
  have d5 : decide (f < 0) = false := decide_eq_false (by omega)
  have d6 : decide (28 ≤ f) = false := decide_eq_false (by omega)
  have e1 : IntKind.i32.wrap (44032 + ((i * 21 + m) * 28) + f) = 44032 + ((i * 21 + m) * 28) + f := IntWalk.i32_in _ (by omega)
  go_enter Tryz.func71, Tryz.ntmps71
  go_wp2
  go_ret2
  exact ⟨by go_num, rfl⟩
set_option maxRecDepth 100000 in
set_option maxHeartbeats 1000000 in
theorem Tryz.c_jalone (x : Int) (w : World) (h : 0 ≤ x ∧ x ≤ 255) :
    Calls Tryz.prog 72 #[.int .i64 x] w fun e w' => e = .returned (.tuple #[.int .i32 (Dia.jalone x).1, .bool (Dia.jalone x).2]) ∧ w = w' := by
  obtain ⟨h0, h1⟩ := h
  have hw : IntKind.u8.wrap x = x := IntWalk.u8_in _ (by omega)
  have HI : Aid.Hid2 (∀ (s : ByteArray) (w1 : World), s = ⟨Dia.jcons.toArray⟩ → Calls Tryz.prog 100 #[.string s, .int .u8 x] w1 fun e w' => e = .returned (.int .i64 (Lib.indexByte Dia.jcons x.toNat.toUInt8)) ∧ w1 = w') := ⟨fun s w1 hs => by
    subst hs
    exact (Tryz.strings_IndexByte ⟨Dia.jcons.toArray⟩ x w1).mono fun e w' ⟨he, hw⟩ => ⟨he, hw.symm⟩⟩
  have HB : Aid.Hid2 (-1 ≤ Lib.indexByte Dia.jcons x.toNat.toUInt8 ∧ Lib.indexByte Dia.jcons x.toNat.toUInt8 < 30) := ⟨by
    have hall : ∀ n, n < 256 → -1 ≤ Lib.indexByte Dia.jcons n.toUInt8 ∧ Lib.indexByte Dia.jcons n.toUInt8 < 30 := by decide +kernel
    exact hall x.toNat (by omega)⟩
  generalize hj : Dia.jalone x = J
  have HJ : Aid.Hid2 (J = if Lib.indexByte Dia.jcons x.toNat.toUInt8 < 0 then (0, false) else (12593 + Lib.indexByte Dia.jcons x.toNat.toUInt8, true)) := ⟨hj.symm⟩
  clear hj
  generalize Lib.indexByte Dia.jcons x.toNat.toUInt8 = n at *
  obtain ⟨n0, n1⟩ := HB.out
  by_cases hn : n < 0
  · have d : decide (n < 0) = true := decide_eq_true hn
    have HR : Aid.Hid2 (J = (0, false)) := ⟨by rw [HJ.out, if_pos hn]⟩
    clear HJ hn
    go_enter Tryz.func72, Tryz.ntmps72
    go_wp2_with fail
    refine (HI.out _ _ (by kernel_rfl)).mono ?_
    rintro e w1 ⟨rfl, rfl⟩
    go_wp2
    go_ret2
    rw [HR.out]
    exact ⟨rfl, rfl⟩
  · have d : decide (n < 0) = false := decide_eq_false hn
    have HR : Aid.Hid2 (J = (12593 + n, true)) := ⟨by rw [HJ.out, if_neg hn]⟩
    have e1 : IntKind.i32.wrap (12593 + n) = 12593 + n := IntWalk.i32_in _ (by omega)
    clear HJ
    go_enter Tryz.func72, Tryz.ntmps72
    go_wp2_with fail
    refine (HI.out _ _ (by kernel_rfl)).mono ?_
    rintro e w1 ⟨rfl, rfl⟩
    go_wp2
    go_ret2
    rw [HR.out]
    exact ⟨by go_num, rfl⟩
set_option maxRecDepth 100000 in
set_option maxHeartbeats 1000000 in
theorem Tryz.c_jtwo (i m f : Int) (w : World) (hi : 0 ≤ i ∧ i ≤ 31) (hm : 0 ≤ m ∧ m ≤ 31) (hf : 0 ≤ f ∧ f ≤ 31) :
    Calls Tryz.prog 73 #[.int .i64 i, .int .i64 m, .int .i64 f] w fun e w' => e = .returned (.tuple #[.string ⟨(Dia.jtwo i m f).toArray⟩, .bool true]) ∧ Below w.heap.size w w' := by
  obtain ⟨i0, i1⟩ := hi
  obtain ⟨m0, m1⟩ := hm
  obtain ⟨f0, f1⟩ := hf
  obtain ⟨n, hn⟩ := Int.eq_ofNat_of_zero_le (show 0 ≤ 32768 + i * 1024 + m * 32 + f by omega)
  have HB : Aid.Hid2 (∀ w1, Calls Tryz.prog 46 #[.int .u64 n, .int .i64 2] w1 fun e w' => e = .returned (.string ⟨(Dia.jtwo i m f).toArray⟩) ∧ Below w1.heap.size w1 w') := ⟨fun w1 => by
    have h := Tryz.c_Big n 2 w1 (by omega) (by decide)
    unfold Dia.jtwo Dia.jcode
    rw [hn, Int.toNat_natCast]
    exact h⟩
  have o1 : bits .or .i64 32768 (i * 1024) = 32768 + i * 1024 := by
    have h := Dia.jor 15 1 (i * 1024) (by decide) (by decide) (by decide) (by omega) (by omega)
    rw [show (1 : Int) * 2 ^ 15 = 32768 from rfl] at h
    exact h
  have o2 : bits .or .i64 (32768 + i * 1024) (m * 32) = 32768 + i * 1024 + m * 32 := by
    have h := Dia.jor 10 (32 + i) (m * 32) (by decide) (by omega) (by omega) (by omega) (by omega)
    rw [show (32 + i) * 2 ^ 10 = 32768 + i * 1024 by omega] at h
    exact h
  have o3 : bits .or .i64 (32768 + i * 1024 + m * 32) f = n := by
    have h := Dia.jor 5 (1024 + i * 32 + m) f (by decide) (by omega) (by omega) (by omega) (by omega)
    rw [show (1024 + i * 32 + m) * 2 ^ 5 = 32768 + i * 1024 + m * 32 by omega, hn] at h
    exact h
  have hnb : n < 65536 := by omega
  have e1 : IntKind.i64.wrap (i * 1024) = i * 1024 := IntWalk.i64_in _ (by omega)
  have e2 : IntKind.i64.wrap (m * 32) = m * 32 := IntWalk.i64_in _ (by omega)
  generalize Dia.jtwo i m f = R at *
  clear hn
  go_enter Tryz.func73, Tryz.ntmps73
  go_wp2_with fail
  refine (HB.out _).mono ?_
  rintro e w1 ⟨rfl, hb1⟩
  go_wp2
  go_ret2
  exact ⟨rfl, hb1⟩
end Go.Proofs
namespace Go.Proofs
open Go.RowKit

set_option maxRecDepth 100000 in
set_option maxHeartbeats 4000000 in
theorem Tryz.c_jSign (l t : Int) (w : World) (hl : 0 ≤ l ∧ l ≤ 255) (ht : 0 ≤ t ∧ t ≤ 255) :
    Calls Tryz.prog 33 #[.int .u8 l, .int .u8 t] w fun e w' => e = .returned (.tuple #[.int .i32 (Dia.jsign l t).1, .bool (Dia.jsign l t).2]) ∧ w = w' := by
  obtain ⟨l0, l1⟩ := hl
  obtain ⟨t0, t1⟩ := ht
  have o1 : bits .or .i64 (l * 256) t = l * 256 + t := by
    have h := Dia.jor 8 l t (by decide) (by omega) (by omega) (by omega) (by omega)
    rw [show l * 2 ^ 8 = l * 256 from rfl] at h
    exact h
  have e1 : IntKind.i64.wrap (l * 256) = l * 256 := IntWalk.i64_in _ (by omega)
  generalize hJ : Dia.jsign l t = J
  have HJ : Aid.Hid2 (J = if l < 128 then (0, false) else Dia.jsg ((l * 256 + t) / 1024 % 32 - 2) (Dia.jmed ((l * 256 + t) / 32 % 32)) (Dia.jfin ((l * 256 + t) % 32))) := ⟨hJ.symm⟩
  clear hJ
  have c0 : 0 ≤ l * 256 + t := by omega
  have c1 : l * 256 + t ≤ 65535 := by omega
  generalize hC : l * 256 + t = C at *
  clear hC
  have a1 : bits .and .i64 (C / 1024) 31 = C / 1024 % 32 := Dia.jand31 _ (by omega) (by omega)
  have a2 : bits .and .i64 (C / 32) 31 = C / 32 % 32 := Dia.jand31 _ (by omega) (by omega)
  have a3 : bits .and .i64 C 31 = C % 32 := Dia.jand31 _ (by omega) (by omega)
  have HM : Aid.Hid2 (∀ w1, Calls Tryz.prog 69 #[.int .i64 (C / 32 % 32)] w1 fun e w' => e = .returned (.int .i64 (Dia.jmed (C / 32 % 32))) ∧ w1 = w') := ⟨fun w1 => Tryz.c_jmed _ w1 (by omega)⟩
  have HF : Aid.Hid2 (∀ w1, Calls Tryz.prog 70 #[.int .i64 (C % 32)] w1 fun e w' => e = .returned (.int .i64 (Dia.jfin (C % 32))) ∧ w1 = w') := ⟨fun w1 => Tryz.c_jfin _ w1 (by omega)⟩
  have bm := Dia.jmed_bd (C / 32 % 32)
  have bf := Dia.jfin_bd (C % 32)
  have ba : 0 ≤ C / 1024 % 32 ∧ C / 1024 % 32 ≤ 31 := by omega
  generalize Dia.jmed (C / 32 % 32) = m at *
  generalize Dia.jfin (C % 32) = f at *
  generalize hx : C / 1024 % 32 = x at *
  clear hx
  obtain ⟨m0, m1⟩ := bm
  obtain ⟨f0, f1⟩ := bf
  obtain ⟨x0, x1⟩ := ba
  have HS : Aid.Hid2 (∀ w1, 0 ≤ x - 2 ∧ x - 2 ≤ 18 → 0 ≤ m → 0 ≤ f → Calls Tryz.prog 71 #[.int .i64 (x - 2), .int .i64 m, .int .i64 f] w1 fun e w' => e = .returned (.tuple #[.int .i32 (44032 + (((x - 2) * 21 + m) * 28) + f), .bool true]) ∧ w1 = w') := ⟨fun w1 h1 h2 h3 => Tryz.c_jSyllable _ _ _ w1 h1 ⟨h2, m1⟩ ⟨h3, f1⟩⟩
  have HA1 : Aid.Hid2 (∀ w1, 0 ≤ x - 2 ∧ x - 2 ≤ 18 → Calls Tryz.prog 72 #[.int .i64 (97 + (x - 2))] w1 fun e w' => e = .returned (.tuple #[.int .i32 (Dia.jalone (97 + (x - 2))).1, .bool (Dia.jalone (97 + (x - 2))).2]) ∧ w1 = w') := ⟨fun w1 h1 => Tryz.c_jalone _ w1 (by omega)⟩
  have HA2 : Aid.Hid2 (∀ w1, 0 ≤ f → Calls Tryz.prog 72 #[.int .i64 (65 + f)] w1 fun e w' => e = .returned (.tuple #[.int .i32 (Dia.jalone (65 + f)).1, .bool (Dia.jalone (65 + f)).2]) ∧ w1 = w') := ⟨fun w1 h1 => Tryz.c_jalone _ w1 (by omega)⟩
  by_cases hl : l < 128
  · have dl : decide (l < 128) = true := decide_eq_true hl
    have HR : Aid.Hid2 (J = (0, false)) := ⟨by rw [HJ.out, if_pos hl]⟩
    clear HJ hl
    go_enter Tryz.func33, Tryz.ntmps33
    go_wp2_with fail
    refine (HM.out _).mono ?_
    rintro e w1 ⟨rfl, rfl⟩
    go_wp2_with fail
    refine (HF.out _).mono ?_
    rintro e w2 ⟨rfl, rfl⟩
    go_wp2
    go_ret2
    rw [HR.out]
    exact ⟨by first | rfl | go_num, rfl⟩
  · have dl : decide (l < 128) = false := decide_eq_false hl
    replace HJ : Aid.Hid2 (J = Dia.jsg (x - 2) m f) := ⟨by rw [HJ.out, if_neg hl]⟩
    clear hl
    go_enter Tryz.func33, Tryz.ntmps33
    go_wp2_with fail
    refine (HM.out _).mono ?_
    rintro e w1 ⟨rfl, rfl⟩
    go_wp2_with fail
    refine (HF.out _).mono ?_
    rintro e w2 ⟨rfl, rfl⟩
    by_cases hi1 : x - 2 < -1
    · have d_hi1 : decide (x - 2 < -1) = true := decide_eq_true (by omega)
      have HR : Aid.Hid2 (J = (0, false)) := ⟨by
        rw [HJ.out]
        unfold Dia.jsg
        repeat' split
        all_goals first | rfl | (exfalso; omega)⟩
      go_wp2
      go_ret2
      rw [HR.out]
      exact ⟨by first | rfl | go_num, rfl⟩
    · have d_hi1 : decide (x - 2 < -1) = false := decide_eq_false (by omega)
      by_cases hi2 : 18 < x - 2
      · have d_hi2 : decide (18 < x - 2) = true := decide_eq_true (by omega)
        have HR : Aid.Hid2 (J = (0, false)) := ⟨by
          rw [HJ.out]
          unfold Dia.jsg
          repeat' split
          all_goals first | rfl | (exfalso; omega)⟩
        go_wp2
        go_ret2
        rw [HR.out]
        exact ⟨by first | rfl | go_num, rfl⟩
      · have d_hi2 : decide (18 < x - 2) = false := decide_eq_false (by omega)
        by_cases hm1 : m < -1
        · have d_hm1 : decide (m < -1) = true := decide_eq_true (by omega)
          have HR : Aid.Hid2 (J = (0, false)) := ⟨by
            rw [HJ.out]
            unfold Dia.jsg
            repeat' split
            all_goals first | rfl | (exfalso; omega)⟩
          go_wp2
          go_ret2
          rw [HR.out]
          exact ⟨by first | rfl | go_num, rfl⟩
        · have d_hm1 : decide (m < -1) = false := decide_eq_false (by omega)
          by_cases hf1 : f < 0
          · have d_hf1 : decide (f < 0) = true := decide_eq_true (by omega)
            have HR : Aid.Hid2 (J = (0, false)) := ⟨by
              rw [HJ.out]
              unfold Dia.jsg
              repeat' split
              all_goals first | rfl | (exfalso; omega)⟩
            go_wp2
            go_ret2
            rw [HR.out]
            exact ⟨by first | rfl | go_num, rfl⟩
          · have d_hf1 : decide (f < 0) = false := decide_eq_false (by omega)
            by_cases hi0 : 0 ≤ x - 2
            · have d_hi0 : decide (0 ≤ x - 2) = true := decide_eq_true (by omega)
              by_cases hm0 : 0 ≤ m
              · have d_hm0 : decide (0 ≤ m) = true := decide_eq_true (by omega)
                have HR : Aid.Hid2 (J = (44032 + (((x - 2) * 21 + m) * 28) + f, true)) := ⟨by
                  rw [HJ.out]
                  unfold Dia.jsg
                  repeat' split
                  all_goals first | rfl | (exfalso; omega)⟩
                go_wp2_with fail
                refine (HS.out _ (by omega) (by omega) (by omega)).mono ?_
                rintro e w3 ⟨rfl, rfl⟩
                go_wp2
                go_ret2
                rw [HR.out]
                exact ⟨by first | rfl | go_num, rfl⟩
              · have d_hm0 : decide (0 ≤ m) = false := decide_eq_false (by omega)
                by_cases hf0 : f = 0
                · have d_hf0 : (f == 0) = true := by simpa using hf0
                  have HR : Aid.Hid2 (J = Dia.jalone (97 + (x - 2))) := ⟨by
                    rw [HJ.out]
                    unfold Dia.jsg
                    repeat' split
                    all_goals first | rfl | (exfalso; omega)⟩
                  go_wp2_with fail
                  refine (HA1.out _ (by omega)).mono ?_
                  rintro e w3 ⟨rfl, rfl⟩
                  go_wp2
                  go_ret2
                  rw [HR.out]
                  exact ⟨by first | rfl | go_num, rfl⟩
                · have d_hf0 : (f == 0) = false := by simpa using hf0
                  have HR : Aid.Hid2 (J = (0, false)) := ⟨by
                    rw [HJ.out]
                    unfold Dia.jsg
                    repeat' split
                    all_goals first | rfl | (exfalso; omega)⟩
                  go_wp2
                  go_ret2
                  rw [HR.out]
                  exact ⟨by first | rfl | go_num, rfl⟩
            · have d_hi0 : decide (0 ≤ x - 2) = false := decide_eq_false (by omega)
              by_cases hm0 : 0 ≤ m
              · have d_hm0 : decide (0 ≤ m) = true := decide_eq_true (by omega)
                by_cases hf0 : f = 0
                · have d_hf0 : (f == 0) = true := by simpa using hf0
                  have HR : Aid.Hid2 (J = (12623 + m, true)) := ⟨by
                    rw [HJ.out]
                    unfold Dia.jsg
                    repeat' split
                    all_goals first | rfl | (exfalso; omega)⟩
                  go_wp2
                  go_ret2
                  rw [HR.out]
                  exact ⟨by first | rfl | go_num, rfl⟩
                · have d_hf0 : (f == 0) = false := by simpa using hf0
                  have HR : Aid.Hid2 (J = (0, false)) := ⟨by
                    rw [HJ.out]
                    unfold Dia.jsg
                    repeat' split
                    all_goals first | rfl | (exfalso; omega)⟩
                  go_wp2
                  go_ret2
                  rw [HR.out]
                  exact ⟨by first | rfl | go_num, rfl⟩
              · have d_hm0 : decide (0 ≤ m) = false := decide_eq_false (by omega)
                by_cases hf0 : f = 0
                · have d_hf0 : (f == 0) = true := by simpa using hf0
                  have HR : Aid.Hid2 (J = (0, false)) := ⟨by
                    rw [HJ.out]
                    unfold Dia.jsg
                    repeat' split
                    all_goals first | rfl | (exfalso; omega)⟩
                  go_wp2
                  go_ret2
                  rw [HR.out]
                  exact ⟨by first | rfl | go_num, rfl⟩
                · have d_hf0 : (f == 0) = false := by simpa using hf0
                  have HR : Aid.Hid2 (J = Dia.jalone (65 + f)) := ⟨by
                    rw [HJ.out]
                    unfold Dia.jsg
                    repeat' split
                    all_goals first | rfl | (exfalso; omega)⟩
                  go_wp2_with fail
                  refine (HA2.out _ (by omega)).mono ?_
                  rintro e w3 ⟨rfl, rfl⟩
                  go_wp2
                  go_ret2
                  rw [HR.out]
                  exact ⟨by first | rfl | go_num, rfl⟩
end Go.Proofs
namespace Go.Proofs
open Go.RowKit

set_option maxRecDepth 100000 in
set_option maxHeartbeats 2000000 in
theorem Tryz.c_jBytes_syl (s : Nat) (w : World) (hs : s < 11172) :
    Calls Tryz.prog 34 #[.int .i32 (44032 + (s : Int))] w fun e w' => e = .returned (.tuple #[.string ⟨(Dia.jtwo ((s : Int) / 28 / 21 + 2) (Dia.jmc ((s : Int) / 28 % 21)) (Dia.jfc ((s : Int) % 28))).toArray⟩, .bool true]) ∧ Below w.heap.size w w' := by
  have b1 : 0 ≤ (s : Int) / 28 % 21 ∧ (s : Int) / 28 % 21 ≤ 20 := by omega
  have b2 : 0 ≤ (s : Int) % 28 ∧ (s : Int) % 28 ≤ 27 := by omega
  have c1 := Dia.jmc_bd b1
  have c2 := Dia.jfc_bd b2
  have HM : Aid.Hid2 (∀ w1, Calls Tryz.prog 74 #[.int .i64 ((s : Int) / 28 % 21)] w1 fun e w' => e = .returned (.int .i64 (Dia.jmc ((s : Int) / 28 % 21))) ∧ w1 = w') := ⟨fun w1 => Tryz.c_jmc _ w1 b1⟩
  have HF : Aid.Hid2 (∀ w1, Calls Tryz.prog 75 #[.int .i64 ((s : Int) % 28)] w1 fun e w' => e = .returned (.int .i64 (Dia.jfc ((s : Int) % 28))) ∧ w1 = w') := ⟨fun w1 => Tryz.c_jfc _ w1 b2⟩
  generalize Dia.jmc ((s : Int) / 28 % 21) = m at *
  generalize Dia.jfc ((s : Int) % 28) = f at *
  have HT : Aid.Hid2 (∀ w1, Calls Tryz.prog 73 #[.int .i64 ((s : Int) / 28 / 21 + 2), .int .i64 m, .int .i64 f] w1 fun e w' => e = .returned (.tuple #[.string ⟨(Dia.jtwo ((s : Int) / 28 / 21 + 2) m f).toArray⟩, .bool true]) ∧ Below w1.heap.size w1 w') := ⟨fun w1 => Tryz.c_jtwo _ _ _ w1 (by omega) (by omega) (by omega)⟩
  generalize (Dia.jtwo ((s : Int) / 28 / 21 + 2) m f).toArray = R at *
  have e0 : 44032 + (s : Int) - 44032 = s := by omega
  have d0 : decide (44032 ≤ 44032 + (s : Int)) = true := decide_eq_true (by omega)
  have d1 : decide (44032 + (s : Int) < 55204) = true := decide_eq_true (by omega)
  have n0 : 0 ≤ (s : Int) := by omega
  have n1 : (s : Int) ≤ 11172 := by omega
  have n2 : 0 ≤ (s : Int) / 28 := by omega
  clear b1 b2 c1 c2
  go_enter Tryz.func34, Tryz.ntmps34
  go_wp2_with fail
  refine (HM.out _).mono ?_
  rintro e w1 ⟨rfl, rfl⟩
  go_wp2_with fail
  refine (HF.out _).mono ?_
  rintro e w1 ⟨rfl, rfl⟩
  go_wp2_with fail
  refine (HT.out _).mono ?_
  rintro e w1 ⟨rfl, hb1⟩
  go_wp2
  go_ret2
  exact ⟨rfl, hb1⟩
set_option maxRecDepth 100000 in
set_option maxHeartbeats 2000000 in
theorem Tryz.c_jBytes_vow (s : Nat) (w : World) (hs : s ≤ 20) :
    Calls Tryz.prog 34 #[.int .i32 (12623 + (s : Int))] w fun e w' => e = .returned (.tuple #[.string ⟨(Dia.jtwo 1 (Dia.jmc (s : Int)) 1).toArray⟩, .bool true]) ∧ Below w.heap.size w w' := by
  have b1 : 0 ≤ (s : Int) ∧ (s : Int) ≤ 20 := by omega
  have c1 := Dia.jmc_bd b1
  have HM : Aid.Hid2 (∀ w1, Calls Tryz.prog 74 #[.int .i64 (s : Int)] w1 fun e w' => e = .returned (.int .i64 (Dia.jmc (s : Int))) ∧ w1 = w') := ⟨fun w1 => Tryz.c_jmc _ w1 b1⟩
  generalize Dia.jmc (s : Int) = m at *
  have HT : Aid.Hid2 (∀ w1, Calls Tryz.prog 73 #[.int .i64 1, .int .i64 m, .int .i64 1] w1 fun e w' => e = .returned (.tuple #[.string ⟨(Dia.jtwo 1 m 1).toArray⟩, .bool true]) ∧ Below w1.heap.size w1 w') := ⟨fun w1 => Tryz.c_jtwo _ _ _ w1 (by omega) (by omega) (by omega)⟩
  generalize (Dia.jtwo 1 m 1).toArray = R at *
  have e0 : 12623 + (s : Int) - 12623 = s := by omega
  have d0 : decide (44032 ≤ 12623 + (s : Int)) = false := decide_eq_false (by omega)
  have d1 : decide (12623 ≤ 12623 + (s : Int)) = true := decide_eq_true (by omega)
  have d2 : decide (12623 + (s : Int) ≤ 12643) = true := decide_eq_true (by omega)
  have n0 : 0 ≤ (s : Int) := by omega
  have n1 : (s : Int) ≤ 20 := by omega
  clear b1 c1
  go_enter Tryz.func34, Tryz.ntmps34
  go_wp2_with fail
  refine (HM.out _).mono ?_
  rintro e w1 ⟨rfl, rfl⟩
  go_wp2_with fail
  refine (HT.out _).mono ?_
  rintro e w1 ⟨rfl, hb1⟩
  go_wp2
  go_ret2
  exact ⟨rfl, hb1⟩
theorem Dia.jcon_raw (n : Nat) : ((Dia.jcons.getD (n : Int).toNat 0).toNat : Int) = Dia.jcon n := by rw [Int.toNat_natCast]; rfl
set_option maxRecDepth 100000 in
set_option maxHeartbeats 2000000 in
theorem Tryz.c_jBytes_con (s : Nat) (w : World) (hs : s < 30) :
    Calls Tryz.prog 34 #[.int .i32 (12593 + (s : Int))] w fun e w' => e = .returned (.tuple #[.string ⟨(if 97 ≤ Dia.jcon s then Dia.jtwo (Dia.jcon s - 97 + 2) 2 1 else Dia.jtwo 1 2 (Dia.jfc (Dia.jcon s - 65))).toArray⟩, .bool true]) ∧ Below w.heap.size w w' := by
  obtain ⟨_, hv⟩ := Dia.jcon_at s hs
  have hlen : Dia.jcons.length = 30 := rfl
  obtain ⟨v, hvv⟩ := Int.eq_ofNat_of_zero_le (show 0 ≤ Dia.jcon s by unfold Dia.jcon; omega)
  have HX : Aid.Hid2 ((Dia.jcons.getD (s : Int).toNat 0).toNat = v) := ⟨by have := Dia.jcon_raw s; omega⟩
  rw [hvv] at hv ⊢
  have e0 : 12593 + (s : Int) - 12593 = s := by omega
  have d0 : decide (44032 ≤ 12593 + (s : Int)) = false := decide_eq_false (by omega)
  have d1 : decide (12623 ≤ 12593 + (s : Int)) = false := decide_eq_false (by omega)
  have d2 : decide (12593 ≤ 12593 + (s : Int)) = true := decide_eq_true (by omega)
  have d3 : decide (12593 + (s : Int) < 12623) = true := decide_eq_true (by omega)
  have n0 : 0 ≤ (s : Int) := by omega
  have n1 : (s : Int) < 30 := by omega
  clear hvv
  by_cases h : 97 ≤ (v : Int)
  · have d4 : decide (97 ≤ (v : Int)) = true := decide_eq_true h
    rw [if_pos h]
    have HT : Aid.Hid2 (∀ w1, Calls Tryz.prog 73 #[.int .i64 ((v : Int) - 97 + 2), .int .i64 2, .int .i64 1] w1 fun e w' => e = .returned (.tuple #[.string ⟨(Dia.jtwo ((v : Int) - 97 + 2) 2 1).toArray⟩, .bool true]) ∧ Below w1.heap.size w1 w') := ⟨fun w1 => Tryz.c_jtwo _ _ _ w1 (by omega) (by omega) (by omega)⟩
    generalize (Dia.jtwo ((v : Int) - 97 + 2) 2 1).toArray = R at *
    have v1 : (v : Int) ≤ 115 := by omega
    clear hv
    go_enter Tryz.func34, Tryz.ntmps34
    go_wp2_with (first
      | (refine Aid.wpList_index_str _ rfl _ _ _ rfl Tryz.underlying9 _ Dia.jcons rfl (by kernel_rfl) _ _ rfl v HX.out (by omega) (by rw [hlen]; omega) ?_)
      | (go_at_call 73; refine (HT.out _).mono ?_; rintro e w1 ⟨rfl, hb1⟩))
    go_ret2
    exact ⟨rfl, hb1⟩
  · have d4 : decide (97 ≤ (v : Int)) = false := decide_eq_false h
    rw [if_neg h]
    have b2 : 0 ≤ (v : Int) - 65 ∧ (v : Int) - 65 ≤ 27 := by omega
    have c2 := Dia.jfc_bd b2
    have HF : Aid.Hid2 (∀ w1, Calls Tryz.prog 75 #[.int .i64 ((v : Int) - 65)] w1 fun e w' => e = .returned (.int .i64 (Dia.jfc ((v : Int) - 65))) ∧ w1 = w') := ⟨fun w1 => Tryz.c_jfc _ w1 b2⟩
    generalize Dia.jfc ((v : Int) - 65) = f at *
    have HT : Aid.Hid2 (∀ w1, Calls Tryz.prog 73 #[.int .i64 1, .int .i64 2, .int .i64 f] w1 fun e w' => e = .returned (.tuple #[.string ⟨(Dia.jtwo 1 2 f).toArray⟩, .bool true]) ∧ Below w1.heap.size w1 w') := ⟨fun w1 => Tryz.c_jtwo _ _ _ w1 (by omega) (by omega) (by omega)⟩
    generalize (Dia.jtwo 1 2 f).toArray = R at *
    have v1 : (v : Int) ≤ 115 := by omega
    have v0 : 65 ≤ (v : Int) := by omega
    clear hv b2 c2
    go_enter Tryz.func34, Tryz.ntmps34
    go_wp2_with (first
      | (refine Aid.wpList_index_str _ rfl _ _ _ rfl Tryz.underlying9 _ Dia.jcons rfl (by kernel_rfl) _ _ rfl v HX.out (by omega) (by rw [hlen]; omega) ?_)
      | (go_at_call 75; refine (HF.out _).mono ?_; rintro e w1 ⟨rfl, rfl⟩)
      | (go_at_call 73; refine (HT.out _).mono ?_; rintro e w1 ⟨rfl, hb1⟩))
    go_ret2
    exact ⟨rfl, hb1⟩
set_option maxRecDepth 100000 in
set_option maxHeartbeats 2000000 in
theorem Tryz.c_jBytes_no (p : Int) (w : World) (h1 : ¬ (44032 ≤ p ∧ p < 55204)) (h2 : ¬ (12623 ≤ p ∧ p ≤ 12643)) (h3 : ¬ (12593 ≤ p ∧ p < 12623)) :
    Calls Tryz.prog 34 #[.int .i32 p] w fun e w' => e = .returned (.tuple #[.string ⟨#[]⟩, .bool false]) ∧ Below w.heap.size w w' := by
  by_cases a1 : 44032 ≤ p
  · have d1 : decide (44032 ≤ p) = true := decide_eq_true a1
    have d2 : decide (p < 55204) = false := decide_eq_false (by omega)
    have d3 : decide (12623 ≤ p) = true := decide_eq_true (by omega)
    have d4 : decide (p ≤ 12643) = false := decide_eq_false (by omega)
    have d5 : decide (12593 ≤ p) = true := decide_eq_true (by omega)
    have d6 : decide (p < 12623) = false := decide_eq_false (by omega)
    clear h1 h2 h3 a1
    go_enter Tryz.func34, Tryz.ntmps34
    go_wp2
    go_ret2
    exact ⟨rfl, Below.refl _ _⟩
  · have d1 : decide (44032 ≤ p) = false := decide_eq_false a1
    by_cases a2 : 12623 ≤ p
    · have d3 : decide (12623 ≤ p) = true := decide_eq_true (by omega)
      have d4 : decide (p ≤ 12643) = false := decide_eq_false (by omega)
      have d5 : decide (12593 ≤ p) = true := decide_eq_true (by omega)
      have d6 : decide (p < 12623) = false := decide_eq_false (by omega)
      clear h1 h2 h3 a1 a2
      go_enter Tryz.func34, Tryz.ntmps34
      go_wp2
      go_ret2
      exact ⟨rfl, Below.refl _ _⟩
    · have d3 : decide (12623 ≤ p) = false := decide_eq_false (by omega)
      have d5 : decide (12593 ≤ p) = false := decide_eq_false (by omega)
      clear h1 h2 h3 a1 a2
      go_enter Tryz.func34, Tryz.ntmps34
      go_wp2
      go_ret2
      exact ⟨rfl, Below.refl _ _⟩
theorem Tryz.c_jBytes (p : Int) (w : World) :
    Calls Tryz.prog 34 #[.int .i32 p] w fun e w' => e = .returned (.tuple #[.string ⟨(Dia.jbytes p).1.toArray⟩, .bool (Dia.jbytes p).2]) ∧ Below w.heap.size w w' := by
  by_cases h1 : 44032 ≤ p ∧ p < 55204
  · obtain ⟨s, hs⟩ := Int.eq_ofNat_of_zero_le (show 0 ≤ p - 44032 by omega)
    have e : Dia.jbytes p = (Dia.jtwo ((s : Int) / 28 / 21 + 2) (Dia.jmc ((s : Int) / 28 % 21)) (Dia.jfc ((s : Int) % 28)), true) := by unfold Dia.jbytes; rw [if_pos h1, hs]
    rw [e, show p = 44032 + (s : Int) by omega]
    exact Tryz.c_jBytes_syl s w (by omega)
  · by_cases h2 : 12623 ≤ p ∧ p ≤ 12643
    · obtain ⟨s, hs⟩ := Int.eq_ofNat_of_zero_le (show 0 ≤ p - 12623 by omega)
      have e : Dia.jbytes p = (Dia.jtwo 1 (Dia.jmc (s : Int)) 1, true) := by unfold Dia.jbytes; rw [if_neg h1, if_pos h2, hs]
      rw [e, show p = 12623 + (s : Int) by omega]
      exact Tryz.c_jBytes_vow s w (by omega)
    · by_cases h3 : 12593 ≤ p ∧ p < 12623
      · obtain ⟨s, hs⟩ := Int.eq_ofNat_of_zero_le (show 0 ≤ p - 12593 by omega)
        have e : Dia.jbytes p = ((if 97 ≤ Dia.jcon s then Dia.jtwo (Dia.jcon s - 97 + 2) 2 1 else Dia.jtwo 1 2 (Dia.jfc (Dia.jcon s - 65))), true) := by
          unfold Dia.jbytes
          rw [if_neg h1, if_neg h2, if_pos h3, hs, Int.toNat_natCast]
          split <;> rfl
        rw [e, show p = 12593 + (s : Int) by omega]
        exact Tryz.c_jBytes_con s w (by omega)
      · have e : Dia.jbytes p = ([], false) := by unfold Dia.jbytes; rw [if_neg h1, if_neg h2, if_neg h3]
        rw [e]
        exact Tryz.c_jBytes_no p w h1 h2 h3
theorem Dia.aw06_1 : Dia.jsign 136 97 = (44032, true) := by decide +kernel
theorem Dia.aw06_2 : Dia.jbytes 12595 = ([132, 68], true) := by decide +kernel
set_option maxRecDepth 100000 in
theorem Tryz.c_Awake06 (w : World) :
    Calls Tryz.prog 14 #[] w fun e w' => e = .returned (.bool true) ∧ Below w.heap.size w w' := by
  have HS : Aid.Hid2 (∀ w1, Calls Tryz.prog 33 #[.int .u8 136, .int .u8 97] w1 fun e w' => e = .returned (.tuple #[.int .i32 44032, .bool true]) ∧ w1 = w') := ⟨fun w1 => by
    have h := Tryz.c_jSign 136 97 w1 (by decide) (by decide)
    rw [Dia.aw06_1] at h
    exact h⟩
  have HB : Aid.Hid2 (∀ w1, Calls Tryz.prog 34 #[.int .i32 12595] w1 fun e w' => e = .returned (.tuple #[.string ⟨#[132, 68]⟩, .bool true]) ∧ Below w1.heap.size w1 w') := ⟨fun w1 => by
    have h := Tryz.c_jBytes 12595 w1
    rw [Dia.aw06_2] at h
    exact h⟩
  go_enter Tryz.func14, Tryz.ntmps14
  go_wp2_with fail
  refine (HS.out _).mono ?_
  rintro e w1 ⟨rfl, rfl⟩
  go_wp2_with fail
  refine (HB.out _).mono ?_
  rintro e w1 ⟨rfl, hb1⟩
  go_wp2
  go_ret
  exact ⟨rfl, hb1⟩
end Go.Proofs
