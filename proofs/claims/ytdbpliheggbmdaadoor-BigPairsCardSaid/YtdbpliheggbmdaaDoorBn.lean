/- the laws of layer 8, walked: BigPairs -/
import Derived.Test.YtdbpliheggbmdaaDoorBk
namespace Go.Proofs
open Go.RowKit

/-- a row's pairs, the last bytes -/
def Dia.rowR (lead : Int) : Nat → List (Int × Int)
  | 0 => []
  | n + 1 => (if Dia.rone lead (254 - n) = 0 then [] else [(lead * 256 + (254 - n), Dia.rone lead (254 - n))]) ++ Dia.rowR lead n
/-- all pairs of the last rows -/
def Dia.allR : Nat → List (Int × Int)
  | 0 => []
  | n + 1 => Dia.rowR (254 - n) 191 ++ Dia.allR n
set_option maxRecDepth 1000000 in
theorem Dia.bigC_all : Dia.bigL.map Dia.bcd = Dia.allR 126 := by decide +kernel
theorem Dia.bigC_len : (Dia.bigL.map Dia.bcd).length = 610 := by decide +kernel
theorem Dia.bigC_nodup : ((Dia.bigL.map Dia.bcd).map Prod.snd).Nodup := by
  have h : (Dia.bigL.map Dia.bcd).map Prod.snd = Dia.bigL.map Prod.snd := by rw [List.map_map]; rfl
  rw [h]; exact Dia.bigL_nodup
theorem Dia.allR_step (x : Int) (_h0 : 129 ≤ x) (h1 : x < 255) : Dia.allR (255 - x).toNat = Dia.rowR x (255 - 64 : Int).toNat ++ Dia.allR (254 - x).toNat := by
  obtain ⟨n, hn⟩ := Int.eq_ofNat_of_zero_le (show 0 ≤ 254 - x by omega)
  have e1 : (255 - x).toNat = n + 1 := by omega
  have e2 : (254 - x).toNat = n := by omega
  have e3 : x = 254 - (n : Int) := by omega
  rw [e1, e2, e3]
  rfl
theorem Dia.rowR_step (x y : Int) (_h0 : 64 ≤ y) (h1 : y < 255) : Dia.rowR x (255 - y).toNat = (if Dia.rone x y = 0 then [] else [(x * 256 + y, Dia.rone x y)]) ++ Dia.rowR x (254 - y).toNat := by
  obtain ⟨n, hn⟩ := Int.eq_ofNat_of_zero_le (show 0 ≤ 254 - y by omega)
  have e1 : (255 - y).toNat = n + 1 := by omega
  have e2 : (254 - y).toNat = n := by omega
  have e3 : y = 254 - (n : Int) := by omega
  rw [e1, e2, e3]
  rfl
theorem Dia.nodup_ne {L : List (Int × Int)} (h : (L.map Prod.snd).Nodup) {j k : Nat} (hj : j < k) (hk : k < L.length) : L[j].2 ≠ L[k].2 := by
  intro e
  have := (List.getElem_inj (h₀ := by simp; omega) (h₁ := by simp; omega) h (i := j) (j := k)).1 (by simpa using e)
  omega
set_option maxRecDepth 100000 in
set_option maxHeartbeats 4000000 in
theorem Tryd.w_BigPairs (w : World) (hT : Tryd.Tabs w) :
    Calls Tryd.prog 6 #[] w fun e w' => e = .returned (.bool true) ∧ Below w.heap.size w w' := by
  have HPS := Aid.Hid2.mk (Tryd.c_bPairs w hT)
  have HALL := Aid.Hid2.mk Dia.bigC_all
  have HLEN := Aid.Hid2.mk Dia.bigC_len
  have HND := Aid.Hid2.mk Dia.bigC_nodup
  have hpos : 0 < (Dia.bigL.map Dia.bcd).length := by rw [Dia.bigC_len]; decide
  have hmax : (Dia.bigL.map Dia.bcd).length ≤ 1000 := by rw [Dia.bigC_len]; decide
  generalize Dia.bigL.map Dia.bcd = L at *
  go_enter Tryd.func6, Tryd.ntmps6
  go_wp2_with fail
  refine HPS.out.mono ?_
  rintro e w1 ⟨va, vc, rfl, hown, hb1⟩
  rcases hown.2 with ⟨hv, _⟩ | ⟨g, cap, cur, hv, _, _, hnc, _⟩
  · exfalso
    simp only [Value.slice.injEq] at hv
    omega
  simp only [Value.slice.injEq] at hv
  obtain ⟨rfl, _, rfl⟩ := hv
  have hcells := hown.cells (g := g) rfl
  have HC : Aid.Hid2 (∀ (j : Nat) (h : j < L.length) (w2 : World), Below w1.heap.size w1 w2 → w2.cell? ⟨g, j * 2, none⟩ = some (.int .i64 L[j].1) ∧ w2.cell? ⟨g, j * 2 + 1, none⟩ = some (.int .i32 L[j].2)) := ⟨fun j h w2 hb => by
    have hp : ∀ i, (⟨g, 0, none⟩ : Addr).add i = ⟨g, 0 + i, none⟩ := by intro i; unfold Addr.add; split <;> simp_all
    have c0 := hcells (j * 2 + 0) _ (Aid.flat_get Dia.pcells 2 Dia.pcells_len L j 0 L[j] _ (by simp [h]) rfl)
    have c1 := hcells (j * 2 + 1) _ (Aid.flat_get Dia.pcells 2 Dia.pcells_len L j 1 L[j] _ (by simp [h]) rfl)
    rw [hp, Nat.zero_add] at c0 c1
    exact ⟨Aid.cell_ext hb c0, Aid.cell_ext hb c1⟩⟩
  clear hown hcells
  go_wp2_with fail
  go_loopw [2, 3, 4, 5, 7] (fun vk vx _ _ _ wr => ∃ (k : Nat) (x : Int), k ≤ L.length ∧ 129 ≤ x ∧ x ≤ 255 ∧ vk = .int .i64 k ∧ vx = .int .i64 x ∧ Aid.Hid2 (L.drop k = Dia.allR (255 - x).toNat) ∧ Below w1.heap.size w1 wr)
    (fun _ vx _ _ _ _ => (255 - intOf vx).toNat)
  case atStart => exact ⟨0, 129, Nat.zero_le _, by omega, by omega, rfl, rfl, ⟨HALL.out⟩, Below.refl _ _⟩
  case round =>
    obtain ⟨k, x, hk, hx0, hx1, rfl, rfl, HD, hb⟩ := hrel
    by_cases hlt : x < 255
    · have HD2 : Aid.Hid2 (L.drop k = Dia.rowR x (255 - 64 : Int).toNat ++ Dia.allR (254 - x).toNat) := ⟨by rw [HD.out, Dia.allR_step x hx0 hlt]⟩
      clear HD
      go_wp2_with fail
      go_loopw [2, 4, 5, 7] (fun vk vy _ _ wr2 => ∃ (k : Nat) (y : Int), k ≤ L.length ∧ 64 ≤ y ∧ y ≤ 255 ∧ vk = .int .i64 k ∧ vy = .int .i64 y ∧ Aid.Hid2 (L.drop k = Dia.rowR x (255 - y).toNat ++ Dia.allR (254 - x).toNat) ∧ Below w1.heap.size w1 wr2)
        (fun _ vy _ _ _ => (255 - intOf vy).toNat)
      case atStart => exact ⟨k, 64, hk, by omega, by omega, rfl, rfl, HD2, hb⟩
      case round =>
        clear HD2 hk
        obtain ⟨k, y, hk, hy0, hy1, rfl, rfl, HD, hb2⟩ := hrel
        by_cases hylt : y < 255
        · have HO : Aid.Hid2 (Calls Tryd.prog 14 #[.int .i64 x, .int .i64 y] wr fun e w' => e = .returned (.int .i32 (Dia.rone x y)) ∧ Below wr.heap.size wr w') := ⟨Tryd.c_rone x y wr ⟨by omega, by omega⟩⟩
          have HS : Aid.Hid2 (L.drop k = (if Dia.rone x y = 0 then [] else [(x * 256 + y, Dia.rone x y)]) ++ Dia.rowR x (255 - (y + 1)).toNat ++ Dia.allR (254 - x).toNat) := ⟨by
            rw [HD.out, Dia.rowR_step x y hy0 hylt, show 255 - (y + 1) = 254 - y from by omega]⟩
          clear HD
          generalize Dia.rone x y = p at *
          by_cases hp : p = 0
          · subst hp
            have HD : Aid.Hid2 (L.drop k = Dia.rowR x (255 - (y + 1)).toNat ++ Dia.allR (254 - x).toNat) := ⟨by rw [HS.out, if_pos rfl, List.nil_append]⟩
            clear HS
            go_wp2_with fail
            refine HO.out.mono ?_
            rintro e w3 ⟨rfl, hb3⟩
            go_wp2
            go_roundw
            case rel => exact ⟨k, y + 1, hk, by omega, by omega, rfl, rfl, HD, Aid.bt hb2 hb3⟩
            case measure => simp [intOf]; omega
          · have hp' : (p == 0) = false := by simpa using hp
            have hS := HS.out
            rw [if_neg hp, List.singleton_append, List.cons_append] at hS
            have hklt : k < L.length := by
              by_cases h : k < L.length
              · exact h
              · rw [List.drop_eq_nil_of_le (by omega)] at hS
                cases hS
            rw [List.drop_eq_getElem_cons hklt] at hS
            injection hS with hS1 hS2
            have HD := Aid.Hid2.mk hS2
            have HN : Aid.Hid2 (∀ (j : Nat) (h : j < L.length), j < k → (L[j].2 == p) = false) := ⟨fun j h hj => by
              have := Dia.nodup_ne HND.out hj hklt
              rw [hS1] at this
              simpa using this⟩
            have HCK : Aid.Hid2 (∀ w2 : World, Below w1.heap.size w1 w2 → w2.cell? ⟨g, k * 2, none⟩ = some (.int .i64 (x * 256 + y)) ∧ w2.cell? ⟨g, k * 2 + 1, none⟩ = some (.int .i32 p)) := ⟨fun w2 hb => by
              have := HC.out k hklt w2 hb
              rw [hS1] at this
              exact this⟩
            clear hS1 hS2 HS hp
            go_wp2_with fail
            refine HO.out.mono ?_
            rintro e w3 ⟨rfl, hb3⟩
            have hB3 := Aid.bt hb2 hb3
            obtain ⟨c0, c1⟩ := HCK.out _ hB3
            have dk : decide (L.length ≤ k) = false := decide_eq_false (by omega)
            go_wp2_with fail
            go_loopw [7, 51] (fun _ vj wr => ∃ j : Nat, j ≤ k ∧ vj = .int .i64 j ∧ Below w1.heap.size w1 wr)
              (fun _ vj _ => k - (intOf vj).toNat)
            case atStart => exact ⟨0, Nat.zero_le _, rfl, hB3⟩
            case round =>
              obtain ⟨j, hj, rfl, hb4⟩ := hrel
              by_cases hjk : j < k
              · obtain ⟨e0, e1⟩ := HC.out j (by omega) _ hb4
                have hne := HN.out j (by omega) hjk
                have hjl : j < L.length := by omega
                generalize L[j] = q at *
                obtain ⟨q1, q2⟩ := q
                simp only at e0 e1 hne
                go_wp2
                go_roundw
                case rel => exact ⟨j + 1, by omega, by go_num, Below.alloc hb4 hb4.size _⟩
                case measure => simp [intOf]; omega
              · obtain rfl : j = k := by omega
                go_wp2
                go_roundw
                case rel => exact ⟨j + 1, y + 1, by omega, by omega, by omega, by go_num, rfl, HD, hb4⟩
                case measure => simp [intOf]; omega
        · obtain rfl : y = 255 := by omega
          have HD3 : Aid.Hid2 (L.drop k = Dia.allR (255 - (x + 1)).toNat) := ⟨by rw [HD.out, show 255 - (x + 1) = 254 - x from by omega]; rfl⟩
          clear HD
          go_wp2
          go_roundw
          case rel => exact ⟨k, x + 1, hk, by omega, by omega, rfl, rfl, HD3, hb2⟩
          case measure => simp [intOf]; omega
    · obtain rfl : x = 255 := by omega
      have hkl : k = L.length := by
        have h := HD.out
        have h2 := congrArg List.length h
        rw [List.length_drop] at h2
        have h3 : (Dia.allR (255 - 255 : Int).toNat).length = 0 := rfl
        omega
      subst hkl
      clear HD hlt
      have d1 : (((L.length : Nat) : Int) == 610) = true := by rw [HLEN.out]; rfl
      go_wp2_with fail
      refine (Tryd.c_awake08 _ (hT.below (Aid.bt hb1 hb))).mono ?_
      rintro e w3 ⟨rfl, hb3⟩
      go_wp2
      go_ret
      exact ⟨rfl, Aid.bt (Aid.bt hb1 hb) hb3⟩
end Go.Proofs
