/- the laws of layer 7, walked: WansungRows -/
import Derived.Test.YtfiinmidcmgphaaDoorCj
import Derived.Test.YtfiinmidcmgphaaDoorCi
namespace Go.Proofs
open Go.RowKit

namespace Dia
theorem zRow_cons (k p : Int) (l : List Int) : zRow k (p :: l) = if p = 0 then zRow (k + 1) l else (k, p) :: zRow (k + 1) l := rfl
theorem wcd_at (i j : Nat) (p : Int) (hj : j < 94) : wcd ((i : Int) * 94 + (j : Int), p) = ((161 + (i : Int)) * 256 + (161 + (j : Int)), p) := by
  have e1 : ((i : Int) * 94 + (j : Int)) / 94 = i := by omega
  have e2 : ((i : Int) * 94 + (j : Int)) % 94 = j := by omega
  unfold wcd
  simp only
  rw [e1, e2, show (161 + (i : Int)) * 256 + 161 + (j : Int) = (161 + (i : Int)) * 256 + (161 + (j : Int)) by omega]
theorem wanC_len : (wanL.map wcd).length = 724 := by rw [List.length_map]; exact wan_len
theorem wanC_nodup : ((wanL.map wcd).map Prod.snd).Nodup := by
  have h : (wanL.map wcd).map Prod.snd = wanL.map Prod.snd := by rw [List.map_map]; rfl
  rw [h]; exact wanL_nodup
theorem wnodup_ne {L : List (Int × Int)} (h : (L.map Prod.snd).Nodup) {j k : Nat} (hj : j < k) (hk : k < L.length) : L[j].2 ≠ L[k].2 := by
  intro e
  have := (List.getElem_inj (h₀ := by simp; omega) (h₁ := by simp; omega) h (i := j) (j := k)).1 (by simpa using e)
  omega
/-- the pairs of the rows from one on -/
def cAll (i : Nat) (rs : List (List Int)) : List (Int × Int) := (zAll i rs).map wcd
def cIn (i j : Nat) (l : List Int) (rs : List (List Int)) : List (Int × Int) := (zRow ((i : Int) * 94 + (j : Int)) l).map wcd ++ cAll (i + 1) rs
theorem cAll_cons (i : Nat) (r : List Int) (rs : List (List Int)) : cAll i (r :: rs) = cIn i 0 r rs := by
  have e : (i : Int) * 94 + ((0 : Nat) : Int) = (i : Int) * 94 := by omega
  have e2 : (i : Int) + 1 = ((i + 1 : Nat) : Int) := by omega
  unfold cAll cIn zAll
  rw [e, List.map_append, e2]
  rfl
theorem cIn_cons (i j : Nat) (p : Int) (l : List Int) (rs : List (List Int)) (hj : j < 94) : cIn i j (p :: l) rs = if p = 0 then cIn i (j + 1) l rs else ((161 + (i : Int)) * 256 + (161 + (j : Int)), p) :: cIn i (j + 1) l rs := by
  have e : (i : Int) * 94 + (j : Int) + 1 = (i : Int) * 94 + ((j + 1 : Nat) : Int) := by omega
  unfold cIn
  rw [zRow_cons, e]
  by_cases h : p = 0
  · rw [if_pos h, if_pos h]
  · rw [if_neg h, if_neg h, List.map_cons, wcd_at i j p hj, List.cons_append]
end Dia
set_option maxRecDepth 100000 in
set_option maxHeartbeats 4000000 in
theorem Tryd.w_WansungRows (w : World) (hT : Tryd.Tabs w ∧ Tryd.Tab32 w) :
    Calls Tryd.prog 7 #[] w fun e w' => e = .returned (.bool true) ∧ Below w.heap.size w w' := by
  have HPS := Aid.Hid2.mk (Tryd.c_wRows w hT.1)
  have HAW : Aid.Hid2 (∀ w1, Below w.heap.size w w1 → _) := ⟨fun w1 hb => Tryd.c_awake07 w1 (hT.2.below hb)⟩
  have HALL : Aid.Hid2 (Dia.wanL.map Dia.wcd = Dia.cAll 0 Dia.wanW) := ⟨rfl⟩
  have HLEN := Aid.Hid2.mk Dia.wanC_len
  have HND := Aid.Hid2.mk Dia.wanC_nodup
  have HWL := Aid.Hid2.mk Dia.wanW_len
  have HG := Aid.Hid2.mk Dia.wW_get
  have HR : Aid.Hid2 (∀ (m j : Nat) (w1 : World), m ≤ 94 → j < 94 → Calls Tryd.prog 20 #[.int .i64 (161 + (m : Int)), .int .i64 (161 + (j : Int))] w1 fun e w' => e = .returned (.int .i32 (Dia.wAt m j)) ∧ Below w1.heap.size w1 w') := ⟨fun m j w1 h1 h2 => Tryd.c_Row m j w1 h1 h2⟩
  have hpos : 0 < (Dia.wanL.map Dia.wcd).length := by rw [Dia.wanC_len]; decide
  have hmax : (Dia.wanL.map Dia.wcd).length ≤ 1000 := by rw [Dia.wanC_len]; decide
  generalize Dia.wanL.map Dia.wcd = L at *
  generalize Dia.wanW = W at *
  clear hT
  go_enter Tryd.func7, Tryd.ntmps7
  go_wp2_with fail
  refine HPS.out.mono ?_
  rintro e w1 ⟨va, vc, rfl, hown, hb1⟩
  rcases hown.2 with ⟨hv, _⟩ | ⟨g, cap, cur, hv, _, _, hnc, _⟩
  · exfalso
    simp only [Value.slice.injEq] at hv
    omega
  simp only [Value.slice.injEq] at hv
  obtain ⟨rfl, _, rfl⟩ := hv
  have hcells := hown.cells (g := g) rfl
  have HC : Aid.Hid2 (∀ (j : Nat) (h : j < L.length) (w2 : World), Below w1.heap.size w1 w2 → w2.cell? ⟨g, j * 2, none⟩ = some (.int .i64 L[j].1) ∧ w2.cell? ⟨g, j * 2 + 1, none⟩ = some (.int .i32 L[j].2)) := ⟨fun j h w2 hb => by
    have hp : ∀ i, (⟨g, 0, none⟩ : Addr).add i = ⟨g, 0 + i, none⟩ := by intro i; unfold Addr.add; split <;> simp_all
    have c0 := hcells (j * 2 + 0) _ (Aid.flat_get Dia.pcells 2 Dia.pcells_len L j 0 L[j] _ (by simp [h]) rfl)
    have c1 := hcells (j * 2 + 1) _ (Aid.flat_get Dia.pcells 2 Dia.pcells_len L j 1 L[j] _ (by simp [h]) rfl)
    rw [hp, Nat.zero_add] at c0 c1
    exact ⟨Aid.cell_ext hb c0, Aid.cell_ext hb c1⟩⟩
  clear hown hcells
  go_wp2_with fail
  go_loopw [2, 3, 4, 5, 7] (fun vk vx _ _ _ wr => ∃ (k i : Nat), k ≤ L.length ∧ i ≤ 12 ∧ vk = .int .i64 k ∧ vx = .int .i64 (161 + (i : Int)) ∧ Aid.Hid2 (L.drop k = Dia.cAll i (W.drop i)) ∧ Below w1.heap.size w1 wr)
    (fun _ vx _ _ _ _ => (173 - intOf vx).toNat)
  case atStart => exact ⟨0, 0, Nat.zero_le _, by omega, rfl, rfl, ⟨HALL.out⟩, Below.refl _ _⟩
  case round =>
    obtain ⟨k, i, hk, hi, rfl, rfl, HD, hb⟩ := hrel
    by_cases hlt : i < 12
    · obtain ⟨r, g1, g2, g3⟩ := HG.out i hlt
      have HD2 : Aid.Hid2 (L.drop k = Dia.cIn i 0 (r.drop 0) (W.drop (i + 1))) := ⟨by
        obtain ⟨hm1, hm2⟩ := List.getElem?_eq_some_iff.1 g1
        rw [HD.out, List.drop_eq_getElem_cons hm1, hm2, Dia.cAll_cons]
        rfl⟩
      have H3 := Aid.Hid2.mk (And.intro g2 g3)
      have dI : decide (161 + (i : Int) ≤ 172) = true := decide_eq_true (by omega)
      clear g1 g2 g3 HD
      go_wp2_with fail
      go_loopw [2, 4, 5, 7] (fun vk vy _ _ wr2 => ∃ (k j : Nat), k ≤ L.length ∧ j ≤ 94 ∧ vk = .int .i64 k ∧ vy = .int .i64 (161 + (j : Int)) ∧ Aid.Hid2 (L.drop k = Dia.cIn i j (r.drop j) (W.drop (i + 1))) ∧ Below w1.heap.size w1 wr2)
        (fun _ vy _ _ _ => (255 - intOf vy).toNat)
      case atStart => exact ⟨k, 0, hk, by omega, rfl, rfl, HD2, hb⟩
      case round =>
        clear HD2 hk
        obtain ⟨k, j, hk, hj, rfl, rfl, HD, hb2⟩ := hrel
        by_cases hjlt : j < 94
        · have HO := Aid.Hid2.mk (HR.out i j wr (by omega) hjlt)
          have HS : Aid.Hid2 (L.drop k = if Dia.wAt i j = 0 then Dia.cIn i (j + 1) (r.drop (j + 1)) (W.drop (i + 1)) else ((161 + (i : Int)) * 256 + (161 + (j : Int)), Dia.wAt i j) :: Dia.cIn i (j + 1) (r.drop (j + 1)) (W.drop (i + 1))) := ⟨by
            obtain ⟨hm1, hm2⟩ := List.getElem?_eq_some_iff.1 (H3.out.2 j hjlt)
            rw [HD.out, List.drop_eq_getElem_cons hm1, hm2, Dia.cIn_cons _ _ _ _ _ hjlt]⟩
          have dJ : decide (161 + (j : Int) ≤ 254) = true := decide_eq_true (by omega)
          clear HD
          generalize Dia.wAt i j = p at *
          by_cases hp : p = 0
          · subst hp
            have HD : Aid.Hid2 (L.drop k = Dia.cIn i (j + 1) (r.drop (j + 1)) (W.drop (i + 1))) := ⟨by rw [HS.out, if_pos rfl]⟩
            clear HS
            go_wp2_with fail
            refine HO.out.mono ?_
            rintro e w3 ⟨rfl, hb3⟩
            go_wp2
            go_roundw
            case rel => exact ⟨k, j + 1, hk, by omega, rfl, by go_num, HD, Aid.bt hb2 hb3⟩
            case measure => simp [intOf]; omega
          · have hp' : (p == 0) = false := by simpa using hp
            have hS := HS.out
            rw [if_neg hp] at hS
            have hklt : k < L.length := by
              by_cases h : k < L.length
              · exact h
              · rw [List.drop_eq_nil_of_le (by omega)] at hS
                cases hS
            rw [List.drop_eq_getElem_cons hklt] at hS
            injection hS with hS1 hS2
            have HD := Aid.Hid2.mk hS2
            have HN : Aid.Hid2 (∀ (j : Nat) (h : j < L.length), j < k → (L[j].2 == p) = false) := ⟨fun j h hj => by
              have := Dia.wnodup_ne HND.out hj hklt
              rw [hS1] at this
              simpa using this⟩
            have HCK : Aid.Hid2 (∀ w2 : World, Below w1.heap.size w1 w2 → w2.cell? ⟨g, k * 2, none⟩ = some (.int .i64 ((161 + (i : Int)) * 256 + (161 + (j : Int)))) ∧ w2.cell? ⟨g, k * 2 + 1, none⟩ = some (.int .i32 p)) := ⟨fun w2 hb => by
              have := HC.out k hklt w2 hb
              rw [hS1] at this
              exact this⟩
            clear hS1 hS2 HS hp
            go_wp2_with fail
            refine HO.out.mono ?_
            rintro e w3 ⟨rfl, hb3⟩
            have hB3 := Aid.bt hb2 hb3
            obtain ⟨c0, c1⟩ := HCK.out _ hB3
            have dk : decide (L.length ≤ k) = false := decide_eq_false (by omega)
            go_wp2_with fail
            go_loopw [7, 51] (fun _ vj wr => ∃ j : Nat, j ≤ k ∧ vj = .int .i64 j ∧ Below w1.heap.size w1 wr)
              (fun _ vj _ => k - (intOf vj).toNat)
            case atStart => exact ⟨0, Nat.zero_le _, rfl, hB3⟩
            case round =>
              obtain ⟨m, hm, rfl, hb4⟩ := hrel
              by_cases hmk : m < k
              · obtain ⟨e0, e1⟩ := HC.out m (by omega) _ hb4
                have hne := HN.out m (by omega) hmk
                have hml : m < L.length := by omega
                generalize L[m] = q at *
                obtain ⟨q1, q2⟩ := q
                simp only at e0 e1 hne
                go_wp2
                go_roundw
                case rel => exact ⟨m + 1, by omega, by go_num, Below.alloc hb4 hb4.size _⟩
                case measure => simp [intOf]; omega
              · obtain rfl : m = k := by omega
                go_wp2
                go_roundw
                case rel => exact ⟨m + 1, j + 1, by omega, by omega, by go_num, by go_num, HD, hb4⟩
                case measure => simp [intOf]; omega
        · obtain rfl : j = 94 := by omega
          have HD3 : Aid.Hid2 (L.drop k = Dia.cAll (i + 1) (W.drop (i + 1))) := ⟨by
            rw [HD.out, List.drop_eq_nil_of_le (by rw [H3.out.1]; exact Nat.le_refl _)]
            rfl⟩
          clear HD
          go_wp2
          go_roundw
          case rel => exact ⟨k, i + 1, hk, by omega, rfl, by go_num, HD3, hb2⟩
          case measure => simp [intOf]; omega
    · obtain rfl : i = 12 := by omega
      have hkl : k = L.length := by
        have h := HD.out
        have hnil : W.drop 12 = [] := List.drop_eq_nil_of_le (by rw [HWL.out.1]; exact Nat.le_refl _)
        rw [hnil] at h
        have h2 := congrArg List.length h
        rw [List.length_drop] at h2
        have h3 : (Dia.cAll 12 []).length = 0 := rfl
        omega
      subst hkl
      clear HD hlt
      have d1 : (((L.length : Nat) : Int) == 724) = true := by rw [HLEN.out]; rfl
      go_wp2_with fail
      refine (HAW.out _ (Aid.bt hb1 hb)).mono ?_
      rintro e w3 ⟨rfl, hb3⟩
      go_wp2
      go_ret
      exact ⟨rfl, Aid.bt (Aid.bt hb1 hb) hb3⟩
end Go.Proofs
