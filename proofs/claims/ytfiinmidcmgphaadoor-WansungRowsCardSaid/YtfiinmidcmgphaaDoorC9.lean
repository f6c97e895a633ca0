/- walks of wansung: Sign and Bytes at syllables; the document's example -/
import Derived.Test.YtfiinmidcmgphaaDoorC8
namespace Go.Proofs
open Go.RowKit

theorem Dia.CB_all (b : Bool) : Dia.CB b 11172 = if b then 2350 else 8822 := by
  unfold Dia.CB
  rw [Dia.CI_all]
theorem Dia.CB_bd (s : Nat) (h : s < 11172) : Dia.CB (Dia.inB s) s < if Dia.inB s then 2350 else 8822 := by
  have := Dia.KthIs.lt h rfl rfl
  rw [Dia.CB_all] at this
  exact this
theorem Dia.PlaceIs.at {k : Nat} {b ok : Bool} {p : Int} {N : Nat} (h : Dia.PlaceIs k b p ok) (h1 : N < 11172) (h2 : Dia.inB N = b) (h3 : Dia.CB b N = k) : p = 44032 + (N : Int) ∧ ok = true := by
  have hlt := Dia.KthIs.lt h1 h2 h3
  rw [Dia.CB_all] at hlt
  unfold Dia.PlaceIs at h
  rw [if_pos ⟨by omega, by cases b <;> simp at hlt ⊢ <;> omega⟩] at h
  exact ⟨Dia.KthIs.uniq h.2 (.inl ⟨N, h1, h2, by simpa using h3, rfl⟩), h.1⟩
theorem Dia.wtrail_bd (b : Int) (h : (Dia.wtrail b).2 = true) : 0 ≤ (Dia.wtrail b).1 ∧ (Dia.wtrail b).1 ≤ 177 ∧ (b ≤ 160 → (Dia.wtrail b).1 ≤ 83) := by
  unfold Dia.wtrail at *
  split at h
  · rename_i e; rw [if_pos e]; simp only; omega
  split at h
  · rename_i e0 e; rw [if_neg e0, if_pos e]; simp only; omega
  split at h
  · rename_i e0 e1 e; rw [if_neg e0, if_neg e1, if_pos e]; simp only; omega
  · cases h
set_option maxRecDepth 100000 in
theorem Tryd.c_wSign_no (l b : Int) (w : World) (hl : 0 ≤ l ∧ l ≤ 255) (hb : 0 ≤ b ∧ b ≤ 255) (h : (Dia.wtrail b).2 = false ∨ l < 129 ∨ l = 255) :
    Calls Tryd.prog 15 #[.int .u8 l, .int .u8 b] w fun e w' => e = .returned (.tuple #[.int .i32 0, .bool false]) ∧ Below w.heap.size w w' := by
  have HC := Aid.Hid2.mk (Tryd.c_wtrail b w hb)
  obtain ⟨l0, l1⟩ := hl
  generalize Dia.wtrail b = c at *
  obtain ⟨c, ok⟩ := c
  simp only at h HC
  cases ok with
  | false =>
    clear h
    go_enter Tryd.func15, Tryd.ntmps15
    go_wp2_with fail
    refine HC.out.mono ?_
    rintro e w1 ⟨rfl, rfl⟩
    go_wp2
    go_ret2
    exact ⟨rfl, Below.refl _ _⟩
  | true =>
    by_cases h1 : l < 129
    · have d0 : decide (l < 129) = true := decide_eq_true h1
      clear h
      go_enter Tryd.func15, Tryd.ntmps15
      go_wp2_with fail
      refine HC.out.mono ?_
      rintro e w1 ⟨rfl, rfl⟩
      go_wp2
      go_ret2
      exact ⟨rfl, Below.refl _ _⟩
    · have h2 : l = 255 := by
        rcases h with h | h | h
        · cases h
        · exact absurd h h1
        · exact h
      subst h2
      clear h h1
      go_enter Tryd.func15, Tryd.ntmps15
      go_wp2_with fail
      refine HC.out.mono ?_
      rintro e w1 ⟨rfl, rfl⟩
      go_wp2
      go_ret2
      exact ⟨rfl, Below.refl _ _⟩
set_option maxRecDepth 100000 in
theorem Tryd.c_wSign_a (l b : Int) (w : World) (hl : 129 ≤ l ∧ l ≤ 160) (hb : 0 ≤ b ∧ b ≤ 255) (h : (Dia.wtrail b).2 = true) (hT : Tryd.Tab32 w) :
    Calls Tryd.prog 15 #[.int .u8 l, .int .u8 b] w fun e w' => Dia.IsPlace ((l - 129) * 178 + (Dia.wtrail b).1) false w w' e := by
  have HC := Aid.Hid2.mk (Tryd.c_wtrail b w hb)
  have hbd := Dia.wtrail_bd b h
  obtain ⟨l0, l1⟩ := hl
  have HE := Aid.Hid2.mk (Tryd.c_Extra ((l - 129) * 178 + (Dia.wtrail b).1) w ⟨by omega, by omega⟩ hT)
  generalize Dia.wtrail b = c at *
  obtain ⟨c, ok⟩ := c
  simp only at h HC hbd HE
  subst h
  obtain ⟨c0, c1, _⟩ := hbd
  have e1 : IntKind.u8.wrap (l - 129) = l - 129 := IntWalk.u8_in _ (by omega)
  have e2 : IntKind.i64.wrap ((l - 129) * 178) = (l - 129) * 178 := IntWalk.i64_in _ (by omega)
  have e3 : IntKind.i64.wrap ((l - 129) * 178 + c) = (l - 129) * 178 + c := IntWalk.i64_in _ (by omega)
  have d0 : decide (l < 129) = false := decide_eq_false (by omega)
  have d1 : (l == 255) = false := by simp; omega
  have d2 : decide (l ≤ 160) = true := decide_eq_true l1
  go_enter Tryd.func15, Tryd.ntmps15
  go_wp2_with fail
  refine HC.out.mono ?_
  rintro e w1 ⟨rfl, rfl⟩
  go_wp2_with fail
  refine HE.out.mono ?_
  rintro e w1 ⟨p, ok, hp, rfl, hb1⟩
  have HP := Aid.Hid2.mk hp
  clear hp
  go_wp2
  go_ret2
  exact ⟨p, ok, HP.out, rfl, hb1⟩
set_option maxRecDepth 100000 in
theorem Tryd.c_wSign_b (l b : Int) (w : World) (hl : 161 ≤ l ∧ l ≤ 254) (hb : 0 ≤ b ∧ b ≤ 160) (h : (Dia.wtrail b).2 = true) (hT : Tryd.Tab32 w) :
    Calls Tryd.prog 15 #[.int .u8 l, .int .u8 b] w fun e w' => Dia.IsPlace (5696 + (l - 161) * 84 + (Dia.wtrail b).1) false w w' e := by
  have HC := Aid.Hid2.mk (Tryd.c_wtrail b w ⟨hb.1, by omega⟩)
  have hbd := Dia.wtrail_bd b h
  obtain ⟨l0, l1⟩ := hl
  obtain ⟨b0, b1⟩ := hb
  have HE := Aid.Hid2.mk (Tryd.c_Extra (5696 + (l - 161) * 84 + (Dia.wtrail b).1) w ⟨by omega, by omega⟩ hT)
  generalize Dia.wtrail b = c at *
  obtain ⟨c, ok⟩ := c
  simp only at h HC hbd HE
  subst h
  obtain ⟨c0, c1, _⟩ := hbd
  have e1 : IntKind.u8.wrap (l - 161) = l - 161 := IntWalk.u8_in _ (by omega)
  have e2 : IntKind.i64.wrap ((l - 161) * 84) = (l - 161) * 84 := IntWalk.i64_in _ (by omega)
  have e3 : IntKind.i64.wrap (5696 + (l - 161) * 84) = 5696 + (l - 161) * 84 := IntWalk.i64_in _ (by omega)
  have e4 : IntKind.i64.wrap (5696 + (l - 161) * 84 + c) = 5696 + (l - 161) * 84 + c := IntWalk.i64_in _ (by omega)
  have d0 : decide (l < 129) = false := decide_eq_false (by omega)
  have d1 : (l == 255) = false := by simp; omega
  have d2 : decide (l ≤ 160) = false := decide_eq_false (by omega)
  have d3 : decide (b ≤ 160) = true := decide_eq_true b1
  go_enter Tryd.func15, Tryd.ntmps15
  go_wp2_with fail
  refine HC.out.mono ?_
  rintro e w1 ⟨rfl, rfl⟩
  go_wp2_with fail
  refine HE.out.mono ?_
  rintro e w1 ⟨p, ok, hp, rfl, hb1⟩
  have HP := Aid.Hid2.mk hp
  clear hp
  go_wp2
  go_ret2
  exact ⟨p, ok, HP.out, rfl, hb1⟩
set_option maxRecDepth 100000 in
theorem Tryd.c_wSign_c (l b : Int) (w : World) (hl : 176 ≤ l ∧ l ≤ 200) (hb : 161 ≤ b ∧ b ≤ 254) (hT : Tryd.Tab32 w) :
    Calls Tryd.prog 15 #[.int .u8 l, .int .u8 b] w fun e w' => Dia.IsPlace ((l - 161) * 94 + (b - 161) - 1410) true w w' e := by
  have HC := Aid.Hid2.mk (Tryd.c_wtrail b w ⟨by omega, by omega⟩)
  have h : (Dia.wtrail b).2 = true := by unfold Dia.wtrail; rw [if_neg (by omega), if_neg (by omega), if_pos (by omega)]
  obtain ⟨l0, l1⟩ := hl
  obtain ⟨b0, b1⟩ := hb
  have HE := Aid.Hid2.mk (Tryd.c_Place ((l - 161) * 94 + (b - 161) - 1410) w ⟨by omega, by omega⟩ hT)
  generalize Dia.wtrail b = c at *
  obtain ⟨c, ok⟩ := c
  simp only at h HC
  subst h
  have e1 : IntKind.u8.wrap (l - 161) = l - 161 := IntWalk.u8_in _ (by omega)
  have e5 : IntKind.u8.wrap (b - 161) = b - 161 := IntWalk.u8_in _ (by omega)
  have e2 : IntKind.i64.wrap ((l - 161) * 94) = (l - 161) * 94 := IntWalk.i64_in _ (by omega)
  have e3 : IntKind.i64.wrap ((l - 161) * 94 + (b - 161)) = (l - 161) * 94 + (b - 161) := IntWalk.i64_in _ (by omega)
  have e4 : IntKind.i64.wrap ((l - 161) * 94 + (b - 161) - 1410) = (l - 161) * 94 + (b - 161) - 1410 := IntWalk.i64_in _ (by omega)
  have d0 : decide (l < 129) = false := decide_eq_false (by omega)
  have d1 : (l == 255) = false := by simp; omega
  have d2 : decide (l ≤ 160) = false := decide_eq_false (by omega)
  have d3 : decide (b ≤ 160) = false := decide_eq_false (by omega)
  have d4 : decide (1410 ≤ (l - 161) * 94 + (b - 161)) = true := decide_eq_true (by omega)
  have d5 : decide ((l - 161) * 94 + (b - 161) < 3760) = true := decide_eq_true (by omega)
  go_enter Tryd.func15, Tryd.ntmps15
  go_wp2_with fail
  refine HC.out.mono ?_
  rintro e w1 ⟨rfl, rfl⟩
  go_wp2_with fail
  refine HE.out.mono ?_
  rintro e w1 ⟨p, ok, hp, rfl, hb1⟩
  have HP := Aid.Hid2.mk hp
  clear hp
  go_wp2
  go_ret2
  exact ⟨p, ok, HP.out, rfl, hb1⟩
/-- a syllable's two bytes -/
def Dia.wsyl (s : Nat) : Int × Int :=
  if Dia.inB s then (161 + ((Dia.CB true s : Int) + 1410) / 94, 161 + ((Dia.CB true s : Int) + 1410) % 94)
  else if Dia.CB false s < 5696 then (129 + (Dia.CB false s : Int) / 178, Dia.wletter ((Dia.CB false s : Int) % 178))
  else (161 + ((Dia.CB false s : Int) - 5696) / 84, Dia.wletter (((Dia.CB false s : Int) - 5696) % 84))
theorem Dia.wletter_bd (t : Int) (h : 0 ≤ t ∧ t ≤ 177) : 0 ≤ Dia.wletter t ∧ Dia.wletter t ≤ 255 := by unfold Dia.wletter; split; omega; split <;> omega
set_option maxRecDepth 100000 in
set_option maxHeartbeats 1000000 in
theorem Tryd.c_wBytes_syl (s : Nat) (w : World) (hs : s < 11172) :
    Calls Tryd.prog 17 #[.int .i32 (44032 + (s : Int))] w fun e w' => e = .returned (.tuple #[.string ⟨(Dia.twoB (Dia.wsyl s).1 (Dia.wsyl s).2).toArray⟩, .bool true]) ∧ Below w.heap.size w w' := by
  have HR := Aid.Hid2.mk (Tryd.c_Rank_yes s w hs)
  have hbd := Dia.CB_bd s hs
  generalize hD : Dia.wsyl s = D
  unfold Dia.wsyl at hD
  have HTW : Aid.Hid2 (∀ (a b : Int) (w1 : World), 0 ≤ a ∧ a ≤ 255 → 0 ≤ b ∧ b ≤ 255 → Calls Tryd.prog 31 #[.int .i64 a, .int .i64 b] w1 fun e w' => e = .returned (.tuple #[.string ⟨(Dia.twoB a b).toArray⟩, .bool true]) ∧ Below w1.heap.size w1 w') := ⟨fun a b w1 h1 h2 => Tryd.c_wtwo a b w1 h1 h2⟩
  cases hin : Dia.inB s with
  | true =>
    rw [hin] at HR hbd hD
    simp only [if_true] at hbd hD
    generalize Dia.CB true s = k at *
    have HDD := Aid.Hid2.mk hD
    have HT1 : Aid.Hid2 (∀ w1, _) := ⟨fun w1 => HTW.out (161 + ((k : Int) + 1410) / 94) (161 + ((k : Int) + 1410) % 94) w1 ⟨by omega, by omega⟩ ⟨by omega, by omega⟩⟩
    clear hin hD HTW
    go_enter Tryd.func17, Tryd.ntmps17
    go_wp2_with fail
    refine HR.out.mono ?_
    rintro e w1 ⟨rfl, hb1⟩
    go_wp2_with fail
    refine (HT1.out _).mono ?_
    rintro e w2 ⟨rfl, hb2⟩
    go_wp2
    go_ret2
    rw [← HDD.out]
    exact ⟨rfl, Aid.bt hb1 hb2⟩
  | false =>
    rw [hin] at HR hbd hD
    simp only [Bool.false_eq_true, if_false] at hbd hD
    generalize Dia.CB false s = k at *
    by_cases hk : k < 5696
    · rw [if_pos hk] at hD
      have HDD := Aid.Hid2.mk hD
      have m0 : 0 ≤ (k : Int) % 178 := by omega
      have m1 : (k : Int) % 178 ≤ 177 := by omega
      have hlb := Dia.wletter_bd ((k : Int) % 178) ⟨m0, m1⟩
      have HL := Aid.Hid2.mk (fun w1 => Tryd.c_wletter ((k : Int) % 178) w1 ⟨m0, m1⟩)
      have HT1 : Aid.Hid2 (∀ w1, _) := ⟨fun w1 => HTW.out (129 + (k : Int) / 178) (Dia.wletter ((k : Int) % 178)) w1 ⟨by omega, by omega⟩ hlb⟩
      have d0 : decide ((k : Int) < 5696) = true := decide_eq_true (by omega)
      clear hin hD HTW hlb
      generalize Dia.wletter ((k : Int) % 178) = t at *
      go_enter Tryd.func17, Tryd.ntmps17
      go_wp2_with fail
      refine HR.out.mono ?_
      rintro e w1 ⟨rfl, hb1⟩
      go_wp2_with fail
      refine (HL.out _).mono ?_
      rintro e w2 ⟨rfl, rfl⟩
      go_wp2_with fail
      refine (HT1.out _).mono ?_
      rintro e w2 ⟨rfl, hb2⟩
      go_wp2
      go_ret2
      rw [← HDD.out]
      exact ⟨rfl, Aid.bt hb1 hb2⟩
    · rw [if_neg hk] at hD
      have HDD := Aid.Hid2.mk hD
      have m0 : 0 ≤ ((k : Int) - 5696) % 84 := by omega
      have m1 : ((k : Int) - 5696) % 84 ≤ 177 := by omega
      have hlb := Dia.wletter_bd (((k : Int) - 5696) % 84) ⟨m0, m1⟩
      have HL := Aid.Hid2.mk (fun w1 => Tryd.c_wletter (((k : Int) - 5696) % 84) w1 ⟨m0, m1⟩)
      have HT1 : Aid.Hid2 (∀ w1, _) := ⟨fun w1 => HTW.out (161 + ((k : Int) - 5696) / 84) (Dia.wletter (((k : Int) - 5696) % 84)) w1 ⟨by omega, by omega⟩ hlb⟩
      have d0 : decide ((k : Int) < 5696) = false := decide_eq_false (by omega)
      clear hin hD HTW hlb
      generalize Dia.wletter (((k : Int) - 5696) % 84) = t at *
      go_enter Tryd.func17, Tryd.ntmps17
      go_wp2_with fail
      refine HR.out.mono ?_
      rintro e w1 ⟨rfl, hb1⟩
      go_wp2_with fail
      refine (HL.out _).mono ?_
      rintro e w2 ⟨rfl, rfl⟩
      go_wp2_with fail
      refine (HT1.out _).mono ?_
      rintro e w2 ⟨rfl, hb2⟩
      go_wp2
      go_ret2
      rw [← HDD.out]
      exact ⟨rfl, Aid.bt hb1 hb2⟩
end Go.Proofs
