/- the laws of layer 2, walked: PointPlain, PointTexts, PointCuts -/
import Derived.Test.YtpiegilccciinaaDoorL02
namespace Go.Proofs
open Go.RowKit
theorem Dia.plain_encs : ∀ (l : List UInt8), Dia.plain l = true → (∀ p ∈ l.map (fun b => (b.toNat : Int)), Dia.sc p = true) ∧ Dia.encs (l.map fun b => (b.toNat : Int)) = l
  | [], _ => ⟨by simp, rfl⟩
  | b :: l, h => by
    have h2 : b.toNat < 128 ∧ Dia.plain l = true := by
      unfold Dia.plain at h ⊢
      simpa using h
    obtain ⟨h3, h4⟩ := Dia.plain_encs l h2.2
    refine ⟨?_, ?_⟩
    · intro p hp
      rw [List.map_cons] at hp
      rcases List.mem_cons.1 hp with rfl | hp
      · rw [Dia.sc_iff]; omega
      · exact h3 p hp
    · rw [List.map_cons, Dia.encs_cons, h4, Dia.enc_one (by omega) (by omega), Dia.u8_eq (b := b) (by omega)]
      rfl
theorem Dia.plain_pts {l : List UInt8} (h : Dia.plain l = true) : Dia.ok l = true ∧ (Dia.pts l).1.length = l.length := by
  obtain ⟨h1, h2⟩ := Dia.plain_encs l h
  have h3 := Dia.pts_ok _ h1
  rw [h2] at h3
  exact ⟨by unfold Dia.ok; rw [h3]; rfl, by rw [h3, List.length_map]⟩
set_option maxRecDepth 100000 in
set_option maxHeartbeats 1000000 in
theorem Tryd.w_PointPlain (s : ByteArray) (w : World) (hT : Tryd.Tabs w) (_wx : s.size ≤ 9223372036854775807) :
    Calls Tryd.prog 6 #[.string s] w fun e w' => e = .returned (.bool true) ∧ Below w.heap.size w w' := by
  by_cases hlen : s.size ≤ 2000
  · have hs6 : s.size ≤ 1000000 := by omega
    go_enter Tryd.func6, Tryd.ntmps6
    go_wp2
    go_loop [3, 4, 11] (fun b _ i => ∃ k : Nat, k ≤ s.size ∧ i = .int .i64 k ∧ b = .bool (Dia.plain (s.data.toList.take k))) (fun _ _ i => s.size - (intOf i).toNat)
    case atStart => exact ⟨0, Nat.zero_le _, rfl, rfl⟩
    case round =>
      obtain ⟨k, hk, rfl, rfl⟩ := hrel
      by_cases hlt : k < s.size
      · have hlt' : k < s.data.toList.length := hlt
        have hsn := Dia.plain_snoc (s.data.toList.take k) s.data.toList[k]
        rw [← Dia.take_snoc s.data.toList k hlt'] at hsn
        have HS := Lib.hid hsn
        clear hsn
        go_wp2
        · have hp : Dia.plain (s.data.toList.take k) = true := by assumption
          go_round
          case rel => exact ⟨k + 1, by omega, by go_num, by
            rw [HS.out, hp, Bool.true_and]
            refine congrArg Value.bool ?_
            rw [Bool.eq_iff_iff, decide_eq_true_iff, decide_eq_true_iff]
            show (s[k].toNat : Int) < 128 ↔ s[k].toNat < 128
            omega⟩
          case measure => simp [intOf]; omega
        · have hp : ¬ Dia.plain (s.data.toList.take k) = true := by assumption
          go_round
          case rel => exact ⟨k + 1, by omega, by go_num, by
            rw [HS.out, Bool.eq_false_iff.2 hp]; rfl⟩
          case measure => simp [intOf]; omega
      · have e : s.data.toList.take k = s.data.toList := List.take_of_length_le (by show s.size ≤ k; omega)
        rw [e]
        by_cases hp : Dia.plain s.data.toList = true
        · obtain ⟨hok, hcnt⟩ := Dia.plain_pts hp
          have hsz : s.data.toList.length = s.size := rfl
          have HC : Aid.Hid2 (∀ w, Tryd.Tabs w → Calls Tryd.prog 18 #[.string s] w fun e w' => e = .returned (.int .i64 s.size) ∧ Below w.heap.size w w') := ⟨fun w hT => by have := Tryd.c_Count s w hs6 hT; rw [hcnt, hsz] at this; exact this⟩
          have HV : Aid.Hid2 (∀ w, Tryd.Tabs w → Calls Tryd.prog 19 #[.string s] w fun e w' => e = .returned (.bool true) ∧ Below w.heap.size w w') := ⟨fun w hT => by have := Tryd.c_Valid s w hs6 hT; rw [hok] at this; exact this⟩
          clear hcnt hok hsz
          go_wp2_with (first
            | (go_at_call 11; refine (Tryd.c_awake02 _ hT).mono ?_; rintro e w2 ⟨rfl, hb2⟩)
            | (go_at_call 20; refine (Tryd.c_Plain s _ hs6).mono ?_; rintro e w' ⟨rfl, rfl⟩)
            | (go_at_call 19; refine (HV.out _ (hT.below hb2)).mono ?_; rintro e w3 ⟨rfl, hb3⟩)
            | (go_at_call 18; refine (HC.out _ ((hT.below hb2).below hb3)).mono ?_; rintro e w4 ⟨rfl, hb4⟩))
          go_ret
          exact ⟨rfl, Aid.bt (Aid.bt hb2 hb3) hb4⟩
        · have hp' : Dia.plain s.data.toList = false := by simpa using hp
          clear hp
          go_wp2_with (first
            | (go_at_call 11; refine (Tryd.c_awake02 _ hT).mono ?_; rintro e w2 ⟨rfl, hb2⟩)
            | (go_at_call 20; refine (Tryd.c_Plain s _ hs6).mono ?_; rintro e w' ⟨rfl, rfl⟩))
          go_ret
          exact ⟨rfl, hb2⟩
  · have hgt : (2000 : Int) < (s.size : Int) := by omega
    go_enter Tryd.func6, Tryd.ntmps6
    go_wp2_with (go_at_call 11; refine (Tryd.c_awake02 _ hT).mono ?_; rintro e w2 ⟨rfl, hb2⟩)
    go_ret
    exact ⟨rfl, hb2⟩

theorem Dia.txt_cases (l : List Int) : ((∀ p ∈ l, Dia.sc p = true) ∧ Dia.txt l = (Dia.encs l, true)) ∨ (∃ k, ∃ h : k < l.length, Dia.sc l[k] = false ∧ Dia.txt l = ([], false)) := by
  by_cases h : ∀ p ∈ l, Dia.sc p = true
  · exact .inl ⟨h, Dia.txt_ok h⟩
  · right
    have h2 : ∃ p ∈ l, Dia.sc p = false := by
      have h3 : ¬ l.all Dia.sc = true := by simpa using h
      rw [Bool.not_eq_true, List.all_eq_false] at h3
      obtain ⟨p, hp, hs⟩ := h3
      exact ⟨p, hp, by simpa using hs⟩
    obtain ⟨p, hp, hs⟩ := h2
    obtain ⟨k, hk, rfl⟩ := List.getElem_of_mem hp
    exact ⟨k, hk, hs, Dia.txt_bad hp hs⟩

set_option maxRecDepth 100000 in
set_option maxHeartbeats 1000000 in
theorem Tryd.w_PointTexts (a : Option Addr) (l : List Int) (cap : Nat) (w : World) (hT : Tryd.Tabs w) (hrow : Aid.RowAt w a (l.map Dia.rv)) (_hw : ∀ p ∈ l, -2147483648 ≤ p ∧ p ≤ 2147483647) (hmax : l.length ≤ 9223372036854775807) :
    Calls Tryd.prog 5 #[.slice a l.length cap] w fun e w' => e = .returned (.bool true) ∧ Below w.heap.size w w' := by
  by_cases hlen : l.length ≤ 500
  · have hl6 : l.length ≤ 1000000 := by omega
    rcases Dia.txt_cases l with ⟨hsc, htx⟩ | ⟨kb, hkb, hbad, htx⟩
    · have hel := Dia.encs_le l
      obtain ⟨t, ht⟩ : ∃ t : ByteArray, t = ⟨(Dia.encs l).toArray⟩ := ⟨_, rfl⟩
      have htl : t.data.toList = Dia.encs l := by rw [ht]
      have hts : t.size ≤ 1000000 := by
        have : t.size = t.data.toList.length := rfl
        rw [this, htl]; omega
      have hpt := Dia.pts_ok l hsc
      have HTx : Aid.Hid2 (∀ w, Aid.RowAt w a (l.map Dia.rv) → Calls Tryd.prog 8 #[.slice a l.length cap] w fun e w' => e = .returned (.tuple #[.string t, .bool true]) ∧ Below w.heap.size w w') :=
        ⟨fun w hr => by have := Tryd.c_Text a l cap w hr hl6; rw [htx] at this; rw [ht]; exact this⟩
      have HPt : Aid.Hid2 (∀ w, Tryd.Tabs w → Calls Tryd.prog 15 #[.string t] w fun e w' => ∃ (aa : Option Addr) (ca : Nat), e = .returned (.tuple #[.slice aa l.length ca, .agg #[.int .i64 0, .int .i64 0]]) ∧ Aid.RowAt w' aa (l.map Dia.rv) ∧ Below w.heap.size w w') :=
        ⟨fun w hT => (Tryd.c_Points t w hts hT).mono fun e w' h => by
          unfold Dia.IsPoints at h
          rw [htl, hpt] at h
          obtain ⟨aa, ca, x, y, h1, h2, ⟨h3, h4⟩, h5⟩ := h
          exact ⟨aa, ca, by rw [h1, h3, h4]; rfl, h2, h5⟩⟩
      have HRT : Aid.Hid2 (∀ w, Aid.RowAt w a (l.map Dia.rv) → Calls Tryd.prog 16 #[.slice a l.length cap] w fun e w' => e = .returned (.string t) ∧ Below w.heap.size w w') :=
        ⟨fun w hr => by have := Tryd.c_refText a l cap w hr hl6 hsc; rw [ht]; exact this⟩
      have HC : Aid.Hid2 (∀ w, Tryd.Tabs w → Calls Tryd.prog 18 #[.string t] w fun e w' => e = .returned (.int .i64 l.length) ∧ Below w.heap.size w w') :=
        ⟨fun w hT => by have := Tryd.c_Count t w hts hT; rw [htl, hpt] at this; exact this⟩
      have HV : Aid.Hid2 (∀ w, Tryd.Tabs w → Calls Tryd.prog 19 #[.string t] w fun e w' => e = .returned (.bool true) ∧ Below w.heap.size w w') :=
        ⟨fun w hT => by have := Tryd.c_Valid t w hts hT; rw [htl, Dia.ok_encs hsc] at this; exact this⟩
      have HSC := Aid.Hid2.mk hsc
      clear hpt htl ht hts hel htx hsc
      go_enter Tryd.func5, Tryd.ntmps5
      go_wp2_with (go_at_call 8; refine (HTx.out _ hrow).mono ?_; rintro e w1 ⟨rfl, hb1⟩)
      have hT1 := hT.below hb1
      have hr1 := hrow.below hb1
      go_loop [6, 20] (fun _ i => ∃ k : Nat, k ≤ l.length ∧ i = .int .i64 k) (fun _ i => l.length - (intOf i).toNat)
      case atStart => exact ⟨0, Nat.zero_le _, rfl⟩
      case round =>
        obtain ⟨k, hk, rfl⟩ := hrel
        by_cases hlt : k < l.length
        · obtain ⟨b, off, rfl, hcell⟩ := hr1.get (k := k) (by simpa using hlt)
          simp only [List.getElem_map, Dia.rv] at hcell
          have hq := HSC.out l[k] (List.getElem_mem _)
          generalize l[k] = q at *
          go_wp2_with (go_at_call 10; refine (Tryd.c_refScalar _ _).mono ?_; rintro e w' ⟨rfl, rfl⟩)
          go_round
          case rel => exact ⟨k + 1, by omega, by go_num⟩
          case measure => simp [intOf]; omega
        · go_wp2_with (first
            | (go_at_call 15; refine (HPt.out _ hT1).mono ?_; rintro e w2 ⟨aa, ca, rfl, hr2, hb2⟩)
            | (go_at_call 11; refine (Tryd.c_awake02 _ (((hT1.below hb2).below ((Below.refl _ _).alloc (Nat.le_refl _) _)))).mono ?_; rintro e w3 ⟨rfl, hb3⟩; have hb3' := hb3.mono (show w2.heap.size + 1 ≤ _ by simp); obtain ⟨c0, c1, _, _⟩ := Aid.cells2 hb3'; have hB3 := Aid.bt hb2 (Aid.below_new hb3' (Nat.le_refl _)))
            | (go_at_call 16; refine (HRT.out _ (hr1.below hB3)).mono ?_; rintro e w4 ⟨rfl, hb4⟩)
            | (go_at_call 17; refine (Tryd.c_Same aa a l l ca cap _ (((hr2.below (Aid.below_new hb3' (Nat.le_refl _))).below hb4)) ((hr1.below hB3).below hb4) hl6 hl6).mono ?_; rintro e w5 ⟨rfl, hb5⟩; have d0 := Aid.cell_ext hb5 (Aid.cell_ext hb4 c0); have d1 := Aid.cell_ext hb5 (Aid.cell_ext hb4 c1); have hB5 := Aid.bt (Aid.bt hB3 hb4) hb5)
            | (go_at_call 14; refine (Tryd.c_Bad _ _ _).mono ?_; rintro e w6 ⟨rfl, hb6⟩)
            | (go_at_call 18; refine (HC.out _ ((hT1.below hB5).below hb6)).mono ?_; rintro e w7 ⟨rfl, hb7⟩)
            | (go_at_call 19; refine (HV.out _ (((hT1.below hB5).below hb6).below hb7)).mono ?_; rintro e w8 ⟨rfl, hb8⟩))
          go_ret
          exact ⟨rfl, Aid.bt (Aid.bt (Aid.bt (Aid.bt hb1 hB5) hb6) hb7) hb8⟩
    · have HTx : Aid.Hid2 (∀ w, Aid.RowAt w a (l.map Dia.rv) → Calls Tryd.prog 8 #[.slice a l.length cap] w fun e w' => e = .returned (.tuple #[.string ⟨#[]⟩, .bool false]) ∧ Below w.heap.size w w') :=
        ⟨fun w hr => by have := Tryd.c_Text a l cap w hr hl6; rw [htx] at this; exact this⟩
      have HB := Aid.Hid2.mk hbad
      clear htx hbad
      go_enter Tryd.func5, Tryd.ntmps5
      go_wp2_with (go_at_call 8; refine (HTx.out _ hrow).mono ?_; rintro e w1 ⟨rfl, hb1⟩)
      have hT1 := hT.below hb1
      have hr1 := hrow.below hb1
      go_loop [6, 20] (fun _ i => ∃ k : Nat, k ≤ kb ∧ i = .int .i64 k) (fun _ i => l.length - (intOf i).toNat)
      case atStart => exact ⟨0, Nat.zero_le _, rfl⟩
      case round =>
        obtain ⟨k, hk, rfl⟩ := hrel
        have hlt : k < l.length := by omega
        obtain ⟨b, off, rfl, hcell⟩ := hr1.get (k := k) (by simpa using hlt)
        simp only [List.getElem_map, Dia.rv] at hcell
        have hqq : Aid.Hid2 (Dia.sc l[k] = true → k < kb) := ⟨fun h => by
          by_cases e : k = kb
          · subst e; rw [HB.out] at h; cases h
          · omega⟩
        generalize l[k] = q at *
        by_cases hq : Dia.sc q = true
        · have hkb2 := hqq.out hq
          go_wp2_with (go_at_call 10; refine (Tryd.c_refScalar _ _).mono ?_; rintro e w' ⟨rfl, rfl⟩)
          go_round
          case rel => exact ⟨k + 1, by omega, by go_num⟩
          case measure => simp [intOf]; omega
        · have hq' : Dia.sc q = false := by simpa using hq
          clear hq
          go_wp2_with (first
            | (go_at_call 10; refine (Tryd.c_refScalar _ _).mono ?_; rintro e w' ⟨rfl, rfl⟩)
            | (go_at_call 11; refine (Tryd.c_awake02 _ hT1).mono ?_; rintro e w3 ⟨rfl, hb3⟩))
          go_ret
          exact ⟨rfl, Aid.bt hb1 hb3⟩
  · have hgt : (500 : Int) < (l.length : Int) := by omega
    go_enter Tryd.func5, Tryd.ntmps5
    go_wp2_with (go_at_call 11; refine (Tryd.c_awake02 _ hT).mono ?_; rintro e w2 ⟨rfl, hb2⟩)
    go_ret
    exact ⟨rfl, hb2⟩
end Go.Proofs
