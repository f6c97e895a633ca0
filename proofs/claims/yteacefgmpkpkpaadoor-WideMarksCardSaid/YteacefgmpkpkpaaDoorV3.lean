/- walks of wide: Encode -/
import Derived.Test.YteacefgmpkpkpaaDoorV2
namespace Go.Proofs
open Go.RowKit

theorem Aid.own_row' {w : World} {B : Nat} {e : TypeId} {v : Value} {n : Nat} {xs : List Value} (h : w.ownsRow B e 1 v n xs) : ∃ a cap, v = .slice a xs.length cap ∧ Aid.RowAt w a xs ∧ xs.length ≤ cap := by
  have hl := h.1
  simp at hl
  rcases h.2 with ⟨rfl, rfl⟩ | ⟨g, cap, cur, hv, h3⟩
  · have : xs = [] := by simpa using hl
    subst this
    exact ⟨none, 0, rfl, .inl rfl, Nat.le_refl _⟩
  · obtain ⟨a, c, hv2, hr⟩ := Aid.own_row h
    rw [hv] at hv2
    cases hv2
    exact ⟨_, _, hv, hr, h3.2.2.1⟩
theorem Tryd.info_str : (Tryd.prog.info? 9).map (fun i => (i.zero, i.size, i.bytes)) = some (some (.string ⟨#[]⟩), 1, 16) := by kernel_rfl
/-- what Encode hands back -/
def Dia.IsEncode (big : Bool) (l : List UInt8) (w w' : World) (e : Ending) : Prop :=
  ∃ a b : Int, e = .returned (.tuple #[.string ⟨(Dia.wens big (Dia.pts l).1).toArray⟩, .agg #[.int .i64 a, .int .i64 b]]) ∧ Dia.IsFault (Dia.pts l).2 a b ∧ Below w.heap.size w w'
theorem Dia.i32_low10 (q : Int) (h0 : 65536 ≤ q) (h1 : q ≤ 1114111) : wrap32 (56320 + bits .and .i32 (q - 65536) 1023) = 56320 + (q - 65536) % 1024 := by
  obtain ⟨n, hn⟩ := Int.eq_ofNat_of_zero_le (show 0 ≤ q - 65536 by omega)
  rw [hn]
  have e : bits .and .i32 (n : Int) 1023 = ((n % 1024 : Nat) : Int) := by
    show IntKind.i32.wrap ((BitVec.ofInt 32 (n : Int) &&& BitVec.ofInt 32 ((1023 : Nat) : Int)).toNat : Int) = _
    rw [BitVec.toNat_and, ofInt_u32 n (by omega), ofInt_u32 1023 (by omega), show (1023 : Nat) = 2 ^ 10 - 1 from rfl, Nat.and_two_pow_sub_one_eq_mod]
    rw [wrap_i32_small _ (by omega) (by omega)]
  rw [e]
  unfold wrap32
  omega
theorem Tryd.c_two' (u : Int) (big : Bool) (w : World) (j : Int) (hu0 : 0 ≤ u) (hu1 : u ≤ 65535) (hj : j = u) :
    Calls Tryd.prog 27 #[.int .i32 j, .bool big] w fun e w' => e = .returned (.string ⟨(Dia.wtwo big u).toArray⟩) ∧ Below w.heap.size w w' := by
  subst hj
  exact Tryd.c_two _ big w hu0 hu1
/-- texts whose bytes, one behind the other, are these -/
def Dia.Parts (xs : List ByteArray) (l : List UInt8) : Prop := (xs.map (·.data.toList)).flatten = l
theorem Dia.parts_snoc {xs : List ByteArray} {l : List UInt8} (h : Dia.Parts xs l) (y : List UInt8) : Dia.Parts (xs ++ [⟨y.toArray⟩]) (l ++ y) := by
  unfold Dia.Parts at *
  rw [List.map_append, List.flatten_append, h]
  simp
theorem Dia.wens_snoc (big : Bool) (ps : List Int) (p : Int) : Dia.wens big (ps ++ [p]) = Dia.wens big ps ++ Dia.wen big p := Dia.gens_snoc ps p
theorem Dia.wen_low (big : Bool) {p : Int} (h : p < 65536) : Dia.wen big p = Dia.wtwo big p := by unfold Dia.wen; rw [if_pos h]
theorem Dia.wen_high (big : Bool) {p : Int} (h : 65536 ≤ p) : Dia.wen big p = Dia.wtwo big (55296 + (p - 65536) / 1024) ++ Dia.wtwo big (56320 + (p - 65536) % 1024) := by unfold Dia.wen; rw [if_neg (by omega)]
theorem Dia.wens_len (big : Bool) : ∀ (ps : List Int), (Dia.wens big ps).length ≤ 4 * ps.length
  | [] => by simp [Dia.wens, Dia.gens_nil]
  | p :: ps => by
    have := Dia.wens_len big ps
    have h2 := Dia.wen_len big p
    unfold Dia.wens at *
    rw [Dia.gens_cons, List.length_append, List.length_cons, h2]
    split <;> omega
theorem Dia.pts_sc (l : List UInt8) : ∀ p ∈ (Dia.pts l).1, Dia.sc p = true := by
  rcases Dia.pts_cases l with ⟨ps, h1, h2, h3⟩ | ⟨ps, r, h1, h2, h3, h4, h5⟩
  · rw [h3]; exact h1
  · rw [h5]; simp

set_option maxRecDepth 100000 in
set_option maxHeartbeats 2000000 in
theorem Tryd.c_Encode (s : ByteArray) (big : Bool) (w : World) (hs : s.size ≤ 100000) (hT : Tryd.Tabs w) :
    Calls Tryd.prog 11 #[.string s, .bool big] w fun e w' => Dia.IsEncode big s.data.toList w w' e := by
  obtain ⟨i0, hi, hz0, hz1, hz2⟩ := info_parts Tryd.info_str
  have hpl := Dia.pts_len s.data.toList
  have hln : s.data.toList.length = s.size := rfl
  rw [hln] at hpl
  rcases Dia.pts_cases s.data.toList with ⟨ps, h1, h2, h3⟩ | ⟨ps, r, h1, h2, h3, h4, h5⟩
  · rw [h3] at hpl
    have hpl' : ps.length ≤ s.size := hpl
    have HP : Aid.Hid2 (∀ w, Tryd.Tabs w → Calls Tryd.prog 26 #[.string s] w fun e w' => ∃ (aa : Option Addr) (ca : Nat), e = .returned (.tuple #[.slice aa ps.length ca, .agg #[.int .i64 0, .int .i64 0]]) ∧ Aid.RowAt w' aa (ps.map Dia.rv) ∧ Below w.heap.size w w') :=
      ⟨fun w hT => (Tryd.c_Points s w (by omega) hT).mono fun e w' h => by
        unfold Dia.IsPoints at h
        rw [h3] at h
        obtain ⟨aa, ca, x, y, h1, h2, ⟨h3, h4⟩, h5⟩ := h
        exact ⟨aa, ca, by rw [h1, h3, h4]; rfl, h2, h5⟩⟩
    have H3 := Aid.Hid2.mk h3
    have HSC := Aid.Hid2.mk h1
    clear h1 h2 h3 hpl hln
    go_enter Tryd.func11, Tryd.ntmps11
    go_wp2_with (first
      | (go_at_call 26; refine (HP.out _ (hT.below ((Below.refl _ _).alloc (Nat.le_refl _) _))).mono ?_; rintro e w1 ⟨aa, ca, rfl, hrow, hb1⟩)
      | (go_at_call 12; refine (Tryd.c_Bad_no _ _).mono ?_; rintro e w2 ⟨rfl, hb2⟩))
    have hb2' := hb2.mono (show w1.heap.size + 1 ≤ _ by simp)
    have hb12 : Below (w.heap.size + 1) (w.alloc (.cells #[.int .i64 0, .int .i64 0] 25)) w2 := (hb1.mono (by simp)).trans (Aid.below_new hb2' (by have := hb1.size; simpa using this))
    have hB12 := Aid.new_lt hb12
    have hrow2 := (hrow.below ((Below.refl _ _).alloc (Nat.le_refl _) (.cells #[.int .i64 0, .int .i64 0] 25))).below hb2
    go_loopw [8, 10, 21] (fun v _ i wr => ∃ (k : Nat) (xs : List ByteArray), k ≤ ps.length ∧ i = .int .i64 k ∧ Dia.Parts xs (Dia.wens big (ps.take k)) ∧ xs.length ≤ 2 * k ∧
        wr.ownsRow w2.heap.size 9 1 v xs.length (xs.map Value.string) ∧ Below w2.heap.size w2 wr)
      (fun _ _ i _ => ps.length - (intOf i).toNat)
    case atStart => exact ⟨0, [], Nat.zero_le _, rfl, rfl, Nat.zero_le _, World.ownsRow_nil _ _ _ _, Below.refl _ _⟩
    case round =>
      obtain ⟨k, xs, hk, rfl, hpa, hxl, hown, hb⟩ := hrel
      have HPA := Aid.Hid2.mk hpa
      clear hpa
      by_cases hlt : k < ps.length
      · have ht := Aid.Hid2.mk (Dia.take_snoc ps k hlt)
        obtain ⟨b, off, rfl, hcell⟩ := (hrow2.below hb).get (k := k) (by simpa using hlt)
        simp only [List.getElem_map, Dia.rv] at hcell
        have hsc := HSC.out ps[k] (List.getElem_mem _)
        generalize ps[k] = q at *
        rw [Dia.sc_iff] at hsc
        by_cases hq : 65536 ≤ q
        · have HE := Aid.Hid2.mk (Dia.wen_high big hq)
          go_wp2_with (first
            | (go_at_call 27; refine (Tryd.c_two' (55296 + (q - 65536) / 1024) big _ _ (by omega) (by omega) (by go_num)).mono ?_; rintro e w4 ⟨rfl, hb4⟩)
            | (at_builtin; refine Aid.wpList_app1 (w0 := w2) _ rfl _ _ 51 9 1 16 rfl Tryd.underlying51 i0 _ hi hz0 hz1 hz2 rfl (by decide) w2.heap.size _ _ _ #[.string ⟨(Dia.wtwo big (55296 + (q - 65536) / 1024)).toArray⟩] _ rfl _ rfl (Aid.ownsRow_below hown hb4) (hb.trans (hb4.mono hb.size)) ?_ rfl rfl ?_ ?_ ?_ ?_))
          · have := hb.size; have := hb4.size; omega
          · simp [Value.oneCell']
          · omega
          · omega
          · intro v' w5 hown2 hb5 hsz5 _
            have hlen5 : (xs ++ [(⟨(Dia.wtwo big (55296 + (q - 65536) / 1024)).toArray⟩ : ByteArray)]).length = xs.length + 1 := by simp
            have hown3 : w5.ownsRow w2.heap.size 9 1 v' (xs.length + 1) ((xs ++ [(⟨(Dia.wtwo big (55296 + (q - 65536) / 1024)).toArray⟩ : ByteArray)]).map Value.string) := by simpa using hown2
            have hpa2 := Dia.parts_snoc HPA.out (Dia.wtwo big (55296 + (q - 65536) / 1024))
            have HPA2 := Aid.Hid2.mk hpa2
            clear hpa2
            generalize xs ++ [(⟨(Dia.wtwo big (55296 + (q - 65536) / 1024)).toArray⟩ : ByteArray)] = ys at *
            go_wp2_with (first
              | (go_at_call 27; refine (Tryd.c_two' (56320 + (q - 65536) % 1024) big _ _ (by omega) (by omega) (Dia.i32_low10 q hq (by omega))).mono ?_; rintro e w6 ⟨rfl, hb6⟩)
              | (at_builtin; refine Aid.wpList_app1 (w0 := w2) _ rfl _ _ 51 9 1 16 rfl Tryd.underlying51 i0 _ hi hz0 hz1 hz2 rfl (by decide) w2.heap.size _ _ _ #[.string ⟨(Dia.wtwo big (56320 + (q - 65536) % 1024)).toArray⟩] _ rfl _ rfl (Aid.ownsRow_below hown3 hb6) (hb5.trans (hb6.mono hb5.size)) ?_ rfl rfl ?_ ?_ ?_ ?_))
            · have := hb5.size; have := hb6.size; omega
            · simp [Value.oneCell']
            · omega
            · omega
            · intro v'' w7 hown4 hb7 hsz7 _
              go_wp2
              go_roundw
              case rel => exact ⟨k + 1, ys ++ [⟨(Dia.wtwo big (56320 + (q - 65536) % 1024)).toArray⟩], by omega, by go_num, by rw [ht.out, Dia.wens_snoc, HE.out, ← List.append_assoc]; exact Dia.parts_snoc HPA2.out _, by rw [List.length_append, hlen5]; simp; omega, by rw [List.length_append, hlen5]; simpa using hown4, hb7⟩
              case measure => simp [intOf]; omega
        · have HE := Aid.Hid2.mk (Dia.wen_low big (show q < 65536 by omega))
          go_wp2_with (first
            | (go_at_call 27; refine (Tryd.c_two q big _ (by omega) (by omega)).mono ?_; rintro e w4 ⟨rfl, hb4⟩)
            | (at_builtin; refine Aid.wpList_app1 (w0 := w2) _ rfl _ _ 51 9 1 16 rfl Tryd.underlying51 i0 _ hi hz0 hz1 hz2 rfl (by decide) w2.heap.size _ _ _ #[.string ⟨(Dia.wtwo big q).toArray⟩] _ rfl _ rfl (Aid.ownsRow_below hown hb4) (hb.trans (hb4.mono hb.size)) ?_ rfl rfl ?_ ?_ ?_ ?_))
          · have := hb.size; have := hb4.size; omega
          · simp [Value.oneCell']
          · omega
          · omega
          · intro v' w5 hown2 hb5 hsz5 _
            go_wp2
            go_roundw
            case rel => exact ⟨k + 1, xs ++ [⟨(Dia.wtwo big q).toArray⟩], by omega, by go_num, by rw [ht.out, Dia.wens_snoc, HE.out]; exact Dia.parts_snoc HPA.out _, by simp; omega, by simpa using hown2, hb5⟩
            case measure => simp [intOf]; omega
      · have e : ps.take k = ps := List.take_of_length_le (by omega)
        have hwl := Dia.wens_len big ps
        obtain ⟨ab, cap, rfl, hrb, hcp⟩ := Aid.own_row' hown
        have hpa := HPA.out
        rw [e] at hpa
        have HJ : Aid.Hid2 (Calls Tryd.prog 28 #[.slice ab xs.length cap] wr fun e w' => e = .returned (.string ⟨(Dia.wens big ps).toArray⟩) ∧ Below wr.heap.size wr w') :=
          ⟨by
            have := Tryd.c_Join ab cap xs wr (by simpa using hrb) (by simpa using hcp) (by omega) (by rw [hpa]; omega)
            rw [hpa] at this
            exact this⟩
        clear hpa hwl
        simp only [List.length_map] at *
        go_wp2_with (go_at_call 28; refine HJ.out.mono ?_; rintro e w8 ⟨rfl, hb8⟩; obtain ⟨d0, d1, g0, g1⟩ := Aid.cells2 (hb12.trans (Aid.bt' hB12 hb hb8)))
        exact bodyPost_ret (v := .tuple #[.string ⟨(Dia.wens big ps).toArray⟩, .agg #[.int .i64 0, .int .i64 0]]) (by simp [results, Tryd.results11, go_sem, d0, d1]) rfl
          (by
            unfold Dia.IsEncode
            rw [H3.out]
            exact ⟨0, 0, rfl, Dia.isFault_none, ((Aid.below_new (hb12.trans (Aid.bt' hB12 hb hb8)) (Nat.le_refl _)).setCell (Nat.le_refl _) _).setCell (Nat.le_refl _) _⟩)
  · have HP : Aid.Hid2 (∀ w, Tryd.Tabs w → Calls Tryd.prog 26 #[.string s] w fun e w' => ∃ (aa : Option Addr) (ca : Nat), e = .returned (.tuple #[.slice aa 0 ca, .agg #[.int .i64 2, .int .i64 (Dia.encs ps).length]]) ∧ Below w.heap.size w w') :=
      ⟨fun w hT => (Tryd.c_Points s w (by omega) hT).mono fun e w' h => by
        unfold Dia.IsPoints at h
        rw [h5] at h
        obtain ⟨aa, ca, x, y, h1, h2, h3, h5⟩ := h
        unfold Dia.IsFault at h3
        obtain ⟨h3, h4⟩ := h3
        exact ⟨aa, ca, by rw [h1, h3, h4, if_neg (by omega), if_neg (by omega)]; rfl, h5⟩⟩
    have H5 := Aid.Hid2.mk h5
    clear h1 h2 h3 h4 h5 hpl hln
    go_enter Tryd.func11, Tryd.ntmps11
    go_wp2_with (first
      | (go_at_call 26; refine (HP.out _ (hT.below ((Below.refl _ _).alloc (Nat.le_refl _) _))).mono ?_; rintro e w1 ⟨aa, ca, rfl, hb1⟩)
      | (go_at_call 12; refine (Tryd.c_Bad_yes _ _).mono ?_; rintro e w2 ⟨rfl, hb2⟩))
    have hb2' := hb2.mono (show w1.heap.size + 1 ≤ _ by simp)
    obtain ⟨c0, c1, f0, f1⟩ := Aid.cells2 hb2'
    have hb12 : Below (w.heap.size + 1) (w.alloc (.cells #[.int .i64 0, .int .i64 0] 25)) w2 := (hb1.mono (by simp)).trans (Aid.below_new hb2' (by have := hb1.size; simpa using this))
    obtain ⟨d0, d1, g0, g1⟩ := Aid.cells2 hb12
    go_region
    go_wp2
    exact bodyPost_ret (v := .tuple #[.string ⟨#[]⟩, .agg #[.int .i64 2, .int .i64 (Dia.encs ps).length]]) (by simp [results, Tryd.results11, go_sem, d0, d1]) rfl
      (by
        unfold Dia.IsEncode
        rw [H5.out]
        exact ⟨2, (Dia.encs ps).length, rfl, Dia.isFault_at _, (((Aid.below_new hb12 (Nat.le_refl _)).setCell (Nat.le_refl _) _).setCell (Nat.le_refl _) _).drew⟩)
end Go.Proofs
