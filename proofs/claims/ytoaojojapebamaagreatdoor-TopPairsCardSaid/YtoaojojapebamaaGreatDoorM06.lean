/- walks of point: Valid, Count, Plain, Same, Awake -/
import Derived.Test.YtoaojojapebamaaGreatDoorM05
import Derived.Lib.ValidU
import Derived.Lib.RuneCount
namespace Go.Proofs
open Go.RowKit

def Dia.ok (l : List UInt8) : Bool := decide ((Dia.pts l).2 < 0)
theorem Dia.ok_encs {ps : List Int} (h : ∀ p ∈ ps, Dia.sc p = true) : Dia.ok (Dia.encs ps) = true := by
  unfold Dia.ok; rw [Dia.pts_ok ps h]; rfl

theorem Dia.decodeL_hd {l : List UInt8} (h : l ≠ []) : ((Lib.decodeL l).1 = 65533 ∧ (Lib.decodeL l).2 = 1 ↔ (Dia.hd l).2 = 0) ∧ ((Dia.hd l).2 ≠ 0 → (Lib.decodeL l).2 = (Dia.hd l).2) := by
  have e : Lib.decodeL l = Lib.decodeN l.length (l.getD 0 0).toNat (l.getD 1 0).toNat (l.getD 2 0).toNat (l.getD 3 0).toNat := by
    show Utf8.decode ⟨l.toArray⟩ 0 = _
    rw [Lib.decode_at]
    simp only [Dia.get_getD, Nat.sub_zero, Nat.zero_add]
    rfl
  have h1 := Lib.decodeN_ge1 l.length (l.getD 0 0).toNat (l.getD 1 0).toNat (l.getD 2 0).toNat (l.getD 3 0).toNat
  unfold Dia.hd
  rw [if_neg h, e]
  simp only
  by_cases c : (Lib.decodeN l.length (l.getD 0 0).toNat (l.getD 1 0).toNat (l.getD 2 0).toNat (l.getD 3 0).toNat).1 = 65533 ∧ (Lib.decodeN l.length (l.getD 0 0).toNat (l.getD 1 0).toNat (l.getD 2 0).toNat (l.getD 3 0).toNat).2 ≤ 1
  · rw [if_pos c]
    exact ⟨⟨fun _ => rfl, fun _ => ⟨c.1, by omega⟩⟩, fun h => absurd rfl h⟩
  · rw [if_neg c]
    exact ⟨⟨fun h => absurd ⟨h.1, by omega⟩ c, fun h => by simp only at h; omega⟩, fun _ => rfl⟩

theorem Dia.validGo_ok : ∀ (n : Nat) (ps : List Int), (∀ p ∈ ps, Dia.sc p = true) → Lib.validGoD n (Dia.encs ps) = true
  | 0, _, _ => rfl
  | n + 1, [], _ => by simp [Lib.validGoD, Dia.encs_nil]
  | n + 1, p :: ps, h => by
    have hp := h p (by simp)
    have hne : Dia.encs (p :: ps) ≠ [] := by rw [Dia.encs_cons]; simp [Dia.enc_ne hp]
    obtain ⟨h1, h2⟩ := Dia.decodeL_hd hne
    have hh : Dia.hd (Dia.encs (p :: ps)) = (p, (Dia.enc p).length) := by rw [Dia.encs_cons]; exact Dia.hd_enc hp _
    have hl := Dia.enc_len hp
    rw [hh] at h1 h2
    simp only at h1 h2
    rw [Lib.validGoD, if_neg hne, if_neg (fun c => by have := h1.1 c; omega), h2 (by omega), Dia.encs_cons, List.drop_left]
    exact Dia.validGo_ok n ps (fun q hq => h q (by simp [hq]))
theorem Dia.validGo_bad (r : List UInt8) (hr : r ≠ []) (hb : (Dia.hd r).2 = 0) : ∀ (ps : List Int) (n : Nat), (Dia.encs ps).length < n → (∀ p ∈ ps, Dia.sc p = true) → Lib.validGoD n (Dia.encs ps ++ r) = false
  | [], n, hn, _ => by
    match n with
    | n + 1 => rw [Dia.encs_nil, List.nil_append, Lib.validGoD, if_neg hr, if_pos ((Dia.decodeL_hd hr).1.2 hb)]
  | p :: ps, n, hn, h => by
    match n with
    | n + 1 =>
      have hp := h p (by simp)
      have hne : Dia.encs (p :: ps) ++ r ≠ [] := by rw [Dia.encs_cons]; simp [Dia.enc_ne hp]
      obtain ⟨h1, h2⟩ := Dia.decodeL_hd hne
      have hh : Dia.hd (Dia.encs (p :: ps) ++ r) = (p, (Dia.enc p).length) := by rw [Dia.encs_cons, List.append_assoc]; exact Dia.hd_enc hp _
      have hl := Dia.enc_len hp
      rw [hh] at h1 h2
      simp only at h1 h2
      rw [Lib.validGoD, if_neg hne, if_neg (fun c => by have := h1.1 c; omega), h2 (by omega), Dia.encs_cons, List.append_assoc, List.drop_left]
      exact Dia.validGo_bad r hr hb ps n (by rw [Dia.encs_cons, List.length_append] at hn; omega) (fun q hq => h q (by simp [hq]))
theorem Dia.validD_eq (l : List UInt8) : Lib.validD l = Dia.ok l := by
  unfold Lib.validD Dia.ok
  rcases Dia.pts_cases l with ⟨ps, h1, h2, h3⟩ | ⟨ps, r, h1, h2, h3, h4, h5⟩
  · rw [h3, h2, Dia.validGo_ok _ ps h1]; rfl
  · rw [h5, h4, Dia.validGo_bad r h2 h3 ps _ (by
      have : r.length ≠ 0 := by simpa using h2
      rw [List.length_append]; omega) h1]
    simp only
    rw [decide_eq_false (by omega)]

theorem Dia.runeCount_ok (s : ByteArray) : ∀ (ps : List Int) (f i : Nat), (∀ p ∈ ps, Dia.sc p = true) → s.data.toList.drop i = Dia.encs ps → ps.length ≤ f → i ≤ s.size → Lib.runeCountFrom s f i = ps.length
  | [], f, i, _, h, _, hi => by
    have hl : s.data.toList.length = s.size := rfl
    have : ¬ i < s.size := by
      have := congrArg List.length h
      rw [List.length_drop, Dia.encs_nil] at this; simp at this; omega
    rw [Lib.runeCountFrom_end s f i this]; rfl
  | p :: ps, f, i, hs, h, hf, hi => by
    match f with
    | f + 1 =>
      have hl : s.data.toList.length = s.size := rfl
      have hp := hs p (by simp)
      have hlp := Dia.enc_len hp
      have hlen := congrArg List.length h
      rw [List.length_drop, Dia.encs_cons, List.length_append] at hlen
      have hne : s.data.toList.drop i ≠ [] := by intro e; have h9 := congrArg List.length e; rw [List.length_drop, List.length_nil] at h9; omega
      obtain ⟨h1, h2⟩ := Dia.decodeL_hd hne
      have hh : Dia.hd (s.data.toList.drop i) = (p, (Dia.enc p).length) := by rw [h, Dia.encs_cons]; exact Dia.hd_enc hp _
      rw [hh] at h2
      have e : Utf8.decode s i = Lib.decodeL (s.data.toList.drop i) := by
        show _ = Utf8.decode ⟨(s.data.toList.drop i).toArray⟩ 0
        rw [Lib.decode_at, Lib.decode_at]
        have hsz : (⟨(s.data.toList.drop i).toArray⟩ : ByteArray).size = s.size - i := by
          show ((s.data.toList.drop i).toArray).size = _
          simp
        have hg : ∀ j, s.get! (i + j) = (⟨(s.data.toList.drop i).toArray⟩ : ByteArray).get! j := by
          intro j
          rw [Dia.get_getD, Dia.get_getD, List.getD_eq_getElem?_getD, List.getD_eq_getElem?_getD, List.getElem?_drop]
        rw [hsz, ← hg 0, ← hg (0 + 1), ← hg (0 + 2), ← hg (0 + 3)]
        simp
      rw [Lib.runeCountFrom, if_pos (by omega), e, h2 (by simp only; omega)]
      rw [Dia.runeCount_ok s ps f _ (fun q hq => hs q (by simp [hq])) (by rw [← List.drop_drop, h, Dia.encs_cons]; exact List.drop_left) (by simp at hf; omega) (by simp only; omega)]
      simp only [List.length_cons]; omega
theorem Dia.runeCount_pts (s : ByteArray) (h : Dia.ok s.data.toList = true) : Lib.runeCount s = (Dia.pts s.data.toList).1.length := by
  unfold Dia.ok at h
  rcases Dia.pts_cases s.data.toList with ⟨ps, h1, h2, h3⟩ | ⟨ps, r, h1, h2, h3, h4, h5⟩
  · rw [h3]
    exact Dia.runeCount_ok s ps _ 0 h1 (by simpa using h2) (by
      have := Dia.encs_len_ge ps h1
      rw [← h2] at this; exact this) (Nat.zero_le _)
  · rw [h5] at h; simp at h
    omega




theorem Dia.pts_aca : Dia.pts [97, 195, 97] = ([], 1) := by decide +kernel
theorem Dia.txt_233 : Dia.txt [233] = ([195, 169], true) := by decide +kernel

set_option maxRecDepth 100000 in
theorem Tryz.c_Text233 (w : World) : Calls Tryz.prog 30 #[.slice (some ⟨w.heap.size, 0, none⟩) 1 1] (w.alloc (.cells #[.int .i32 233] 21)) fun e w' =>
    e = .returned (.tuple #[.string ⟨#[195, 169]⟩, .bool true]) ∧ Below (w.heap.size + 1) (w.alloc (.cells #[.int .i32 233] 21)) w' := by
  have h := Tryz.c_Text (some ⟨w.heap.size, 0, none⟩) [233] 1 (w.alloc (.cells #[.int .i32 233] 21)) (Aid.row_new w _ _ _ rfl) (by decide)
  rw [Dia.txt_233] at h
  refine h.mono fun e w' ⟨h1, h2⟩ => ⟨h1, h2.mono (by simp)⟩
set_option maxRecDepth 100000 in
theorem Tryz.c_PointsAca (w : World) (hT : Tryz.Tabs w) : Calls Tryz.prog 31 #[.string ⟨#[97, 195, 97]⟩] w fun e w' =>
    ∃ (aa : Option Addr) (cap : Nat), e = .returned (.tuple #[.slice aa 0 cap, .agg #[.int .i64 2, .int .i64 1]]) ∧ Below w.heap.size w w' := by
  refine (Tryz.c_Points ⟨#[97, 195, 97]⟩ w (by decide) hT).mono fun e w' h => ?_
  unfold Dia.IsPoints at h
  have e1 : (⟨#[97, 195, 97]⟩ : ByteArray).data.toList = [97, 195, 97] := rfl
  rw [e1, Dia.pts_aca] at h
  obtain ⟨aa, cap, a, b, h1, h2, ⟨h3, h4⟩, h5⟩ := h
  exact ⟨aa, cap, by rw [h1, h3, h4]; rfl, h5⟩

set_option maxRecDepth 100000 in
set_option maxHeartbeats 400000 in
theorem Tryz.c_Awake02 (w : World) (hT : Tryz.Tabs w) :
    Calls Tryz.prog 12 #[] w fun e w' => e = .returned (.bool true) ∧ Below w.heap.size w w' := by
  go_enter Tryz.func12, Tryz.ntmps12
  go_wp2_with (first
    | (go_at_call 30; refine (Tryz.c_Text233 w).mono ?_; rintro e w1 ⟨rfl, hb1⟩)
    | (go_at_call 31; refine (Tryz.c_PointsAca _ (hT.below (Aid.below_new hb1 (Nat.le_refl _)))).mono ?_; rintro e w2 ⟨aa, cap, rfl, hb2⟩))
  have hbb : Below w.heap.size w w2 := (Aid.below_new hb1 (Nat.le_refl _)).trans (hb2.mono (by have := hb1.size; simp at this; omega))
  go_ret
  exact ⟨rfl, hbb.alloc hbb.size _⟩
end Go.Proofs
