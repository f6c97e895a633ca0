/- walks of point's reference: small functions; walks of point: next, Check, Points, Text -/
import Derived.Test.YtoaojojapebamaaGreatDoorRows
import Derived.Test.YtoaojojapebamaaGreatDoorShelf
import Derived.Test.YtoaojojapebamaaGreatDoorM02
import Derived.Test.YtoaojojapebamaaGreatDoorM00
import Derived.WalkKit
import Derived.WalkSpells
import Derived.WalkLawsBesides
import Derived.BigQuiet
import Derived.Deep.QuietTactic
import Derived.Lib.Hide
namespace Go.Proofs
open Go.RowKit Go.Lib

set_option maxRecDepth 100000 in
set_option maxHeartbeats 400000 in
theorem Tryz.c_Scalar (p : Int) (w : World) :
    Calls Tryz.prog 55 #[.int .i32 p] w fun e w' => e = .returned (.bool (Dia.sc p)) ∧ w = w' := by
  go_enter Tryz.func55, Tryz.ntmps55
  go_wp2_with (go_at_call 92; refine (Tryz.utf8_ValidRune _ _).mono ?_; rintro e w' ⟨rfl, rfl⟩)
  go_ret
  exact ⟨rfl, rfl⟩

theorem Dia.ret_b {a b : Bool} (h : a = b) : Ending.returned (.bool a) = .returned (.bool b) := by rw [h]
theorem Dia.ret_s {a b : ByteArray} (h : a = b) : Ending.returned (.string a) = .returned (.string b) := by rw [h]

theorem Dia.more_none {l : List UInt8} {i : Nat} (h : ¬ i < l.length) : Dia.more l i = -1 := by
  unfold Dia.more; rw [List.getElem?_eq_none (by omega)]
theorem Dia.more_bad {s : ByteArray} {i : Nat} (h : i < s.size) (hb : (s[i].toNat : Int) < 128 ∨ 191 < (s[i].toNat : Int)) : Dia.more s.data.toList i = -1 := by
  have h' : i < s.data.toList.length := h
  have hb' : s.data.toList[i].toNat < 128 ∨ 191 < s.data.toList[i].toNat := by
    show s[i].toNat < 128 ∨ 191 < s[i].toNat
    omega
  unfold Dia.more; rw [List.getElem?_eq_getElem h']; simp only; rw [if_pos hb']
theorem Dia.more_good {s : ByteArray} {i : Nat} (h : i < s.size) (hb : ¬ ((s[i].toNat : Int) < 128 ∨ 191 < (s[i].toNat : Int))) : Dia.more s.data.toList i = (s[i].toNat : Int) - 128 := by
  have h' : i < s.data.toList.length := h
  have hb' : ¬ (s.data.toList[i].toNat < 128 ∨ 191 < s.data.toList[i].toNat) := by
    show ¬ (s[i].toNat < 128 ∨ 191 < s[i].toNat)
    omega
  unfold Dia.more; rw [List.getElem?_eq_getElem h']; simp only; rw [if_neg hb']; rfl
theorem Dia.ret_i {k : IntKind} {a b : Int} (h : a = b) : Ending.returned (.int k a) = .returned (.int k b) := by rw [h]

theorem Dia.enc_eq {p : Int} {ns : List Int} (h : Lib.encodeRuneZ p = ns) : strOfNums ns = ⟨(Dia.enc p).toArray⟩ := by
  unfold strOfNums Dia.enc Lib.encodeRune
  rw [h]

set_option maxRecDepth 100000 in
set_option maxHeartbeats 400000 in
theorem Tryz.c_refBytes (p : Int) (w : World) (hp : Dia.sc p = true) :
    Calls Tryz.prog 10 #[.int .i32 p] w fun e w' => e = .returned (.string ⟨(Dia.enc p).toArray⟩) ∧ Below w.heap.size w w' := by
  rcases Dia.sc_cases hp with h | h | h | h
  · have E := Lib.hid (Dia.enc_eq (p := p) (Lib.encodeRuneZ_one (by omega) (by omega)))
    obtain ⟨h0, h1⟩ := h
    clear hp
    go_enter Tryz.func10, Tryz.ntmps10
    go_wp2_with (refine Aid.wpList_conv_ints _ rfl _ _ _ _ rfl Tryz.underlying35 Tryz.underlying5 Tryz.underlying9 ⟨w.heap.size, 0, none⟩ _ [p] _ rfl rfl (Aid.cells_new _ _ _ _ _ rfl) ?_)
    go_ret
    exact ⟨Dia.ret_s E.out, (Below.refl _ _).alloc (Nat.le_refl _) _⟩
  · have E := Lib.hid (Dia.enc_eq (p := p) (Lib.encodeRuneZ_two (by omega) (by omega)))
    obtain ⟨h0, h1⟩ := h
    clear hp
    go_enter Tryz.func10, Tryz.ntmps10
    go_wp2_with (refine Aid.wpList_conv_ints _ rfl _ _ _ _ rfl Tryz.underlying35 Tryz.underlying5 Tryz.underlying9 ⟨w.heap.size, 0, none⟩ _ [192 + p / 64, 128 + p % 64] _ rfl rfl (Aid.cells_new _ _ _ _ _ rfl) ?_)
    go_ret
    exact ⟨Dia.ret_s E.out, (Below.refl _ _).alloc (Nat.le_refl _) _⟩
  · have E := Lib.hid (Dia.enc_eq (p := p) (Lib.encodeRuneZ_three (by omega)))
    have h0 : 2048 ≤ p := by omega
    have h1 : p ≤ 65535 := by omega
    clear hp h
    go_enter Tryz.func10, Tryz.ntmps10
    go_wp2_with (refine Aid.wpList_conv_ints _ rfl _ _ _ _ rfl Tryz.underlying35 Tryz.underlying5 Tryz.underlying9 ⟨w.heap.size, 0, none⟩ _ [224 + p / 4096, 128 + p / 64 % 64, 128 + p % 64] _ rfl rfl (Aid.cells_new _ _ _ _ _ rfl) ?_)
    go_ret
    exact ⟨Dia.ret_s E.out, (Below.refl _ _).alloc (Nat.le_refl _) _⟩
  · have E := Lib.hid (Dia.enc_eq (p := p) (Lib.encodeRuneZ_four (by omega) (by omega)))
    obtain ⟨h0, h1⟩ := h
    clear hp
    go_enter Tryz.func10, Tryz.ntmps10
    go_wp2_with (refine Aid.wpList_conv_ints _ rfl _ _ _ _ rfl Tryz.underlying35 Tryz.underlying5 Tryz.underlying9 ⟨w.heap.size, 0, none⟩ _ [240 + p / 262144, 128 + p / 4096 % 64, 128 + p / 64 % 64, 128 + p % 64] _ rfl rfl (Aid.cells_new _ _ _ _ _ rfl) ?_)
    go_ret
    exact ⟨Dia.ret_s E.out, (Below.refl _ _).alloc (Nat.le_refl _) _⟩
end Go.Proofs
namespace Go.Proofs
open Go.RowKit

theorem Dia.get_getD (b : ByteArray) (j : Nat) : b.get! j = b.data.toList.getD j 0 := by
  show b.data[j]! = _
  rw [List.getD_eq_getElem?_getD, Array.getElem?_toList, getElem!_def]
  cases b.data[j]? <;> rfl
/-- the library's two tables, as its text lays them -/
def Tryz.Tabs (w : World) : Prop := Lib.Utf8Tabs 1 2 w
theorem Tryz.Tabs.below {w w' : World} (hT : Tryz.Tabs w) (hb : Below w.heap.size w w') : Tryz.Tabs w' :=
  ⟨fun c hc => (hb.cell (World.block_lt_of_cell? w _ (hT.1 c hc))).trans (hT.1 c hc),
   fun i hi => ⟨(hb.cell (World.block_lt_of_cell? w _ (hT.2 i hi).1)).trans (hT.2 i hi).1, (hb.cell (World.block_lt_of_cell? w _ (hT.2 i hi).2)).trans (hT.2 i hi).2⟩⟩
/-- what Go's decoder tells at a place -/
def Dia.DecIs (l : List UInt8) (i : Nat) (x k : Nat) : Prop := Dia.hd (l.drop i) = if x = 65533 ∧ k ≤ 1 then (0, 0) else ((x : Int), k)
theorem Dia.decIs_go (s : ByteArray) (i : Nat) (hi : i ≤ s.size) : Dia.DecIs s.data.toList i (Lib.decodeGo (s.extract i s.size)).1 (Lib.decodeGo (s.extract i s.size)).2 := by
  unfold Dia.DecIs Lib.decodeGo Dia.hd
  have hl : (s.extract i s.size).data.toList = s.data.toList.drop i := by
    simp [ByteArray.data_extract]
    exact List.take_of_length_le (by simp)
  have hsz : (s.extract i s.size).size = s.size - i := by simp
  have hls : s.data.toList.length = s.size := rfl
  by_cases e : i = s.size
  · have h0 : (s.extract i s.size).size = 0 := by omega
    have h1 : s.data.toList.drop i = [] := List.drop_of_length_le (by omega)
    rw [if_pos h0, if_pos h1]
    simp
  · have h0 : ¬ (s.extract i s.size).size = 0 := by omega
    have h1 : s.data.toList.drop i ≠ [] := by
      intro h; have := congrArg List.length h; simp at this; omega
    rw [if_neg h0, if_neg h1, Lib.decode_at]
    have hg : ∀ j, ((s.extract i s.size).get! j) = (s.data.toList.drop i).getD j 0 := by
      intro j
      rw [← hl, Dia.get_getD]
    simp only [hg, Nat.sub_zero, Nat.zero_add, List.length_drop, hls, hsz]

set_option maxRecDepth 100000 in
theorem Tryz.c_decode (s : ByteArray) (i : Nat) (w : World) (hi : i ≤ s.size) (hT : Tryz.Tabs w) :
    Calls Tryz.prog 91 #[.string (s.extract i s.size)] w fun e w' => ∃ x k : Nat, e = .returned (.tuple #[.int .i32 x, .int .i64 k]) ∧ Dia.DecIs s.data.toList i x k ∧ Below w.heap.size w w' :=
  (Tryz.utf8_DecodeRuneInString _ w hT).mono fun _ _ ⟨he, hb⟩ => ⟨_, _, he, Dia.decIs_go s i hi, hb⟩

theorem Dia.next_ret {l : List UInt8} {i x k : Nat} (h : Dia.DecIs l i x k) (hn : ¬ (x = 65533 ∧ k ≤ 1)) :
    (Ending.returned (.tuple #[.int .i32 x, .int .i64 k])) = .returned (.tuple #[.int .i32 (Dia.hd (l.drop i)).1, .int .i64 ((Dia.hd (l.drop i)).2 : Nat)]) := by
  unfold Dia.DecIs at h
  rw [if_neg hn] at h
  rw [h]
theorem Dia.next_ret0 {l : List UInt8} {i x k : Nat} (h : Dia.DecIs l i x k) (hn : x = 65533 ∧ k ≤ 1) :
    (Ending.returned (.tuple #[.int .i32 0, .int .i64 0])) = .returned (.tuple #[.int .i32 (Dia.hd (l.drop i)).1, .int .i64 ((Dia.hd (l.drop i)).2 : Nat)]) := by
  unfold Dia.DecIs at h
  rw [if_pos hn] at h
  rw [h]
  rfl

set_option maxRecDepth 100000 in
set_option maxHeartbeats 400000 in
theorem Tryz.c_next (s : ByteArray) (i : Nat) (w : World) (hi : i ≤ s.size) (_hs : s.size ≤ 9223372036854775807) (hT : Tryz.Tabs w) :
    Calls Tryz.prog 52 #[.string s, .int .i64 i] w fun e w' =>
      e = .returned (.tuple #[.int .i32 (Dia.hd (s.data.toList.drop i)).1, .int .i64 ((Dia.hd (s.data.toList.drop i)).2 : Nat)]) ∧ Below w.heap.size w w' := by
  go_enter Tryz.func52, Tryz.ntmps52
  go_wp2_with (go_at_call 91; refine (Tryz.c_decode s i _ hi hT).mono ?_; rintro e w' ⟨x, k, rfl, hd, hb⟩)
  · go_ret2
    exact ⟨Dia.next_ret0 hd (by omega), hb⟩
  · obtain rfl : x = 65533 := by omega
    go_ret2
    exact ⟨Dia.next_ret hd (by omega), hb⟩
  · go_ret2
    exact ⟨Dia.next_ret hd (by omega), hb⟩

/-- a text read up to a place: the signs ahead of it -/
def Dia.UpTo (l : List UInt8) (i : Nat) (ps : List Int) : Prop := (∀ p ∈ ps, Dia.sc p = true) ∧ l = Dia.encs ps ++ l.drop i ∧ i = (Dia.encs ps).length

theorem Dia.upTo_zero (l : List UInt8) : Dia.UpTo l 0 [] := ⟨by simp, by simp [Dia.encs_nil], by simp [Dia.encs_nil]⟩
theorem Dia.upTo_le {l : List UInt8} {i : Nat} {ps : List Int} (h : Dia.UpTo l i ps) : i ≤ l.length := by
  obtain ⟨_, h1, h2⟩ := h
  have := congrArg List.length h1
  simp at this; omega
theorem Dia.upTo_step {l : List UInt8} {i : Nat} {ps : List Int} (h : Dia.UpTo l i ps) (hn : (Dia.hd (l.drop i)).2 ≠ 0) : Dia.UpTo l (i + (Dia.hd (l.drop i)).2) (ps ++ [(Dia.hd (l.drop i)).1]) := by
  obtain ⟨h0, h1, h2⟩ := h
  obtain ⟨g1, g2, g3⟩ := Dia.hd_some hn
  refine ⟨?_, ?_, ?_⟩
  · intro p hp
    rcases List.mem_append.1 hp with hp | hp
    · exact h0 p hp
    · rw [List.mem_singleton] at hp; subst hp; exact g1
  · rw [Dia.encs_snoc, List.append_assoc, ← List.drop_drop, ← g3]; exact h1
  · rw [Dia.encs_snoc, List.length_append, ← g2]; omega
theorem Dia.upTo_end {l : List UInt8} {i : Nat} {ps : List Int} (h : Dia.UpTo l i ps) (hn : ¬ i < l.length) : Dia.pts l = (ps, -1) := by
  obtain ⟨h0, h1, h2⟩ := h
  rw [List.drop_of_length_le (by omega), List.append_nil] at h1
  rw [h1]; exact Dia.pts_ok ps h0
theorem Dia.upTo_bad {l : List UInt8} {i : Nat} {ps : List Int} (h : Dia.UpTo l i ps) (hi : i < l.length) (hn : (Dia.hd (l.drop i)).2 = 0) : Dia.pts l = ([], (i : Int)) := by
  obtain ⟨h0, h1, h2⟩ := h
  rw [h1, Dia.pts_bad ps h0 _ (by intro e; have := congrArg List.length e; simp at this; omega) hn, ← h2]
theorem Dia.upTo_len {l : List UInt8} {i : Nat} {ps : List Int} (h : Dia.UpTo l i ps) : ps.length ≤ i := by
  obtain ⟨h0, _, h2⟩ := h
  rw [h2]
  exact Dia.encs_len_ge ps h0

/-- a fault's two cells, by a place (-1: none) -/
def Dia.IsFault (pl a b : Int) : Prop := a = (if pl < 0 then 0 else 2) ∧ b = (if pl < 0 then 0 else pl)
theorem Dia.isFault_none : Dia.IsFault (-1) 0 0 := ⟨rfl, rfl⟩
theorem Dia.isFault_at (i : Nat) : Dia.IsFault i 2 i := ⟨by rw [if_neg (by omega)], by rw [if_neg (by omega)]⟩

set_option maxRecDepth 100000 in
set_option maxHeartbeats 400000 in
theorem Tryz.c_Check (s : ByteArray) (w : World) (hs : s.size ≤ 9223372036854775000) (hT : Tryz.Tabs w) :
    Calls Tryz.prog 23 #[.string s] w fun e w' => ∃ a b : Int,
      e = .returned (.agg #[.int .i64 a, .int .i64 b]) ∧ Dia.IsFault (Dia.pts s.data.toList).2 a b ∧ Below w.heap.size w w' := by
  go_enter Tryz.func23, Tryz.ntmps23
  go_wp2
  go_loopw [3, 4, 5] (fun i _ _ wr => ∃ (k : Nat) (ps : List Int), i = .int .i64 k ∧ Dia.UpTo s.data.toList k ps ∧ Below (w.heap.size + 1) (w.alloc (.cells #[.int .i64 0, .int .i64 0] 26)) wr)
    (fun i _ _ _ => s.size - (intOf i).toNat)
  case atStart => exact ⟨0, [], rfl, Dia.upTo_zero _, Below.refl _ _⟩
  case round =>
    obtain ⟨k, ps, rfl, hu, hb⟩ := hrel
    have hk : k ≤ s.size := Dia.upTo_le hu
    have hbw : Below w.heap.size w wr := Aid.below_new hb (Nat.le_refl _)
    have hBr := Aid.new_lt hb
    have hTr : Tryz.Tabs wr := hT.below hbw
    have h4 := Dia.hd_le (s.data.toList.drop k)
    by_cases hlt : k < s.size
    · go_wp2_with (go_at_call 52; refine (Tryz.c_next s k _ hk (by omega) hTr).mono ?_; rintro e w1 ⟨rfl, hb1⟩; obtain ⟨c0, c1, f0, f1⟩ := Aid.cells2 (hb.trans (hb1.mono hBr)))
      · have hz : (((Dia.hd (List.drop k s.data.toList)).2 : Int) == 0) = true := by assumption
        exact bodyPost_ret (v := .agg #[.int .i64 2, .int .i64 k]) (by simp [results, Tryz.results23, go_sem, c0, c1]) rfl ⟨2, k, rfl, by rw [Dia.upTo_bad hu hlt (by simpa using hz)]; exact Dia.isFault_at k,
          ((hbw.trans (hb1.mono (by omega))).setCell (Nat.le_refl _) _).setCell (Nat.le_refl _) _⟩
      · have hz : (((Dia.hd (List.drop k s.data.toList)).2 : Int) == 0) = false := by assumption
        have hz' : (Dia.hd (List.drop k s.data.toList)).2 ≠ 0 := by simpa using hz
        go_roundw
        case rel => exact ⟨k + (Dia.hd (List.drop k s.data.toList)).2, _, by go_num, Dia.upTo_step hu hz', hb.trans (hb1.mono (by omega))⟩
        case measure => simp [intOf]; omega
    · obtain ⟨c0, c1, f0, f1⟩ := Aid.cells2 hb
      go_wp2
      exact bodyPost_ret (v := .agg #[.int .i64 0, .int .i64 0]) (by simp [results, Tryz.results23, go_sem, c0, c1]) rfl ⟨0, 0, rfl, by rw [Dia.upTo_end hu hlt]; exact Dia.isFault_none,
          (hbw.setCell (Nat.le_refl _) _).setCell (Nat.le_refl _) _⟩
end Go.Proofs
