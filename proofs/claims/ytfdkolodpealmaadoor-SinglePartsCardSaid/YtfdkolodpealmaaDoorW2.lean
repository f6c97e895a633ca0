/- walks of point: next, Check, Points, Text -/
import Derived.Test.YtfdkolodpealmaaDoorW1
namespace Go.Proofs
open Go.RowKit

theorem Dia.get_getD (b : ByteArray) (j : Nat) : b.get! j = b.data.toList.getD j 0 := by
  show b.data[j]! = _
  rw [List.getD_eq_getElem?_getD, Array.getElem?_toList, getElem!_def]
  cases b.data[j]? <;> rfl
/-- the library's two tables, as its text lays them -/
def Tryd.Tabs (w : World) : Prop := Lib.Utf8Tabs 0 1 w
theorem Tryd.Tabs.below {w w' : World} (hT : Tryd.Tabs w) (hb : Below w.heap.size w w') : Tryd.Tabs w' :=
  ⟨fun c hc => (hb.cell (World.block_lt_of_cell? w _ (hT.1 c hc))).trans (hT.1 c hc),
   fun i hi => ⟨(hb.cell (World.block_lt_of_cell? w _ (hT.2 i hi).1)).trans (hT.2 i hi).1, (hb.cell (World.block_lt_of_cell? w _ (hT.2 i hi).2)).trans (hT.2 i hi).2⟩⟩
/-- what Go's decoder tells at a place -/
def Dia.DecIs (l : List UInt8) (i : Nat) (x k : Nat) : Prop := Dia.hd (l.drop i) = if x = 65533 ∧ k ≤ 1 then (0, 0) else ((x : Int), k)
theorem Dia.decIs_go (s : ByteArray) (i : Nat) (hi : i ≤ s.size) : Dia.DecIs s.data.toList i (Lib.decodeGo (s.extract i s.size)).1 (Lib.decodeGo (s.extract i s.size)).2 := by
  unfold Dia.DecIs Lib.decodeGo Dia.hd
  have hl : (s.extract i s.size).data.toList = s.data.toList.drop i := by
    simp [ByteArray.data_extract]
    exact List.take_of_length_le (by simp)
  have hsz : (s.extract i s.size).size = s.size - i := by simp
  have hls : s.data.toList.length = s.size := rfl
  by_cases e : i = s.size
  · have h0 : (s.extract i s.size).size = 0 := by omega
    have h1 : s.data.toList.drop i = [] := List.drop_of_length_le (by omega)
    rw [if_pos h0, if_pos h1]
    simp
  · have h0 : ¬ (s.extract i s.size).size = 0 := by omega
    have h1 : s.data.toList.drop i ≠ [] := by
      intro h; have := congrArg List.length h; simp at this; omega
    rw [if_neg h0, if_neg h1, Lib.decode_at]
    have hg : ∀ j, ((s.extract i s.size).get! j) = (s.data.toList.drop i).getD j 0 := by
      intro j
      rw [← hl, Dia.get_getD]
    simp only [hg, Nat.sub_zero, Nat.zero_add, List.length_drop, hls, hsz]

set_option maxRecDepth 100000 in
theorem Tryd.c_decode (s : ByteArray) (i : Nat) (w : World) (hi : i ≤ s.size) (hT : Tryd.Tabs w) :
    Calls Tryd.prog 64 #[.string (s.extract i s.size)] w fun e w' => ∃ x k : Nat, e = .returned (.tuple #[.int .i32 x, .int .i64 k]) ∧ Dia.DecIs s.data.toList i x k ∧ Below w.heap.size w w' :=
  (Tryd.utf8_DecodeRuneInString _ w hT).mono fun _ _ ⟨he, hb⟩ => ⟨_, _, he, Dia.decIs_go s i hi, hb⟩

theorem Dia.next_ret {l : List UInt8} {i x k : Nat} (h : Dia.DecIs l i x k) (hn : ¬ (x = 65533 ∧ k ≤ 1)) :
    (Ending.returned (.tuple #[.int .i32 x, .int .i64 k])) = .returned (.tuple #[.int .i32 (Dia.hd (l.drop i)).1, .int .i64 ((Dia.hd (l.drop i)).2 : Nat)]) := by
  unfold Dia.DecIs at h
  rw [if_neg hn] at h
  rw [h]
theorem Dia.next_ret0 {l : List UInt8} {i x k : Nat} (h : Dia.DecIs l i x k) (hn : x = 65533 ∧ k ≤ 1) :
    (Ending.returned (.tuple #[.int .i32 0, .int .i64 0])) = .returned (.tuple #[.int .i32 (Dia.hd (l.drop i)).1, .int .i64 ((Dia.hd (l.drop i)).2 : Nat)]) := by
  unfold Dia.DecIs at h
  rw [if_pos hn] at h
  rw [h]
  rfl

set_option maxRecDepth 100000 in
set_option maxHeartbeats 400000 in
theorem Tryd.c_next (s : ByteArray) (i : Nat) (w : World) (hi : i ≤ s.size) (_hs : s.size ≤ 9223372036854775807) (hT : Tryd.Tabs w) :
    Calls Tryd.prog 50 #[.string s, .int .i64 i] w fun e w' =>
      e = .returned (.tuple #[.int .i32 (Dia.hd (s.data.toList.drop i)).1, .int .i64 ((Dia.hd (s.data.toList.drop i)).2 : Nat)]) ∧ Below w.heap.size w w' := by
  go_enter Tryd.func50, Tryd.ntmps50
  go_wp2_with (go_at_call 64; refine (Tryd.c_decode s i _ hi hT).mono ?_; rintro e w' ⟨x, k, rfl, hd, hb⟩)
  · go_ret2
    exact ⟨Dia.next_ret0 hd (by omega), hb⟩
  · obtain rfl : x = 65533 := by omega
    go_ret2
    exact ⟨Dia.next_ret hd (by omega), hb⟩
  · go_ret2
    exact ⟨Dia.next_ret hd (by omega), hb⟩

/-- a text read up to a place: the signs ahead of it -/
def Dia.UpTo (l : List UInt8) (i : Nat) (ps : List Int) : Prop := (∀ p ∈ ps, Dia.sc p = true) ∧ l = Dia.encs ps ++ l.drop i ∧ i = (Dia.encs ps).length

theorem Dia.upTo_zero (l : List UInt8) : Dia.UpTo l 0 [] := ⟨by simp, by simp [Dia.encs_nil], by simp [Dia.encs_nil]⟩
theorem Dia.upTo_le {l : List UInt8} {i : Nat} {ps : List Int} (h : Dia.UpTo l i ps) : i ≤ l.length := by
  obtain ⟨_, h1, h2⟩ := h
  have := congrArg List.length h1
  simp at this; omega
theorem Dia.upTo_step {l : List UInt8} {i : Nat} {ps : List Int} (h : Dia.UpTo l i ps) (hn : (Dia.hd (l.drop i)).2 ≠ 0) : Dia.UpTo l (i + (Dia.hd (l.drop i)).2) (ps ++ [(Dia.hd (l.drop i)).1]) := by
  obtain ⟨h0, h1, h2⟩ := h
  obtain ⟨g1, g2, g3⟩ := Dia.hd_some hn
  refine ⟨?_, ?_, ?_⟩
  · intro p hp
    rcases List.mem_append.1 hp with hp | hp
    · exact h0 p hp
    · rw [List.mem_singleton] at hp; subst hp; exact g1
  · rw [Dia.encs_snoc, List.append_assoc, ← List.drop_drop, ← g3]; exact h1
  · rw [Dia.encs_snoc, List.length_append, ← g2]; omega
theorem Dia.upTo_end {l : List UInt8} {i : Nat} {ps : List Int} (h : Dia.UpTo l i ps) (hn : ¬ i < l.length) : Dia.pts l = (ps, -1) := by
  obtain ⟨h0, h1, h2⟩ := h
  rw [List.drop_of_length_le (by omega), List.append_nil] at h1
  rw [h1]; exact Dia.pts_ok ps h0
theorem Dia.upTo_bad {l : List UInt8} {i : Nat} {ps : List Int} (h : Dia.UpTo l i ps) (hi : i < l.length) (hn : (Dia.hd (l.drop i)).2 = 0) : Dia.pts l = ([], (i : Int)) := by
  obtain ⟨h0, h1, h2⟩ := h
  rw [h1, Dia.pts_bad ps h0 _ (by intro e; have := congrArg List.length e; simp at this; omega) hn, ← h2]
theorem Dia.upTo_len {l : List UInt8} {i : Nat} {ps : List Int} (h : Dia.UpTo l i ps) : ps.length ≤ i := by
  obtain ⟨h0, _, h2⟩ := h
  rw [h2]
  exact Dia.encs_len_ge ps h0

/-- a fault's two cells, by a place (-1: none) -/
def Dia.IsFault (pl a b : Int) : Prop := a = (if pl < 0 then 0 else 2) ∧ b = (if pl < 0 then 0 else pl)
theorem Dia.isFault_none : Dia.IsFault (-1) 0 0 := ⟨rfl, rfl⟩
theorem Dia.isFault_at (i : Nat) : Dia.IsFault i 2 i := ⟨by rw [if_neg (by omega)], by rw [if_neg (by omega)]⟩

end Go.Proofs
