/- walks of point's reference: small functions -/
import Derived.Test.YtfdkolodpealmaaDoorRows
import Derived.Test.YtfdkolodpealmaaDoorShelf
import Derived.Test.YtfdkolodpealmaaDoorAt
import Derived.Test.YtfdkolodpealmaaDoorAid
import Derived.WalkKit
import Derived.WalkSpells
import Derived.WalkLawsBesides
import Derived.BigQuiet
import Derived.Deep.QuietTactic
import Derived.Lib.Hide
namespace Go.Proofs
open Go.RowKit Go.Lib

set_option maxRecDepth 100000 in
set_option maxHeartbeats 400000 in
theorem Tryd.c_Scalar (p : Int) (w : World) :
    Calls Tryd.prog 48 #[.int .i32 p] w fun e w' => e = .returned (.bool (Dia.sc p)) ∧ w = w' := by
  go_enter Tryd.func48, Tryd.ntmps48
  go_wp2_with (go_at_call 62; refine (Tryd.utf8_ValidRune _ _).mono ?_; rintro e w' ⟨rfl, rfl⟩)
  go_ret
  exact ⟨rfl, rfl⟩

theorem Dia.ret_b {a b : Bool} (h : a = b) : Ending.returned (.bool a) = .returned (.bool b) := by rw [h]
theorem Dia.ret_s {a b : ByteArray} (h : a = b) : Ending.returned (.string a) = .returned (.string b) := by rw [h]

set_option maxRecDepth 100000 in
set_option maxHeartbeats 400000 in
theorem Tryd.c_refScalar (p : Int) (w : World) :
    Calls Tryd.prog 54 #[.int .i32 p] w fun e w' => e = .returned (.bool (Dia.sc p)) ∧ w = w' := by
  go_enter Tryd.func54, Tryd.ntmps54
  go_wp2
  all_goals go_ret
  all_goals refine ⟨Dia.ret_b ?_, rfl⟩
  all_goals (rw [Bool.eq_iff_iff, Dia.sc_iff]; simp; omega)

theorem Dia.more_none {l : List UInt8} {i : Nat} (h : ¬ i < l.length) : Dia.more l i = -1 := by
  unfold Dia.more; rw [List.getElem?_eq_none (by omega)]
theorem Dia.more_bad {s : ByteArray} {i : Nat} (h : i < s.size) (hb : (s[i].toNat : Int) < 128 ∨ 191 < (s[i].toNat : Int)) : Dia.more s.data.toList i = -1 := by
  have h' : i < s.data.toList.length := h
  have hb' : s.data.toList[i].toNat < 128 ∨ 191 < s.data.toList[i].toNat := by
    show s[i].toNat < 128 ∨ 191 < s[i].toNat
    omega
  unfold Dia.more; rw [List.getElem?_eq_getElem h']; simp only; rw [if_pos hb']
theorem Dia.more_good {s : ByteArray} {i : Nat} (h : i < s.size) (hb : ¬ ((s[i].toNat : Int) < 128 ∨ 191 < (s[i].toNat : Int))) : Dia.more s.data.toList i = (s[i].toNat : Int) - 128 := by
  have h' : i < s.data.toList.length := h
  have hb' : ¬ (s.data.toList[i].toNat < 128 ∨ 191 < s.data.toList[i].toNat) := by
    show ¬ (s[i].toNat < 128 ∨ 191 < s[i].toNat)
    omega
  unfold Dia.more; rw [List.getElem?_eq_getElem h']; simp only; rw [if_neg hb']; rfl
theorem Dia.ret_i {k : IntKind} {a b : Int} (h : a = b) : Ending.returned (.int k a) = .returned (.int k b) := by rw [h]

set_option maxRecDepth 100000 in
set_option maxHeartbeats 400000 in
theorem Tryd.c_more (s : ByteArray) (i : Nat) (w : World) (_hs : s.size ≤ 9223372036854775807) :
    Calls Tryd.prog 53 #[.string s, .int .i64 i] w fun e w' => e = .returned (.int .i32 (Dia.more s.data.toList i)) ∧ w = w' := by
  by_cases hi : i < s.size
  · go_enter Tryd.func53, Tryd.ntmps53
    go_wp2
    all_goals go_ret
    all_goals refine ⟨Dia.ret_i ?_, rfl⟩
    all_goals first | exact (Dia.more_bad hi (by omega)).symm | exact (Dia.more_good hi (by omega)).symm
  · have h2 := Dia.more_none (l := s.data.toList) hi
    go_enter Tryd.func53, Tryd.ntmps53
    go_wp2
    all_goals go_ret
    all_goals exact ⟨Dia.ret_i h2.symm, rfl⟩

theorem Dia.enc_eq {p : Int} {ns : List Int} (h : Lib.encodeRuneZ p = ns) : strOfNums ns = ⟨(Dia.enc p).toArray⟩ := by
  unfold strOfNums Dia.enc Lib.encodeRune
  rw [h]

set_option maxRecDepth 100000 in
set_option maxHeartbeats 400000 in
theorem Tryd.c_refBytes (p : Int) (w : World) (hp : Dia.sc p = true) :
    Calls Tryd.prog 35 #[.int .i32 p] w fun e w' => e = .returned (.string ⟨(Dia.enc p).toArray⟩) ∧ Below w.heap.size w w' := by
  rcases Dia.sc_cases hp with h | h | h | h
  · have E := Lib.hid (Dia.enc_eq (p := p) (Lib.encodeRuneZ_one (by omega) (by omega)))
    obtain ⟨h0, h1⟩ := h
    clear hp
    go_enter Tryd.func35, Tryd.ntmps35
    go_wp2_with (refine Aid.wpList_conv_ints _ rfl _ _ _ _ rfl Tryd.underlying81 Tryd.underlying5 Tryd.underlying9 ⟨w.heap.size, 0, none⟩ _ [p] _ rfl rfl (Aid.cells_new _ _ _ _ _ rfl) ?_)
    go_ret
    exact ⟨Dia.ret_s E.out, (Below.refl _ _).alloc (Nat.le_refl _) _⟩
  · have E := Lib.hid (Dia.enc_eq (p := p) (Lib.encodeRuneZ_two (by omega) (by omega)))
    obtain ⟨h0, h1⟩ := h
    clear hp
    go_enter Tryd.func35, Tryd.ntmps35
    go_wp2_with (refine Aid.wpList_conv_ints _ rfl _ _ _ _ rfl Tryd.underlying81 Tryd.underlying5 Tryd.underlying9 ⟨w.heap.size, 0, none⟩ _ [192 + p / 64, 128 + p % 64] _ rfl rfl (Aid.cells_new _ _ _ _ _ rfl) ?_)
    go_ret
    exact ⟨Dia.ret_s E.out, (Below.refl _ _).alloc (Nat.le_refl _) _⟩
  · have E := Lib.hid (Dia.enc_eq (p := p) (Lib.encodeRuneZ_three (by omega)))
    have h0 : 2048 ≤ p := by omega
    have h1 : p ≤ 65535 := by omega
    clear hp h
    go_enter Tryd.func35, Tryd.ntmps35
    go_wp2_with (refine Aid.wpList_conv_ints _ rfl _ _ _ _ rfl Tryd.underlying81 Tryd.underlying5 Tryd.underlying9 ⟨w.heap.size, 0, none⟩ _ [224 + p / 4096, 128 + p / 64 % 64, 128 + p % 64] _ rfl rfl (Aid.cells_new _ _ _ _ _ rfl) ?_)
    go_ret
    exact ⟨Dia.ret_s E.out, (Below.refl _ _).alloc (Nat.le_refl _) _⟩
  · have E := Lib.hid (Dia.enc_eq (p := p) (Lib.encodeRuneZ_four (by omega) (by omega)))
    obtain ⟨h0, h1⟩ := h
    clear hp
    go_enter Tryd.func35, Tryd.ntmps35
    go_wp2_with (refine Aid.wpList_conv_ints _ rfl _ _ _ _ rfl Tryd.underlying81 Tryd.underlying5 Tryd.underlying9 ⟨w.heap.size, 0, none⟩ _ [240 + p / 262144, 128 + p / 4096 % 64, 128 + p / 64 % 64, 128 + p % 64] _ rfl rfl (Aid.cells_new _ _ _ _ _ rfl) ?_)
    go_ret
    exact ⟨Dia.ret_s E.out, (Below.refl _ _).alloc (Nat.le_refl _) _⟩
end Go.Proofs
