/- walks of octet: Big, Small, Join -/
import Derived.Test.YtoaojojapebamaaGreatDoorM06
import Derived.Laws.DeepBits32
namespace Go.Proofs
open Go.RowKit

/-- a number in so many bytes, the highest first -/
def Dia.bigB (x n : Nat) : List UInt8 := (List.range n).map fun j => (x / 256 ^ (n - 1 - j) % 256).toUInt8
def Dia.smallB (x n : Nat) : List UInt8 := (List.range n).map fun j => (x / 256 ^ j % 256).toUInt8
theorem Dia.bigB_len (x n : Nat) : (Dia.bigB x n).length = n := by simp [Dia.bigB]
theorem Dia.smallB_len (x n : Nat) : (Dia.smallB x n).length = n := by simp [Dia.smallB]

theorem Dia.pow_256 (m : Nat) : 256 ^ m = 2 ^ (8 * m) := by rw [Nat.pow_mul]
theorem Dia.byte_cell (x m : Nat) : Dia.bv ((x / 256 ^ m % 256).toUInt8) = .int .u8 ((x : Int) / 2 ^ (8 * m) % 256) := by
  unfold Dia.bv
  rw [Dia.u8 _ (Nat.mod_lt _ (by decide)), Dia.pow_256]
  congr 1
theorem Dia.big_snoc (x n k : Nat) (hk : k < n) : ((Dia.bigB x n).take (k + 1)).map Dia.bv = ((Dia.bigB x n).take k).map Dia.bv ++ [.int .u8 ((x : Int) / 2 ^ (8 * (n - 1 - k)) % 256)] := by
  rw [Dia.take_snoc _ k (by rw [Dia.bigB_len]; exact hk), List.map_append]
  congr 1
  rw [← Dia.byte_cell]
  simp [Dia.bigB]
theorem Dia.small_snoc (x n k : Nat) (hk : k < n) : ((Dia.smallB x n).take (k + 1)).map Dia.bv = ((Dia.smallB x n).take k).map Dia.bv ++ [.int .u8 ((x : Int) / 2 ^ (8 * k) % 256)] := by
  rw [Dia.take_snoc _ k (by rw [Dia.smallB_len]; exact hk), List.map_append]
  congr 1
  rw [← Dia.byte_cell]
  simp [Dia.smallB]

set_option maxRecDepth 100000 in
set_option maxHeartbeats 400000 in
theorem Tryz.c_Big (x n : Nat) (w : World) (_hx : x < 18446744073709551616) (hn : n ≤ 8) :
    Calls Tryz.prog 46 #[.int .u64 x, .int .i64 n] w fun e w' => e = .returned (.string ⟨(Dia.bigB x n).toArray⟩) ∧ Below w.heap.size w w' := by
  obtain ⟨i0, hi, hz0, hz1, hz2⟩ := info_parts Tryz.info_u8
  go_enter Tryz.func46, Tryz.ntmps46
  go_wp2
  go_loopw [5, 6] (fun v i wr => ∃ k : Nat, k ≤ n ∧ i = .int .i64 ((n : Int) - 1 - k) ∧ wr.ownsRow w.heap.size 5 1 v k (((Dia.bigB x n).take k).map Dia.bv) ∧ Below w.heap.size w wr)
    (fun _ i _ => (intOf i + 1).toNat)
  case atStart => exact ⟨0, Nat.zero_le _, by go_num, World.ownsRow_nil _ _ _ _, Below.refl _ _⟩
  case round =>
    obtain ⟨k, hk, rfl, hown, hb⟩ := hrel
    by_cases hlt : k < n
    · have HS := Lib.hid (Dia.big_snoc x n k hlt)
      go_wp2_with (at_builtin; refine Aid.wpList_app1 (w0 := w) _ rfl _ _ 35 5 1 1 rfl Tryz.underlying35 i0 _ hi hz0 hz1 hz2 rfl (by decide) w.heap.size _ _ _ #[.int .u8 ((x : Int) / 2 ^ (8 * (n - 1 - k)) % 256)] _ rfl _ rfl hown hb hb.size rfl rfl ?_ ?_ ?_ ?_)
      · simp [Value.oneCell']
      · omega
      · omega
      · intro v' w2 hown2 hb2 hsz2 _
        go_wp2
        go_roundw
        case rel => exact ⟨k + 1, by omega, by go_num, by rw [HS.out, List.map_take]; exact hown2, hb2⟩
        case measure => simp [intOf]; omega
    · obtain rfl : k = n := by omega
      have e : (Dia.bigB x k).take k = Dia.bigB x k := List.take_of_length_le (by rw [Dia.bigB_len]; omega)
      rw [e] at hown
      go_wp2_with (refine Aid.wpList_conv_own _ rfl _ _ _ _ rfl Tryz.underlying35 Tryz.underlying5 Tryz.underlying9 _ _ _ (Dia.bigB x k) rfl hown ?_)
      go_ret
      exact ⟨rfl, hb⟩

set_option maxRecDepth 100000 in
set_option maxHeartbeats 400000 in
theorem Tryz.c_Small (x n : Nat) (w : World) (_hx : x < 18446744073709551616) (hn : n ≤ 8) :
    Calls Tryz.prog 89 #[.int .u64 x, .int .i64 n] w fun e w' => e = .returned (.string ⟨(Dia.smallB x n).toArray⟩) ∧ Below w.heap.size w w' := by
  obtain ⟨i0, hi, hz0, hz1, hz2⟩ := info_parts Tryz.info_u8
  go_enter Tryz.func89, Tryz.ntmps89
  go_wp2
  go_loopw [5, 6, 10] (fun v _ i wr => ∃ k : Nat, k ≤ n ∧ i = .int .i64 k ∧ wr.ownsRow w.heap.size 5 1 v k (((Dia.smallB x n).take k).map Dia.bv) ∧ Below w.heap.size w wr)
    (fun _ _ i _ => n - (intOf i).toNat)
  case atStart => exact ⟨0, Nat.zero_le _, by go_num, World.ownsRow_nil _ _ _ _, Below.refl _ _⟩
  case round =>
    obtain ⟨k, hk, rfl, hown, hb⟩ := hrel
    by_cases hlt : k < n
    · have HS := Lib.hid (Dia.small_snoc x n k hlt)
      go_wp2_with (at_builtin; refine Aid.wpList_app1 (w0 := w) _ rfl _ _ 35 5 1 1 rfl Tryz.underlying35 i0 _ hi hz0 hz1 hz2 rfl (by decide) w.heap.size _ _ _ #[.int .u8 ((x : Int) / 2 ^ (8 * k) % 256)] _ rfl _ rfl hown hb hb.size rfl rfl ?_ ?_ ?_ ?_)
      · simp [Value.oneCell']
      · omega
      · omega
      · intro v' w2 hown2 hb2 hsz2 _
        go_wp2
        go_roundw
        case rel => exact ⟨k + 1, by omega, by go_num, by rw [HS.out, List.map_take]; exact hown2, hb2⟩
        case measure => simp [intOf]; omega
    · obtain rfl : k = n := by omega
      have e : (Dia.smallB x k).take k = Dia.smallB x k := List.take_of_length_le (by rw [Dia.smallB_len]; omega)
      rw [e] at hown
      go_wp2_with (refine Aid.wpList_conv_own _ rfl _ _ _ _ rfl Tryz.underlying35 Tryz.underlying5 Tryz.underlying9 _ _ _ (Dia.smallB x k) rfl hown ?_)
      go_ret
      exact ⟨rfl, hb⟩

theorem Dia.join_nil : ∀ (l : List (List UInt8)), Lib.join l [] = l.flatten
  | [] => rfl
  | [x] => by simp [Lib.join]
  | x :: y :: r => by
    have ih := Dia.join_nil (y :: r)
    simp only [Lib.join] at ih ⊢
    simp [ih]
/-- texts, one behind the other -/
theorem Tryz.c_Join (a : Option Addr) (c : Nat) (xs : List ByteArray) (w : World) (hrow : Aid.RowAt w a (xs.map Value.string)) (hcap : xs.length ≤ c) (hN : xs.length ≤ 1000000) (hlen : (xs.map (·.data.toList)).flatten.length ≤ 100000000) :
    Calls Tryz.prog 47 #[.slice a xs.length c] w fun e w' => e = .returned (.string ⟨((xs.map (·.data.toList)).flatten).toArray⟩) ∧ Below w.heap.size w w' := by
  have HJ : Aid.Hid2 (Calls Tryz.prog 88 #[.slice a xs.length c, .string ⟨#[]⟩] w fun e w' => e = .returned (.string ⟨((xs.map (·.data.toList)).flatten).toArray⟩) ∧ Below w.heap.size w w') := ⟨by
    rcases hrow with h | ⟨b, off, rfl, h⟩
    · have hx : xs = [] := by simpa using h
      subst hx
      exact (Tryz.strings_Join_none a c ⟨#[]⟩ w).mono fun e w' ⟨h1, h2⟩ => ⟨h1, by rw [h2]; exact Below.refl _ _⟩
    · by_cases hx : xs = []
      · subst hx
        exact (Tryz.strings_Join_none _ c ⟨#[]⟩ w).mono fun e w' ⟨h1, h2⟩ => ⟨h1, by rw [h2]; exact Below.refl _ _⟩
      · have hj := Dia.join_nil (xs.map (·.data.toList))
        have h0 : 0 < xs.length := by
          cases xs with
          | nil => exact absurd rfl hx
          | cons x r => simp
        have hlt := World.block_lt_of_cell? w _ (h 0 (.string xs[0]) (by rw [List.getElem?_map, List.getElem?_eq_getElem h0]; rfl))
        have e0 : (⟨#[]⟩ : ByteArray).data.toList = [] := rfl
        have := Tryz.strings_Join b off c xs ⟨#[]⟩ w (fun j x hj => h j (.string x) (by rw [List.getElem?_map, hj]; rfl)) hlt (by omega) hcap (by rw [e0, hj]; omega)
        rw [e0, hj] at this
        exact this⟩
  clear hlen hrow
  go_enter Tryz.func47, Tryz.ntmps47
  go_wp2_with (go_at_call 88; refine HJ.out.mono ?_; rintro e w1 ⟨rfl, hb1⟩)
  go_ret
  exact ⟨rfl, hb1⟩
end Go.Proofs
