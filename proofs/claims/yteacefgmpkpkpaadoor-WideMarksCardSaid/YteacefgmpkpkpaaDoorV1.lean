/- walks of octet and wide: small functions -/
import Derived.Test.YteacefgmpkpkpaaDoorW7
import Derived.Test.YteacefgmpkpkpaaDoorWide
import Derived.Laws.DeepBits32
namespace Go.Proofs
open Go.RowKit

theorem Dia.or_hi (a b : Nat) (hb : b < 256) : a * 256 ||| b = a * 256 + b := by
  have h := Nat.shiftLeft_add_eq_or_of_lt (i := 8) (b := b) (by omega) a
  rw [Nat.shiftLeft_eq] at h
  exact h.symm
theorem Dia.i32_or_hi (a b : Nat) (ha : a < 256) (hb : b < 256) : bits .or .i32 (wrap32 (wrap32 (a : Int) * 256)) (wrap32 (b : Int)) = (a : Int) * 256 + b := by
  have e1 : wrap32 (a : Int) = a := by unfold wrap32; omega
  have e2 : wrap32 (b : Int) = b := by unfold wrap32; omega
  have e3 : wrap32 ((a : Int) * 256) = ((a * 256 : Nat) : Int) := by unfold wrap32; omega
  rw [e1, e2, e3]
  show IntKind.i32.wrap ((BitVec.ofInt 32 ((a * 256 : Nat) : Int) ||| BitVec.ofInt 32 (b : Int)).toNat : Int) = _
  rw [BitVec.toNat_or, ofInt_u32 _ (by omega), ofInt_u32 b (by omega), Dia.or_hi a b hb]
  rw [wrap_i32_small _ (by omega) (by omega)]
  omega
theorem Dia.un_bytes (s : ByteArray) (i : Nat) (big : Bool) (hi : i + 1 < s.size) : Dia.un s.data.toList i big = if big then (s[i].toNat : Int) * 256 + s[i + 1].toNat else (s[i + 1].toNat : Int) * 256 + s[i].toNat := by
  unfold Dia.un Dia.unit
  have h1 : s.data.toList.getD i 0 = s[i] := by
    rw [List.getD_eq_getElem?_getD, List.getElem?_eq_getElem (show i < s.data.toList.length by show i < s.size; omega)]; rfl
  have h2 : s.data.toList.getD (i + 1) 0 = s[i + 1] := by
    rw [List.getD_eq_getElem?_getD, List.getElem?_eq_getElem (show i + 1 < s.data.toList.length from hi)]; rfl
  rw [h1, h2]

set_option maxRecDepth 100000 in
set_option maxHeartbeats 400000 in
theorem Tryd.c_unit (s : ByteArray) (i : Nat) (big : Bool) (w : World) (hi : i + 1 < s.size) (hs : s.size ≤ 1000000) :
    Calls Tryd.prog 20 #[.string s, .int .i64 i, .bool big] w fun e w' => e = .returned (.int .i32 (Dia.un s.data.toList i big)) ∧ Below w.heap.size w w' := by
  have h1 : (i : Int) < (s.size : Int) := by omega
  have h2 : (i : Int) + 1 < (s.size : Int) := by omega
  have hw : IntKind.i64.wrap ((i : Int) + 1) = (i : Int) + 1 := IntWalk.i64_in _ (by omega)
  have h3 : (0 : Int) ≤ (i : Int) + 1 := by omega
  have h4 : ((i : Int) + 1).toNat = i + 1 := by omega
  cases big
  · have E := Aid.Hid2.mk (Dia.un_bytes s i false hi)
    go_enter Tryd.func20, Tryd.ntmps20
    go_wp2_with fail
    go_quiet (fail)
    go_wp2
    go_ret
    exact ⟨Dia.ret_i (by rw [E.out]; exact Dia.i32_or_hi _ _ (UInt8.toNat_lt _) (UInt8.toNat_lt _)), below_drewN (Below.refl _ _) _⟩
  · have E := Aid.Hid2.mk (Dia.un_bytes s i true hi)
    go_enter Tryd.func20, Tryd.ntmps20
    go_wp2_with fail
    go_quiet (fail)
    go_wp2
    go_ret
    exact ⟨Dia.ret_i (by rw [E.out]; exact Dia.i32_or_hi _ _ (UInt8.toNat_lt _) (UInt8.toNat_lt _)), below_drewN (Below.refl _ _) _⟩

set_option maxRecDepth 100000 in
set_option maxHeartbeats 400000 in
theorem Tryd.c_pair (u v : Int) (w : World) (hu : 0 ≤ u ∧ u ≤ 65535) (hv : 0 ≤ v ∧ v ≤ 65535) :
    Calls Tryd.prog 22 #[.int .i32 u, .int .i32 v] w fun e w' => e = .returned (.tuple #[.int .i32 (Dia.pairv u v).1, .bool (Dia.pairv u v).2]) ∧ w = w' := by
  obtain ⟨hu0, hu1⟩ := hu
  obtain ⟨hv0, hv1⟩ := hv
  by_cases c : u < 55296 ∨ 56319 < u ∨ v < 56320 ∨ 57343 < v
  · have E : Aid.Hid2 (Dia.pairv u v = (0, false)) := ⟨by unfold Dia.pairv; rw [if_pos c]⟩
    go_enter Tryd.func22, Tryd.ntmps22
    go_wp2
    all_goals first
      | (exfalso; omega)
      | (go_ret2
         rw [E.out]
         exact ⟨rfl, rfl⟩)
  · have E : Aid.Hid2 (Dia.pairv u v = (65536 + (u - 55296) * 1024 + (v - 56320), true)) := ⟨by unfold Dia.pairv; rw [if_neg c]⟩
    go_enter Tryd.func22, Tryd.ntmps22
    go_wp2
    all_goals first
      | (exfalso; omega)
      | (go_ret2
         rw [E.out]
         exact ⟨rfl, rfl⟩)
end Go.Proofs
