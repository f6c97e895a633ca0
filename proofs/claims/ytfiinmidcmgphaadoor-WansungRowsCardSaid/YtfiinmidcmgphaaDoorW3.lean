/- walks of point: Text, Points -/
import Derived.Test.YtfiinmidcmgphaaDoorW2
namespace Go.Proofs
open Go.RowKit

def Dia.bv (b : UInt8) : Value := .int .u8 b.toNat
def Dia.rv (p : Int) : Value := .int .i32 p
theorem Dia.runeCells_eq (p : Int) : Lib.runeCells p = (Dia.enc p).map Dia.bv := by
  unfold Lib.runeCells Dia.enc Lib.encodeRune
  rw [List.map_map]
  refine List.map_congr_left fun x hx => ?_
  have := Lib.encodeRuneZ_byte p x hx
  show Value.int .u8 x = Value.int .u8 ((x.toNat.toUInt8).toNat : Int)
  rw [Dia.u8 _ (by omega)]
  congr 1
  omega

/-- signs as a text, and whether all are -/
def Dia.txt (l : List Int) : List UInt8 × Bool := if l.all Dia.sc then (Dia.encs l, true) else ([], false)
theorem Dia.txt_ok {l : List Int} (h : ∀ p ∈ l, Dia.sc p = true) : Dia.txt l = (Dia.encs l, true) := by
  unfold Dia.txt; rw [if_pos (by simpa using h)]
theorem Dia.txt_bad {l : List Int} {p : Int} (hp : p ∈ l) (h : Dia.sc p = false) : Dia.txt l = ([], false) := by
  unfold Dia.txt; rw [if_neg (by simp; exact ⟨p, hp, h⟩)]
theorem Dia.encs_le : ∀ (l : List Int), (Dia.encs l).length ≤ 4 * l.length
  | [] => by simp [Dia.encs_nil]
  | p :: l => by
    have h1 : (Dia.enc p).length ≤ 4 := by
      unfold Dia.enc Lib.encodeRune Lib.encodeRuneZ
      rw [List.length_map]
      repeat' split
      all_goals simp
    have h2 := Dia.encs_le l
    rw [Dia.encs_cons, List.length_append, List.length_cons]; omega
theorem Dia.take_snoc {α : Type} (l : List α) (k : Nat) (h : k < l.length) : l.take (k + 1) = l.take k ++ [l[k]] := by
  rw [List.take_succ_eq_append_getElem h]

theorem Tryd.info_u8 : (Tryd.prog.info? 5).map (fun i => (i.zero, i.size, i.bytes)) = some (some (.int .u8 0), 1, 1) := by kernel_rfl
theorem Tryd.info_i32 : (Tryd.prog.info? 21).map (fun i => (i.zero, i.size, i.bytes)) = some (some (.int .i32 0), 1, 4) := by kernel_rfl

end Go.Proofs
