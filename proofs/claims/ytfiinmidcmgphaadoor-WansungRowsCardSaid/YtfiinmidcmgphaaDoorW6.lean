/- walks of point and its reference: the rest -/
import Derived.Test.YtfiinmidcmgphaaDoorW5
namespace Go.Proofs
open Go.RowKit

theorem Dia.str_app (x y : List UInt8) : (⟨x.toArray⟩ : ByteArray) ++ ⟨y.toArray⟩ = ⟨(x ++ y).toArray⟩ := by
  apply ByteArray.ext; simp

set_option maxRecDepth 100000 in
theorem Tryd.c_Bad (a b : Int) (w : World) :
    Calls Tryd.prog 74 #[.agg #[.int .i64 a, .int .i64 b]] w fun e w' => e = .returned (.bool (a != 0)) ∧ Below w.heap.size w w' := by
  go_enter Tryd.func74, Tryd.ntmps74
  go_wp2
  go_ret
  exact ⟨rfl, (Below.refl _ _).alloc (Nat.le_refl _) _⟩

set_option maxRecDepth 100000 in
theorem Tryd.c_Bad_no (b : Int) (w : World) : Calls Tryd.prog 74 #[.agg #[.int .i64 0, .int .i64 b]] w fun e w' => e = .returned (.bool false) ∧ Below w.heap.size w w' := Tryd.c_Bad 0 b w
set_option maxRecDepth 100000 in
theorem Tryd.c_Bad_yes (b : Int) (w : World) : Calls Tryd.prog 74 #[.agg #[.int .i64 2, .int .i64 b]] w fun e w' => e = .returned (.bool true) ∧ Below w.heap.size w w' := Tryd.c_Bad 2 b w

end Go.Proofs
