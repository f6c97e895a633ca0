/- walks of big5's reference: leads, Code -/
import Derived.Test.YtdbpliheggbmdaaDoorBe
import Derived.BigQuiet
import Derived.Deep.QuietTactic
namespace Go.Proofs
open Go.RowKit

def Dia.leadL : List Int := [136, 161, 163, 164, 165]
def Dia.iv (x : Int) : Value := .int .i64 x
set_option maxRecDepth 100000 in
theorem Tryd.c_leads (w : World) :
    Calls Tryd.prog 28 #[] w fun e w' => ∃ a, e = .returned (.slice (some a) 5 5) ∧ Aid.RowAt w' (some a) (Dia.leadL.map Dia.iv) ∧ Below w.heap.size w w' := by
  go_enter Tryd.func28, Tryd.ntmps28
  go_wp2
  go_ret
  exact ⟨_, rfl, Aid.row_new _ _ _ _ rfl, Aid.b1 _ _⟩
theorem Dia.btwoC_of (b p q : Int) (h : Dia.rtwo (34816 + b) = (p, q)) (hp : p ≠ 0) : Dia.btwoC p q = 34816 + b := by
  unfold Dia.rtwo at h
  repeat' split at h
  all_goals (cases h; first | exact absurd rfl hp | (rename_i e; rw [e]; rfl) | (rename_i _ e; rw [e]; rfl) | skip)
theorem Dia.btwoC_no (p q : Int) (h : ∀ b : Int, 64 ≤ b → b < 255 → ¬ ((Dia.rtwo (34816 + b)).1 ≠ 0 ∧ (Dia.rtwo (34816 + b)).1 = p ∧ (Dia.rtwo (34816 + b)).2 = q)) : Dia.btwoC p q = 0 := by
  unfold Dia.btwoC
  split
  · rename_i e; exact absurd ⟨by decide, by rw [e.1]; rfl, by rw [e.2]; rfl⟩ (h 98 (by decide) (by decide))
  split
  · rename_i e; exact absurd ⟨by decide, by rw [e.1]; rfl, by rw [e.2]; rfl⟩ (h 100 (by decide) (by decide))
  split
  · rename_i e; exact absurd ⟨by decide, by rw [e.1]; rfl, by rw [e.2]; rfl⟩ (h 163 (by decide) (by decide))
  split
  · rename_i e; exact absurd ⟨by decide, by rw [e.1]; rfl, by rw [e.2]; rfl⟩ (h 165 (by decide) (by decide))
  rfl
end Go.Proofs
