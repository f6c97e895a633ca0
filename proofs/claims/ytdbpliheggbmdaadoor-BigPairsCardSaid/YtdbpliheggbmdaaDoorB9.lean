/- walks of big5's reference: row, One -/
import Derived.Test.YtdbpliheggbmdaaDoorB5
import Derived.Test.YtdbpliheggbmdaaDoorB8
namespace Go.Proofs
open Go.RowKit

def Dia.rowT (lead : Int) : List UInt8 := if lead = 136 then Dia.rowT136 else if lead = 161 then Dia.rowT161 else if lead = 163 then Dia.rowT163 else if lead = 164 then Dia.rowT164 else if lead = 165 then Dia.rowT165 else []
theorem Dia.rowT_pts (lead : Int) : Dia.pts (Dia.rowT lead) = (Dia.rowP lead, -1) := by
  unfold Dia.rowT Dia.rowP
  repeat' split
  · exact Dia.row_pts136
  · exact Dia.row_pts161
  · exact Dia.row_pts163
  · exact Dia.row_pts164
  · exact Dia.row_pts165
  · rfl
set_option maxRecDepth 100000 in
theorem Tryd.c_rrow (l : Int) (w : World) :
    Calls Tryd.prog 29 #[.int .i64 l] w fun e w' => ∃ s : ByteArray, Aid.Hid2 (s = ⟨(Dia.rowT l).toArray⟩) ∧ e = .returned (.string s) ∧ w = w' := by
  by_cases e1 : l = 136
  · subst e1
    go_enter Tryd.func29, Tryd.ntmps29
    go_wp2
    go_ret
    exact ⟨_, ⟨by kernel_rfl⟩, rfl, rfl⟩
  by_cases e2 : l = 161
  · subst e2
    go_enter Tryd.func29, Tryd.ntmps29
    go_wp2
    go_ret
    exact ⟨_, ⟨by kernel_rfl⟩, rfl, rfl⟩
  by_cases e3 : l = 163
  · subst e3
    go_enter Tryd.func29, Tryd.ntmps29
    go_wp2
    go_ret
    exact ⟨_, ⟨by kernel_rfl⟩, rfl, rfl⟩
  by_cases e4 : l = 164
  · subst e4
    go_enter Tryd.func29, Tryd.ntmps29
    go_wp2
    go_ret
    exact ⟨_, ⟨by kernel_rfl⟩, rfl, rfl⟩
  by_cases e5 : l = 165
  · subst e5
    go_enter Tryd.func29, Tryd.ntmps29
    go_wp2
    go_ret
    exact ⟨_, ⟨by kernel_rfl⟩, rfl, rfl⟩
  have HR : Aid.Hid2 ((⟨#[]⟩ : ByteArray) = ⟨(Dia.rowT l).toArray⟩) := ⟨by unfold Dia.rowT; rw [if_neg e1, if_neg e2, if_neg e3, if_neg e4, if_neg e5]⟩
  go_enter Tryd.func29, Tryd.ntmps29
  go_wp2
  go_ret
  exact ⟨_, HR, rfl, rfl⟩
end Go.Proofs
