/- walks of big5: two, pairs; of its reference: Cell, Two; walks of big5's reference: nth -/
import Derived.Test.YtoaojojapebamaaGreatDoorM24
import Derived.Test.YtoaojojapebamaaGreatDoorM17
namespace Go.Proofs
open Go.RowKit

set_option maxRecDepth 100000 in
theorem Tryz.c_btwo (n : Nat) (w : World) (h : n < 65536) :
    Calls Tryz.prog 85 #[.int .i64 n] w fun e w' => e = .returned (.string ⟨(Dia.bigB n 2).toArray⟩) ∧ Below w.heap.size w w' := by
  have HS : Aid.Hid2 (Calls Tryz.prog 46 #[.int .u64 n, .int .i64 2] w fun e w' => e = .returned (.string ⟨(Dia.bigB n 2).toArray⟩) ∧ Below w.heap.size w w') := ⟨Tryz.c_Big n 2 w (by omega) (by decide)⟩
  have e1 : IntKind.u64.wrap (n : Int) = n := by simp [IntKind.wrap, IntKind.signed, IntKind.bits]; omega
  go_enter Tryz.func85, Tryz.ntmps85
  go_wp2_with (go_at_call 46; refine HS.out.mono ?_; rintro e w1 ⟨rfl, hb1⟩)
  go_ret
  exact ⟨rfl, hb1⟩
set_option maxRecDepth 100000 in
theorem Tryz.c_bpairs (w : World) :
    Calls Tryz.prog 83 #[] w fun e w' => e = .returned (.agg #[.int .i64 34914, .int .i32 202, .int .i32 772, .int .i64 34916, .int .i32 202, .int .i32 780, .int .i64 34979, .int .i32 234, .int .i32 772, .int .i64 34981, .int .i32 234, .int .i32 780]) ∧ Below w.heap.size w w' := by
  go_enter Tryz.func83, Tryz.ntmps83
  go_wp2
  exact bodyPost_ret (v := .agg #[.int .i64 34914, .int .i32 202, .int .i32 772, .int .i64 34916, .int .i32 202, .int .i32 780, .int .i64 34979, .int .i32 234, .int .i32 772, .int .i64 34981, .int .i32 234, .int .i32 780]) (by simp [results, Tryz.results83, go_sem]) rfl ⟨rfl, Aid.b1 _ _⟩
def Dia.rcell (b : Int) : Int := if 64 ≤ b ∧ b ≤ 126 then b - 64 else if 161 ≤ b ∧ b ≤ 254 then b - 161 + 63 else -1
def Dia.rtwo (c : Int) : Int × Int := if c = 34914 then (202, 772) else if c = 34916 then (202, 780) else if c = 34979 then (234, 772) else if c = 34981 then (234, 780) else (0, 0)
end Go.Proofs
namespace Go.Proofs
open Go.RowKit

theorem Dia.upTo_get {l : List UInt8} {k : Nat} {ps : List Int} (hu : Dia.UpTo l k ps) (hlt : k < l.length) (hok : (Dia.pts l).2 = -1) :
    (Dia.hd (l.drop k)).2 ≠ 0 ∧ (Dia.pts l).1[ps.length]? = some (Dia.hd (l.drop k)).1 := by
  have hne : (Dia.hd (l.drop k)).2 ≠ 0 := by
    intro h
    rw [Dia.upTo_bad hu hlt h] at hok
    simp at hok
  refine ⟨hne, ?_⟩
  obtain ⟨h0, h1, _⟩ := Dia.upTo_step hu hne
  generalize (Dia.hd (l.drop k)).1 = q at *
  generalize l.drop (k + (Dia.hd (l.drop k)).2) = r at *
  rcases Dia.pts_cases r with ⟨p2, g1, g2, _⟩ | ⟨p2, r2, g1, g3, g4, g2, _⟩
  · have hall : ∀ p ∈ (ps ++ [q]) ++ p2, Dia.sc p = true := fun p hp => by
      rcases List.mem_append.1 hp with h | h
      · exact h0 p h
      · exact g1 p h
    rw [h1, g2, ← Dia.encs_append, Dia.pts_ok _ hall]
    simp
  · exfalso
    have hall : ∀ p ∈ (ps ++ [q]) ++ p2, Dia.sc p = true := fun p hp => by
      rcases List.mem_append.1 hp with h | h
      · exact h0 p h
      · exact g1 p h
    rw [h1, g2, ← List.append_assoc, ← Dia.encs_append, Dia.pts_bad _ hall _ g3 g4] at hok
    simp at hok
end Go.Proofs
