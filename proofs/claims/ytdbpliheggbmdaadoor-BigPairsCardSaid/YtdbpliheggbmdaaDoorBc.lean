/- walks of big5: Signs -/
import Derived.Test.YtdbpliheggbmdaaDoorBb
namespace Go.Proofs
open Go.RowKit

def Dia.bsigns (l b : Int) : List UInt8 × Bool :=
  if (Dia.bcell b).2 = false ∨ l < 129 ∨ l = 255 then ([], false)
  else if (Dia.rtwo (l * 256 + b)).1 ≠ 0 then (Dia.enc (Dia.rtwo (l * 256 + b)).1 ++ Dia.enc (Dia.rtwo (l * 256 + b)).2, true)
  else if (Dia.fwdl Dia.bigL ((l - 129) * 157 + (Dia.bcell b).1)).2 = true then (Dia.enc (Dia.fwdl Dia.bigL ((l - 129) * 157 + (Dia.bcell b).1)).1, true) else ([], false)
/-- which of the four codes a code isn't -/
def Dia.bpre (k c : Int) : Prop := (0 < k → c ≠ 34914) ∧ (1 < k → c ≠ 34916) ∧ (2 < k → c ≠ 34979) ∧ (3 < k → c ≠ 34981)
theorem Dia.bpre_0 (c : Int) : Dia.bpre 0 c := ⟨fun h => by omega, fun h => by omega, fun h => by omega, fun h => by omega⟩
theorem Dia.bpre_1 {c : Int} (_h : Dia.bpre 0 c) (hc : ¬ c = 34914) : Dia.bpre 1 c := ⟨fun _ => hc, fun h => by omega, fun h => by omega, fun h => by omega⟩
theorem Dia.bpre_2 {c : Int} (h : Dia.bpre 1 c) (hc : ¬ c = 34916) : Dia.bpre 2 c := ⟨fun _ => h.1 (by omega), fun _ => hc, fun h => by omega, fun h => by omega⟩
theorem Dia.bpre_3 {c : Int} (h : Dia.bpre 2 c) (hc : ¬ c = 34979) : Dia.bpre 3 c := ⟨fun _ => h.1 (by omega), fun _ => h.2.1 (by omega), fun _ => hc, fun h => by omega⟩
theorem Dia.bpre_4 {c : Int} (h : Dia.bpre 3 c) (hc : ¬ c = 34981) : Dia.bpre 4 c := ⟨fun _ => h.1 (by omega), fun _ => h.2.1 (by omega), fun _ => h.2.2.1 (by omega), fun _ => hc⟩
theorem Dia.bpre_two {c : Int} (h : Dia.bpre 4 c) : Dia.rtwo c = (0, 0) := by
  obtain ⟨h0, h1, h2, h3⟩ := h
  unfold Dia.rtwo
  rw [if_neg (h0 (by omega)), if_neg (h1 (by omega)), if_neg (h2 (by omega)), if_neg (h3 (by omega))]
theorem Tryd.c_Text2 (C : Array Value) (T : TypeId) (p q : Int) (w0 : World) (hC : C[1]? = some (.int .i32 p) ∧ C[2]? = some (.int .i32 q)) (hp : Dia.sc p = true) (hq : Dia.sc q = true) :
    Calls Tryd.prog 17 #[.slice (some ⟨w0.heap.size, 1, none⟩) 2 2] (w0.alloc (.cells C T)) fun e w' => e = .returned (.tuple #[.string ⟨(Dia.enc p ++ Dia.enc q).toArray⟩, .bool true]) ∧ Below w0.heap.size w0 w' := by
  have hr : Aid.RowAt (w0.alloc (.cells C T)) (some ⟨w0.heap.size, 1, none⟩) ([p, q].map Dia.rv) := .inr ⟨_, _, rfl, fun j u hj => by
    rw [World.cell?_alloc_mark]
    match j, hj with
    | 0, hj => simp [Dia.rv] at hj; subst hj; exact hC.1
    | 1, hj => simp [Dia.rv] at hj; subst hj; exact hC.2⟩
  refine (Tryd.c_Text _ [p, q] 2 _ hr (by simp)).mono fun e w' ⟨he, hb⟩ => ?_
  rw [Dia.txt_ok (by simp [hp, hq])] at he
  exact ⟨by rw [he]; simp [Dia.encs], (Aid.b1 _ _).trans (hb.mono (by simp))⟩
theorem Tryd.c_Text1 (p : Int) (w0 : World) (hp : Dia.sc p = true) :
    Calls Tryd.prog 17 #[.slice (some ⟨w0.heap.size, 0, none⟩) 1 1] (w0.alloc (.cells #[.int .i32 p] 21)) fun e w' => e = .returned (.tuple #[.string ⟨(Dia.enc p).toArray⟩, .bool true]) ∧ Below w0.heap.size w0 w' := by
  refine (Tryd.c_Text _ [p] 1 _ (Aid.row_new _ _ _ _ rfl) (by simp)).mono fun e w' ⟨he, hb⟩ => ?_
  rw [Dia.txt_ok (by simp [hp])] at he
  exact ⟨by rw [he]; simp [Dia.encs], (Aid.b1 _ _).trans (hb.mono (by simp))⟩
theorem Dia.bcell_bd (b : Int) : 0 ≤ (Dia.bcell b).1 ∧ (Dia.bcell b).1 ≤ 156 := by unfold Dia.bcell; split; omega; split; omega; simp
theorem Dia.bigL_sc : ∀ q ∈ Dia.bigL, Dia.sc q.2 = true := by decide +kernel
theorem Dia.fwdl_sc {l : List (Int × Int)} (h : ∀ q ∈ l, Dia.sc q.2 = true) (k : Int) (hk : (Dia.fwdl l k).2 = true) : Dia.sc (Dia.fwdl l k).1 = true := by
  unfold Dia.fwdl at *
  split
  · rename_i q e
    exact h q (List.mem_of_find?_eq_some e)
  · rename_i e
    rw [e] at hk
    exact absurd hk (by simp)
theorem Tryd.c_bsigns_no (l b : Int) (w : World) (hl : 0 ≤ l ∧ l ≤ 255) (hb : 0 ≤ b ∧ b ≤ 255) (h : (Dia.bcell b).2 = false ∨ l < 129 ∨ l = 255) :
    Calls Tryd.prog 7 #[.int .u8 l, .int .u8 b] w fun e w' => e = .returned (.tuple #[.string ⟨#[]⟩, .bool false]) ∧ Below w.heap.size w w' := by
  have HC := Aid.Hid2.mk (Tryd.c_bcell b w hb)
  obtain ⟨l0, l1⟩ := hl
  generalize Dia.bcell b = c at *
  obtain ⟨c, ok⟩ := c
  simp only at h HC
  clear hb
  cases ok with
  | false =>
    clear h
    go_enter Tryd.func7, Tryd.ntmps7
    go_wp2_with fail
    refine HC.out.mono ?_
    rintro e w1 ⟨rfl, rfl⟩
    go_wp2
    go_ret2
    exact ⟨rfl, Below.refl _ _⟩
  | true =>
    by_cases h1 : l < 129
    · clear h
      go_enter Tryd.func7, Tryd.ntmps7
      go_wp2_with fail
      refine HC.out.mono ?_
      rintro e w1 ⟨rfl, rfl⟩
      go_wp2
      go_ret2
      exact ⟨rfl, Below.refl _ _⟩
    · have h2 : l = 255 := by
        rcases h with h | h | h
        · cases h
        · exact absurd h h1
        · exact h
      subst h2
      clear h h1
      go_enter Tryd.func7, Tryd.ntmps7
      go_wp2_with fail
      refine HC.out.mono ?_
      rintro e w1 ⟨rfl, rfl⟩
      go_wp2
      go_ret2
      exact ⟨rfl, Below.refl _ _⟩
end Go.Proofs
