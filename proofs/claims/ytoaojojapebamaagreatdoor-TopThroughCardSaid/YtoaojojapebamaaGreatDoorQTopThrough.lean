/- 'diacritictop.TopThrough' returns true for every input: a text that two charsets can write is written in the second one as what was read of the first one. Its conditions: the tables of the library that it lists are as the program's text lays them (the card ties them). -/
import Derived.Test.YtoaojojapebamaaGreatDoorM47
import Derived.Test.YtoaojojapebamaaGreatDoorM48
namespace Go.Proofs.YtoaojojapebamaaGreatDoor.fnTopThrough
open Go.ChangeShapes Go.WideShapes Go.ChangeAt Go.RowKit

set_option maxRecDepth 100000 in
theorem contract (H : Type) (enc : TypeId × Value → H) (W : World) (base : Nat) (args : Array Value) (ds gs : List (DataW H)) (before : List MemPlace)
    (hval : ∀ (j : Nat) t v, Tryz.f3.params[j]? = some t → args[j]? = some v → Value.okWide Tryz.prog W .any base t v)
    (hW : DataW.Whole enc Tryz.prog Tryz.f3.params.toList Rows.topThroughSpec.vars false W args.toList ds gs before) (hL : laidMetH Tryz.prog Rows.topThroughRow.laid W) :
    Calls Tryz.prog 3 args W fun e W' => ∃ v, e = .returned v ∧ Rows.topThroughSpec.post enc Tryz.prog Tryz.f3 false true false false W args v W' := by
  have hT := And.intro (tabs_of hL) (And.intro (tab32_of hL) (names_of hL))
  have hW' := hW
  obtain ⟨p, q, hA0, hV, rfl, hfz, hnd⟩ := hW
  have hA : DataW.TrodAll enc Tryz.prog W 0 (fun _ => true) true Tryz.f3.params.toList args.toList ds p := hA0
  rw [Tryz.params3] at hA hval
  obtain ⟨v0, vs0, d0, ds0, p0, q0, hargs, rfl, rfl, h0, r0⟩ := trodAll_cons hA
  obtain ⟨v1, vs1, d1, ds1, p1, q1, rfl, rfl, rfl, h1, r1⟩ := trodAll_cons r0
  obtain ⟨v2, vs2, d2, ds2, p2, q2, rfl, rfl, rfl, h2, r2⟩ := trodAll_cons r1
  obtain ⟨rfl, rfl, rfl⟩ := trodAll_nil r2
  obtain rfl : args = #[v0, v1, v2] := by cases args; simp_all
  obtain ⟨rfl, rfl⟩ := trodVars_none hV
  obtain ⟨x0, rfl, _, _, wx0⟩ := Go.ChangeMaps.open_string Tryz.underlying9 (hval 0 9 v0 rfl rfl) h0
  unfold maxLen at wx0
  obtain ⟨x1, rfl, _, _, wx1⟩ := open_int Tryz.underlying5 (hval 1 5 v1 rfl rfl) h1
  have bd1 := bounds_u8 wx1
  obtain ⟨x2, rfl, _, _, wx2⟩ := open_int Tryz.underlying5 (hval 2 5 v2 rfl rfl) h2
  have bd2 := bounds_u8 wx2
  refine (Tryz.w_TopThrough x0 x1 x2 W hT wx0 bd1 bd2).mono fun e W' ⟨he, hb⟩ => ?_
  subst he
  exact ⟨_, rfl, Aid.law_post (by kernel_rfl) (by kernel_rfl) rfl Tryz.underlying4 rfl hW' rfl hb⟩

theorem reads (os : Os) {H : Type} (enc : TypeId × Value → H) : ∃ places, DataW.whole enc Tryz.prog ((World.laidAll Tryz.prog os laidL).forCall (fun _ _ => 0) ⟨#[], #[.string ⟨#[]⟩, .int .u8 0, .int .u8 0], []⟩).memory Tryz.f3.params.toList Rows.topThroughSpec.vars false (#[.string ⟨#[]⟩, .int .u8 0, .int .u8 0] : Array Value).toList 8 = some ([.lit (.string []), .lit (.int .u8 0), .lit (.int .u8 0)], [], places) :=
  ⟨[], by kernel_rfl⟩

set_option maxRecDepth 100000 in
theorem lifted (os : Os) (started : os.Started) (H : Type) (enc : TypeId × Value → H) (F : Stop.Interp) :
    ReturnsInHanded {} Tryz.checked os 3 .any ((OpenSpec.ofChange Rows.topThroughSpec).preRow enc Tryz.prog Tryz.f3 Rows.topThroughRow.domain false Rows.topThroughRow.laid) (((OpenSpec.ofChange Rows.topThroughSpec).at F).post enc Tryz.prog Tryz.f3 false true false false) := by
  obtain ⟨places, hx⟩ := reads os enc
  refine returnsInHanded_of_row (C := Tryz.checked) (s := OpenSpec.ofChange Rows.topThroughSpec) own started (by kernel_rfl) Tryz.func3
    (witness_row_at (enc := enc) (C := Tryz.checked) false (World.laidAll Tryz.prog os laidL) #[.string ⟨#[]⟩, .int .u8 0, .int .u8 0] (World.laidAll_os _ _ _) (by kernel_rfl) (by kernel_rfl) (by kernel_rfl)
      (OpenSpec.preRow_of_cond 8 hx (by kernel_rfl) (fun k hk => by cases hk) (by kernel_rfl) (laid_met os _))) ?_
  intro W base args ds gs before hval hW _ _ _ hL _ _
  exact contract H enc W base args ds gs before hval hW hL

theorem said : Rows.TopThroughSaid :=
  OpenClaim.holds_of_cond 3 Tryz.f3 rfl rfl rfl rfl rfl rfl rfl ⟨rfl, rfl, rfl, rfl, rfl⟩ rfl rfl rfl rfl rfl (by kernel_rfl) Tryz.func3 (by kernel_rfl)
    (of_decide_eq_true (by kernel_rfl)) (by unfold Func.isWrapper; first | (rw [if_pos (by decide +kernel)]; kernel_rfl) | (rw [if_neg (by decide +kernel)]; exact ⟨rfl, rfl⟩))
    (fun os started H enc _ F => by rw [OpenClaim.pre_eq_preRow]; exact lifted os started H enc F)

theorem plain (f : FuncId) (fn : Func) (hf : Tryz.pinned.checked.prog.funcNamed "diacritic/diacritictop.TopThrough" = some f) (hfn : Tryz.pinned.checked.prog.funcs[f]? = some fn) :
    false = Tryz.pinned.checked.prog.looks [] ∧ ∀ (j : Nat) t, fn.params[j]? = some t → Tryz.pinned.checked.prog.wantsStandIn t = false := by
  obtain rfl : f = 3 := Option.some.inj ((show Tryz.prog.funcNamed "diacritic/diacritictop.TopThrough" = some 3 by kernel_rfl).symm.trans hf) |>.symm
  obtain rfl : fn = Tryz.f3 := (Option.some.inj (Tryz.func3.symm.trans hfn)).symm
  refine ⟨by kernel_rfl, fun j t ht => ?_⟩
  rw [Tryz.params3] at ht
  have hm : t ∈ ([9, 5, 5] : List TypeId) := by simpa using Array.mem_of_getElem? ht
  have hall : (([9, 5, 5] : List TypeId).all fun u => !Tryz.prog.wantsStandIn u) = true := by kernel_rfl
  exact (show Tryz.prog.wantsStandIn t = false by simpa using List.all_eq_true.1 hall t hm)

theorem card : Rows.TopThroughCardSaid :=
  Claim7.holds_tied_plain_at .later [] _ _ _ _ said (fun _ h => by cases h) (by kernel_rfl) (fun _ h => by cases h) topThrough_row_tie rfl ⟨rfl, rfl⟩ (by kernel_rfl) rfl plain (by kernel_rfl)
end Go.Proofs.YtoaojojapebamaaGreatDoor.fnTopThrough
