/- 'diacriticlaw07.WansungBytes' returns true for every input: each syllable has two bytes, which lead back to it; of other signs the bytes, or that there are none, are the document's. Its conditions: the tables of the library that it lists are as the program's text lays them (the card ties them). -/
import Derived.Test.YtfiinmidcmgphaaDoorSeat7
import Derived.Test.YtfiinmidcmgphaaDoorCi
namespace Go.Proofs.YtfiinmidcmgphaaDoor.fnWansungBytes
open Go.ChangeShapes Go.WideShapes Go.ChangeAt Go.RowKit

set_option maxRecDepth 100000 in
theorem contract (H : Type) (enc : TypeId × Value → H) (W : World) (base : Nat) (args : Array Value) (ds gs : List (DataW H)) (before : List MemPlace)
    (hval : ∀ (j : Nat) t v, Tryd.f6.params[j]? = some t → args[j]? = some v → Value.okWide Tryd.prog W .any base t v)
    (hW : DataW.Whole enc Tryd.prog Tryd.f6.params.toList Rows.wansungBytesSpec.vars false W args.toList ds gs before) (hL : laidMetH Tryd.prog Rows.wansungBytesRow.laid W) :
    Calls Tryd.prog 6 args W fun e W' => ∃ v, e = .returned v ∧ Rows.wansungBytesSpec.post enc Tryd.prog Tryd.f6 false true false false W args v W' := by
  have hT := And.intro (tabs_of hL) (tab32_of hL)
  have hW' := hW
  obtain ⟨p, q, hA0, hV, rfl, hfz, hnd⟩ := hW
  have hA : DataW.TrodAll enc Tryd.prog W 0 (fun _ => true) true Tryd.f6.params.toList args.toList ds p := hA0
  rw [Tryd.params6] at hA hval
  obtain ⟨v0, vs0, d0, ds0, p0, q0, hargs, rfl, rfl, h0, r0⟩ := trodAll_cons hA
  obtain ⟨rfl, rfl, rfl⟩ := trodAll_nil r0
  obtain rfl : args = #[v0] := by cases args; simp_all
  obtain ⟨rfl, rfl⟩ := trodVars_none hV
  obtain ⟨x0, rfl, _, _, wx0⟩ := open_int Tryd.underlying21 (hval 0 21 v0 rfl rfl) h0
  have bd0 := bounds_i32 wx0
  refine (Tryd.w_WansungBytes x0 W hT bd0).mono fun e W' ⟨he, hb⟩ => ?_
  subst he
  exact ⟨_, rfl, Aid.law_post (by kernel_rfl) (by kernel_rfl) rfl Tryd.underlying4 rfl hW' rfl hb⟩

theorem reads (os : Os) {H : Type} (enc : TypeId × Value → H) : ∃ places, DataW.whole enc Tryd.prog ((World.laidAll Tryd.prog os laidL).forCall (fun _ _ => 0) ⟨#[], #[.int .i32 0], []⟩).memory Tryd.f6.params.toList Rows.wansungBytesSpec.vars false (#[.int .i32 0] : Array Value).toList 8 = some ([.lit (.int .i32 0)], [], places) :=
  ⟨[], by kernel_rfl⟩

set_option maxRecDepth 100000 in
theorem lifted (os : Os) (started : os.Started) (H : Type) (enc : TypeId × Value → H) (F : Stop.Interp) :
    ReturnsInHanded {} Tryd.checked os 6 .any ((OpenSpec.ofChange Rows.wansungBytesSpec).preRow enc Tryd.prog Tryd.f6 Rows.wansungBytesRow.domain false Rows.wansungBytesRow.laid) (((OpenSpec.ofChange Rows.wansungBytesSpec).at F).post enc Tryd.prog Tryd.f6 false true false false) := by
  obtain ⟨places, hx⟩ := reads os enc
  refine returnsInHanded_of_row (C := Tryd.checked) (s := OpenSpec.ofChange Rows.wansungBytesSpec) own started (by kernel_rfl) Tryd.func6
    (witness_row_at (enc := enc) (C := Tryd.checked) false (World.laidAll Tryd.prog os laidL) #[.int .i32 0] (World.laidAll_os _ _ _) (by kernel_rfl) (by kernel_rfl) (by kernel_rfl)
      (OpenSpec.preRow_of_cond 8 hx (by kernel_rfl) (fun k hk => by cases hk) (by kernel_rfl) (laid_met os _))) ?_
  intro W base args ds gs before hval hW _ _ _ hL _ _
  exact contract H enc W base args ds gs before hval hW hL

theorem said : Rows.WansungBytesSaid :=
  OpenClaim.holds_of_cond 6 Tryd.f6 rfl rfl rfl rfl rfl rfl rfl ⟨rfl, rfl, rfl, rfl, rfl⟩ rfl rfl rfl rfl rfl (by kernel_rfl) Tryd.func6 (by kernel_rfl)
    (of_decide_eq_true (by kernel_rfl)) (by unfold Func.isWrapper; first | (rw [if_pos (by decide +kernel)]; kernel_rfl) | (rw [if_neg (by decide +kernel)]; exact ⟨rfl, rfl⟩))
    (fun os started H enc _ F => by rw [OpenClaim.pre_eq_preRow]; exact lifted os started H enc F)

theorem plain (f : FuncId) (fn : Func) (hf : Tryd.pinned.checked.prog.funcNamed "diacritic/diacriticlaw07.WansungBytes" = some f) (hfn : Tryd.pinned.checked.prog.funcs[f]? = some fn) :
    false = Tryd.pinned.checked.prog.looks [] ∧ ∀ (j : Nat) t, fn.params[j]? = some t → Tryd.pinned.checked.prog.wantsStandIn t = false := by
  obtain rfl : f = 6 := Option.some.inj ((show Tryd.prog.funcNamed "diacritic/diacriticlaw07.WansungBytes" = some 6 by kernel_rfl).symm.trans hf) |>.symm
  obtain rfl : fn = Tryd.f6 := (Option.some.inj (Tryd.func6.symm.trans hfn)).symm
  refine ⟨by kernel_rfl, fun j t ht => ?_⟩
  rw [Tryd.params6] at ht
  have hm : t ∈ ([21] : List TypeId) := by simpa using Array.mem_of_getElem? ht
  have hall : (([21] : List TypeId).all fun u => !Tryd.prog.wantsStandIn u) = true := by kernel_rfl
  exact (show Tryd.prog.wantsStandIn t = false by simpa using List.all_eq_true.1 hall t hm)

theorem card : Rows.WansungBytesCardSaid :=
  Claim7.holds_tied_plain_at .later [] _ _ _ _ said (fun _ h => by cases h) (by kernel_rfl) (fun _ h => by cases h) wansungBytes_row_tie rfl ⟨rfl, rfl⟩ (by kernel_rfl) rfl plain (by kernel_rfl)
end Go.Proofs.YtfiinmidcmgphaaDoor.fnWansungBytes
