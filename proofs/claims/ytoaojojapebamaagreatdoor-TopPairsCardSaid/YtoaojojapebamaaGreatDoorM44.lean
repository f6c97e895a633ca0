/- walks of charset: pair, doubles; walks of charset: bytes, written -/
import Derived.Test.YtoaojojapebamaaGreatDoorM38
import Derived.Test.YtoaojojapebamaaGreatDoorM19
import Derived.Test.YtoaojojapebamaaGreatDoorM39
import Derived.Test.YtoaojojapebamaaGreatDoorM40
import Derived.Test.YtoaojojapebamaaGreatDoorM43
namespace Go.Proofs
open Go.RowKit

set_option maxRecDepth 100000 in
set_option maxHeartbeats 1000000 in
theorem Tryz.c_cpair_one (c l t p : Int) (w : World) (hc : c = 4 ∨ c = 5)
    (h4 : c = 4 → ∀ w1, Below w.heap.size w w1 → Calls Tryz.prog 35 #[.int .u8 l, .int .u8 t] w1 fun e w' => e = .returned (.tuple #[.int .i32 p, .bool true]) ∧ Below w1.heap.size w1 w')
    (h5 : c = 5 → ∀ w1, Below w.heap.size w w1 → Calls Tryz.prog 33 #[.int .u8 l, .int .u8 t] w1 fun e w' => e = .returned (.tuple #[.int .i32 p, .bool true]) ∧ Below w1.heap.size w1 w') (hsc : Dia.sc p = true) :
    Calls Tryz.prog 51 #[.int .i64 c, .int .u8 l, .int .u8 t] w fun e w' => e = .returned (.tuple #[.string ⟨(Dia.encs [p]).toArray⟩, .bool true]) ∧ Below w.heap.size w w' := by
  have HTX : Aid.Hid2 (∀ (w1 : World) (u : ByteArray), u = ⟨(Dia.encs [p]).toArray⟩ → Calls Tryz.prog 30 #[.slice (some ⟨w1.heap.size, 0, none⟩) 1 1] (w1.alloc (.cells #[.int .i32 p] 21)) fun e w' => e = .returned (.tuple #[.string u, .bool true]) ∧ Below w1.heap.size w1 w') := ⟨fun w1 u hu => by
    subst hu
    have h := Tryz.c_Text (some ⟨w1.heap.size, 0, none⟩) [p] 1 (w1.alloc (.cells #[.int .i32 p] 21)) (Aid.row_new w1 _ _ _ rfl) (by simp)
    rw [Dia.txt_ok (by intro q hq; rw [List.mem_singleton] at hq; subst hq; exact hsc)] at h
    exact h.mono fun e w' ⟨he, hb⟩ => ⟨he, Aid.bt (Aid.b1 _ _) hb⟩⟩
  obtain ⟨u, hu⟩ : ∃ u : ByteArray, u = ⟨(Dia.encs [p]).toArray⟩ := ⟨_, rfl⟩
  rw [← hu]
  have HTU := Aid.Hid2.mk (fun w1 => HTX.out w1 u hu)
  clear hu HTX hsc
  rcases hc with rfl | rfl
  · have HS := Aid.Hid2.mk (h4 rfl)
    clear h4 h5
    go_enter Tryz.func51, Tryz.ntmps51
    go_wp2_with fail
    refine (HS.out _ (Below.refl _ _)).mono ?_
    rintro e w1 ⟨rfl, hb1⟩
    go_wp2_with fail
    refine (HTU.out _).mono ?_
    rintro e w2 ⟨rfl, hb2⟩
    go_wp2
    go_ret2
    exact ⟨rfl, Aid.bt hb1 hb2⟩
  · have HS := Aid.Hid2.mk (h5 rfl)
    clear h4 h5
    go_enter Tryz.func51, Tryz.ntmps51
    go_wp2_with fail
    refine (HS.out _ (Below.refl _ _)).mono ?_
    rintro e w1 ⟨rfl, hb1⟩
    go_wp2_with fail
    refine (HTU.out _).mono ?_
    rintro e w2 ⟨rfl, hb2⟩
    go_wp2
    go_ret2
    exact ⟨rfl, Aid.bt hb1 hb2⟩
set_option maxRecDepth 100000 in
set_option maxHeartbeats 1000000 in
theorem Tryz.c_cpair (c l t : Int) (x : List UInt8) (w : World) (hT : Tryz.Tabs w) (hT2 : Tryz.Tab32 w) (hl : 0 ≤ l ∧ l ≤ 255) (ht : 0 ≤ t ∧ t ≤ 255) (h : Dia.Pair2 c l t x) :
    Calls Tryz.prog 51 #[.int .i64 c, .int .u8 l, .int .u8 t] w fun e w' => e = .returned (.tuple #[.string ⟨x.toArray⟩, .bool true]) ∧ Below w.heap.size w w' := by
  rcases h with ⟨rfl, p, g1, g2, g3, rfl⟩ | ⟨rfl, p, g1, g3, rfl⟩ | ⟨rfl, g1⟩
  · exact Tryz.c_cpair_one 4 l t p w (.inl rfl) (fun _ w1 hb => (Tryz.c_wSign l t w1 hl ht (hT.below hb) (hT2.below hb)).mono fun e w' ⟨q, h1, h2, h3⟩ => by
      obtain rfl := g1.uniq h1
      rw [decide_eq_true g2] at h2
      exact ⟨h2, h3⟩) (fun h => by simp at h) g3
  · exact Tryz.c_cpair_one 5 l t p w (.inr rfl) (fun h => by simp at h) (fun _ w1 _ => (Tryz.c_jSign l t w1 hl ht).mono fun e w' ⟨h1, h2⟩ => by
      rw [g1] at h1
      subst h2
      exact ⟨h1, Below.refl _ _⟩) g3
  · have HS := Aid.Hid2.mk (Tryz.c_bsigns l t w hT hl ht)
    rw [g1] at HS
    clear g1
    go_enter Tryz.func51, Tryz.ntmps51
    go_wp2_with fail
    refine HS.out.mono ?_
    rintro e w1 ⟨rfl, hb1⟩
    go_wp2
    go_ret2
    exact ⟨rfl, hb1⟩
theorem Aid.extract_one (s : ByteArray) (k : Nat) (h : k < s.size) : s.extract k (k + 1) = ⟨[s[k]].toArray⟩ := by
  apply ByteArray.ext
  apply Array.toList_inj.1
  rw [ByteArray.data_extract, Array.toList_extract]
  have h2 : k < s.data.toList.length := h
  rw [List.extract_eq_take_drop, show k + 1 - k = 1 by omega, List.drop_eq_getElem_cons h2]
  rfl
/-- how units lie in their bytes -/
theorem Dia.unit_at {us : List (List UInt8 × List UInt8)} {l : List UInt8} (hl : l = (us.map Prod.fst).flatten) {j : Nat} (hj : j < us.length) :
    ∃ B, l = ((us.take j).map Prod.fst).flatten ++ (us[j].1 ++ B) ∧ ((us.take (j + 1)).map Prod.fst).flatten = ((us.take j).map Prod.fst).flatten ++ us[j].1 ∧ ((us.take (j + 1)).map Prod.snd).flatten = ((us.take j).map Prod.snd).flatten ++ us[j].2 := by
  refine ⟨((us.drop (j + 1)).map Prod.fst).flatten, ?_, ?_, ?_⟩
  · rw [hl]
    conv => lhs; rw [← List.take_append_drop j us, List.drop_eq_getElem_cons hj]
    rw [List.map_append, List.flatten_append, List.map_cons, List.flatten_cons]
  · rw [Dia.take_snoc us j hj, List.map_append, List.flatten_append, List.map_cons, List.map_nil, List.flatten_cons, List.flatten_nil, List.append_nil]
  · rw [Dia.take_snoc us j hj, List.map_append, List.flatten_append, List.map_cons, List.map_nil, List.flatten_cons, List.flatten_nil, List.append_nil]
theorem Dia.units_le : ∀ (us : List (List UInt8 × List UInt8)), (∀ u ∈ us, 1 ≤ u.1.length) → us.length ≤ (us.map Prod.fst).flatten.length
  | [], _ => by simp
  | u :: us, h => by
    have h1 := Dia.units_le us (fun v hv => h v (by simp [hv]))
    have h2 := h u (by simp)
    rw [List.map_cons, List.flatten_cons, List.length_append, List.length_cons]
    omega
theorem Dia.str_at {s : ByteArray} {A U B : List UInt8} {k i : Nat} {x : UInt8} (h : s.data.toList = A ++ (U ++ B)) (hk : A.length = k) (hi : U[i]? = some x) (hks : k + i < s.size) : s[k + i] = x := by
  have hl : i < U.length := (List.getElem?_eq_some_iff.1 hi).1
  have h1 : s.data.toList[k + i]? = some x := by
    rw [h, List.getElem?_append_right (by omega), hk, show k + i - k = i by omega, List.getElem?_append_left hl]
    exact hi
  have h2 : s.data.toList[k + i]? = some s[k + i] := List.getElem?_eq_getElem (l := s.data.toList) hks
  rw [h2] at h1
  exact Option.some.inj h1
set_option maxRecDepth 100000 in
set_option maxHeartbeats 4000000 in
theorem Tryz.c_cdoubles (c : Int) (us : List (List UInt8 × List UInt8)) (s : ByteArray) (w : World) (hT : Tryz.Tabs w) (hT2 : Tryz.Tab32 w) (hus : ∀ u ∈ us, Dia.UOk c u) (hs : s.data.toList = (us.map Prod.fst).flatten) (hsz : s.size ≤ 10000) (htx : ((us.map Prod.snd).flatten).length ≤ 100000) :
    Calls Tryz.prog 22 #[.int .i64 c, .string s] w fun e w' => e = .returned (.tuple #[.string ⟨((us.map Prod.snd).flatten).toArray⟩, .agg #[.int .i64 0, .int .i64 0]]) ∧ Below w.heap.size w w' := by
  obtain ⟨i0, hi, hz0, hz1, hz2⟩ := info_parts Tryz.s_info_str
  have hul : us.length ≤ s.size := by
    have h1 := Dia.units_le us (fun u hu => (Dia.uOk_len (hus u hu)).1)
    rw [← hs] at h1
    exact h1
  have HUS := Aid.Hid2.mk hus
  have HS := Aid.Hid2.mk hs
  have HTX := Aid.Hid2.mk htx
  have HPR : Aid.Hid2 (∀ (l t : UInt8) (x : List UInt8) (w1 : World), Below w.heap.size w w1 → Dia.Pair2 c l.toNat t.toNat x → Calls Tryz.prog 51 #[.int .i64 c, .int .u8 l.toNat, .int .u8 t.toNat] w1 fun e w' => e = .returned (.tuple #[.string ⟨x.toArray⟩, .bool true]) ∧ Below w1.heap.size w1 w') := ⟨fun l t x w1 hb h => Tryz.c_cpair c _ _ x w1 (hT.below hb) (hT2.below hb) (by have := l.toNat_lt; omega) (by have := t.toNat_lt; omega) h⟩
  clear hus hs htx hT hT2
  go_enter Tryz.func22, Tryz.ntmps22
  go_wp2
  go_loopw [6, 7, 8, 9, 10] (fun v i _ _ _ wr => ∃ (j : Nat) (xs : List ByteArray), j ≤ us.length ∧ i = .int .i64 (((us.take j).map Prod.fst).flatten.length : Nat) ∧ Aid.Hid2 (Dia.sParts xs ((us.take j).map Prod.snd).flatten) ∧ xs.length = j ∧ wr.ownsRow (w.heap.size + 1) 9 1 v xs.length (xs.map Value.string) ∧ Below (w.heap.size + 1) (w.alloc (.cells #[.int .i64 0, .int .i64 0] 26)) wr)
    (fun _ i _ _ _ _ => s.size - (intOf i).toNat)
  case atStart => exact ⟨0, [], Nat.zero_le _, rfl, ⟨rfl⟩, rfl, World.ownsRow_nil _ _ _ _, Below.refl _ _⟩
  case round =>
    obtain ⟨j, xs, hj, rfl, HPA, hxl, hown, hb⟩ := hrel
    have hbw : Below w.heap.size w wr := Aid.below_new hb (Nat.le_refl _)
    have hBr := Aid.new_lt hb
    obtain ⟨c0, c1, f0, f1⟩ := Aid.cells2 hb
    by_cases hlt : j < us.length
    · obtain ⟨B, e1, e2, e3⟩ := Dia.unit_at HS.out hlt
      have E2 := Aid.Hid2.mk e2
      have E3 := Aid.Hid2.mk e3
      have hlen := congrArg List.length e1
      rw [show s.data.toList.length = s.size from rfl] at hlen
      simp only [List.length_append] at hlen
      generalize hk : ((us.take j).map Prod.fst).flatten.length = k at *
      have hu := HUS.out us[j] (List.getElem_mem hlt)
      generalize us[j] = u at *
      clear e2 e3
      rcases hu with ⟨b, g1, g2, g3⟩ | ⟨l, t, g1, g2, g3⟩
      · rw [g1] at hlen
        have hks : k < s.size := by simp at hlen; omega
        clear hlen
        have hx : s[k] = b := Dia.str_at (i := 0) e1 hk (by rw [g1]; rfl) hks
        have dl : decide ((s[k].toNat : Int) < 128) = true := decide_eq_true (by rw [hx]; omega)
        have HE : Aid.Hid2 (s.extract k (k + 1) = ⟨u.2.toArray⟩) := ⟨by rw [Aid.extract_one s k hks, hx, g3]⟩
        have HL : Aid.Hid2 ((((us.take (j + 1)).map Prod.fst).flatten).length = k + 1) := ⟨by rw [E2.out, List.length_append, hk, g1]; rfl⟩
        have HK := Aid.Hid2.mk hk
        clear hx g1 g2 g3 e1 hk
        go_wp2_with (at_builtin; refine Aid.wpList_app1 (w0 := w.alloc (.cells #[.int .i64 0, .int .i64 0] 26)) _ rfl _ _ 74 9 1 16 rfl Tryz.underlying74 i0 _ hi hz0 hz1 hz2 rfl (by decide) (w.heap.size + 1) _ _ _ #[.string (s.extract k (k + 1))] _ rfl _ rfl hown hb ?_ rfl rfl ?_ ?_ ?_ ?_)
        · omega
        · simp [Value.oneCell']
        · omega
        · omega
        · intro v' w5 hown2 hb5 hsz5 _
          go_wp2
          go_roundw
          case rel => exact ⟨j + 1, xs ++ [s.extract k (k + 1)], by omega, by rw [HL.out]; go_num, ⟨by rw [E3.out, HE.out]; exact Dia.sParts_snoc HPA.out _⟩, by simp; omega, by rw [show (xs ++ [s.extract k (k + 1)]).length = j + 1 by simp; omega]; simpa [hxl] using hown2, hb5⟩
          case measure => simp [intOf]; omega
      · rw [g1] at hlen
        have hks : k + 1 < s.size := by simp at hlen; omega
        clear hlen
        have hx : s[k] = l := Dia.str_at (i := 0) e1 hk (by rw [g1]; rfl) (by omega)
        have hy : s[k + 1] = t := Dia.str_at (i := 1) e1 hk (by rw [g1]; rfl) hks
        have dl : decide ((s[k].toNat : Int) < 128) = false := decide_eq_false (by rw [hx]; omega)
        have dq : ((k : Int) == (s.size : Int) - 1) = false := by simp; omega
        have HPk : Aid.Hid2 (∀ (w1 : World), Below w.heap.size w w1 → Calls Tryz.prog 51 #[.int .i64 c, .int .u8 s[k].toNat, .int .u8 s[k + 1].toNat] w1 fun e w' => e = .returned (.tuple #[.string ⟨u.2.toArray⟩, .bool true]) ∧ Below w1.heap.size w1 w') := ⟨fun w1 hb1 => HPR.out _ _ _ w1 hb1 (by rw [hx, hy]; exact g3)⟩
        have HL : Aid.Hid2 ((((us.take (j + 1)).map Prod.fst).flatten).length = k + 2) := ⟨by rw [E2.out, List.length_append, hk, g1]; rfl⟩
        have HK := Aid.Hid2.mk hk
        have s1 : IntKind.i64.wrap ((k : Int) + 1) = (k : Int) + 1 := IntWalk.i64_in _ (by omega)
        have s2 : 0 ≤ (k : Int) + 1 := by omega
        have s3 : ((k : Int) + 1).toNat = k + 1 := by omega
        have s4 : (k : Int) + 1 < s.size := by omega
        have s5 : (k : Int) < s.size := by omega
        clear hx hy g1 g2 g3 e1 hk
        go_wp2_with fail
        go_region_with (go_at_call 51; refine (HPk.out _ (by first | exact hbw.alloc (by omega) _ | exact (hbw.alloc (by omega) _).drew)).mono ?_; rintro e w2 ⟨rfl, hb2⟩)
        all_goals
          have hr1 : Below wr.heap.size wr w2 := Aid.bt (Aid.b1 wr (.cells #[.int .i64 2, .int .i64 k] 26)) (by first | exact hb2 | exact ((Below.refl _ _).drew).trans hb2)
          have hown2 := Aid.ownsRow_below hown hr1
          have hb12 := hb.trans (hr1.mono hBr)
          have hs2 := hr1.size
          clear hb2 HPk
          obtain ⟨x, hx⟩ : ∃ x : ByteArray, x = ⟨u.2.toArray⟩ := ⟨_, rfl⟩
          rw [← hx]
          have HX := Aid.Hid2.mk hx
          clear hx
          go_wp2_with (at_builtin; refine Aid.wpList_app1 (w0 := w.alloc (.cells #[.int .i64 0, .int .i64 0] 26)) _ rfl _ _ 74 9 1 16 rfl Tryz.underlying74 i0 _ hi hz0 hz1 hz2 rfl (by decide) (w.heap.size + 1) _ _ _ #[.string x] _ rfl _ rfl hown2 hb12 ?_ rfl rfl ?_ ?_ ?_ ?_)
          · omega
          · simp [Value.oneCell']
          · omega
          · omega
          · intro v' w5 hown5 hb5 hsz5 _
            go_wp2
            go_roundw
            case rel => exact ⟨j + 1, xs ++ [x], by omega, by rw [HL.out]; go_num, ⟨by rw [E3.out, HX.out]; exact Dia.sParts_snoc HPA.out _⟩, by simp; omega, by rw [show (xs ++ [x]).length = j + 1 by simp; omega]; simpa [hxl] using hown5, hb5⟩
            case measure => simp [intOf]; omega
    · obtain rfl : j = us.length := by omega
      have e : us.take us.length = us := List.take_of_length_le (Nat.le_refl _)
      rw [e] at HPA ⊢
      have hik : (us.map Prod.fst).flatten.length = s.size := by rw [← HS.out]; rfl
      rw [hik]
      obtain ⟨ab, cp, rfl, hrb, hcp⟩ := Aid.s_own_row' hown
      have HJ : Aid.Hid2 (Calls Tryz.prog 47 #[.slice ab xs.length cp] wr fun e w' => e = .returned (.string ⟨((us.map Prod.snd).flatten).toArray⟩) ∧ Below wr.heap.size wr w') :=
        ⟨by
          have hpa := HPA.out
          unfold Dia.sParts at hpa
          have := Tryz.c_Join ab cp xs wr (by simpa using hrb) (by simpa using hcp) (by omega) (by rw [hpa]; have := HTX.out; omega)
          rw [hpa] at this
          exact this⟩
      rw [hxl] at HJ
      clear e hik
      simp only [List.length_map, hxl] at *
      generalize hR : ((us.map Prod.snd).flatten).toArray = R at *
      have HRR := Aid.Hid2.mk hR
      clear hR
      go_wp2_with fail
      refine HJ.out.mono ?_
      rintro e w3 ⟨rfl, hb3⟩
      obtain ⟨d0, d1, g0, g1⟩ := Aid.cells2 (hb.trans (hb3.mono hBr))
      have h3 := Aid.bt hbw hb3
      go_wp2
      exact bodyPost_ret (v := .tuple #[.string ⟨R⟩, .agg #[.int .i64 0, .int .i64 0]]) (by simp [results, Tryz.results22, go_sem, d0, d1]) rfl (by
        exact ⟨by rw [HRR.out], (h3.setCell (Nat.le_refl _) _).setCell (Nat.le_refl _) _⟩)
end Go.Proofs
namespace Go.Proofs
open Go.RowKit

/-- what Points hands back -/
def Dia.IsPointsC (l : List UInt8) (w w' : World) (e : Ending) : Prop :=
  ∃ (aa : Option Addr) (cap : Nat) (a b : Int), e = .returned (.tuple #[.slice aa (Dia.pts l).1.length cap, .agg #[.int .i64 a, .int .i64 b]]) ∧
    Aid.RowAt w' aa ((Dia.pts l).1.map Dia.rv) ∧ Dia.IsFault (Dia.pts l).2 a b ∧ (Dia.pts l).1.length ≤ cap ∧ Below w.heap.size w w'

set_option maxRecDepth 100000 in
set_option maxHeartbeats 400000 in
theorem Tryz.c_PointsC (s : ByteArray) (w : World) (hs : s.size ≤ 1000000) (hT : Tryz.Tabs w) :
    Calls Tryz.prog 31 #[.string s] w fun e w' => Dia.IsPointsC s.data.toList w w' e := by
  obtain ⟨i0, hi, hz0, hz1, hz2⟩ := info_parts Tryz.info_i32
  go_enter Tryz.func31, Tryz.ntmps31
  go_wp2
  go_loopw [4, 5, 6, 7] (fun v i _ _ wr => ∃ (k : Nat) (ps : List Int), i = .int .i64 k ∧ Dia.UpTo s.data.toList k ps ∧
      wr.ownsRow (w.heap.size + 1) 21 1 v ps.length (ps.map Dia.rv) ∧ Below (w.heap.size + 1) (w.alloc (.cells #[.int .i64 0, .int .i64 0] 26)) wr)
    (fun _ i _ _ _ => s.size - (intOf i).toNat)
  case atStart => exact ⟨0, [], rfl, Dia.upTo_zero _, World.ownsRow_nil _ _ _ _, Below.refl _ _⟩
  case round =>
    obtain ⟨k, ps, rfl, hu, hown, hb⟩ := hrel
    have hk : k ≤ s.size := Dia.upTo_le hu
    have hpl := Dia.upTo_len hu
    have hbw : Below w.heap.size w wr := Aid.below_new hb (Nat.le_refl _)
    have hBr := Aid.new_lt hb
    have hTr : Tryz.Tabs wr := hT.below hbw
    have h4 := Dia.hd_le (s.data.toList.drop k)
    by_cases hlt : k < s.size
    · go_wp2_with (first
        | (go_at_call 52; refine (Tryz.c_next s k _ hk (by omega) hTr).mono ?_; rintro e w1 ⟨rfl, hb1⟩; obtain ⟨c0, c1, f0, f1⟩ := Aid.cells2 (hb.trans (hb1.mono hBr)))
        | (at_builtin; refine Aid.wpList_app1 (w0 := w.alloc (.cells #[.int .i64 0, .int .i64 0] 26)) _ rfl _ _ 57 21 1 4 rfl Tryz.underlying57 i0 _ hi hz0 hz1 hz2 rfl (by decide) (w.heap.size + 1) _ _ _ #[.int .i32 (Dia.hd (List.drop k s.data.toList)).1] _ rfl _ rfl (Aid.ownsRow_below hown hb1) (hb.trans (hb1.mono hBr)) ?_ rfl rfl ?_ ?_ ?_ ?_))
      · have hz : (((Dia.hd (List.drop k s.data.toList)).2 : Int) == 0) = true := by assumption
        exact bodyPost_ret (v := .tuple #[.slice none 0 0, .agg #[.int .i64 2, .int .i64 k]]) (by simp [results, Tryz.results31, go_sem, c0, c1]) rfl (by
          unfold Dia.IsPointsC
          rw [Dia.upTo_bad hu hlt (by simpa using hz)]
          exact ⟨none, 0, 2, k, rfl, .inl rfl, Dia.isFault_at k, Nat.le_refl _, ((hbw.trans (hb1.mono (by omega))).setCell (Nat.le_refl _) _).setCell (Nat.le_refl _) _⟩)
      · have := hb1.size; omega
      · rfl
      · omega
      · omega
      · intro v' w2 hown2 hb2 hsz2 _
        have hz : (((Dia.hd (List.drop k s.data.toList)).2 : Int) == 0) = false := by assumption
        have hz' : (Dia.hd (List.drop k s.data.toList)).2 ≠ 0 := by simpa using hz
        go_wp2
        go_roundw
        case rel => exact ⟨k + (Dia.hd (List.drop k s.data.toList)).2, _, by go_num, Dia.upTo_step hu hz', by simpa [Dia.rv] using hown2, hb2⟩
        case measure => simp [intOf]; omega
    · obtain ⟨c0, c1, f0, f1⟩ := Aid.cells2 hb
      have hend := Lib.hid (Dia.upTo_end hu hlt)
      obtain ⟨aa, cap, rfl, hrow, hcap⟩ := Aid.s_own_row' hown
      rw [List.length_map] at hcap
      go_wp2
      exact bodyPost_ret (v := .tuple #[.slice aa (ps.map Dia.rv).length cap, .agg #[.int .i64 0, .int .i64 0]]) (by simp [results, Tryz.results31, go_sem, c0, c1]) rfl (by
          unfold Dia.IsPointsC
          rw [hend.out]
          have hbb : Below w.heap.size w ((wr.setCell ⟨w.heap.size, 0, none⟩ (.int .i64 0)).setCell ⟨w.heap.size, 1, none⟩ (.int .i64 0)) := (hbw.setCell (Nat.le_refl _) _).setCell (Nat.le_refl _) _
          refine ⟨aa, cap, 0, 0, by rw [List.length_map], ?_, Dia.isFault_none, hcap, hbb⟩
          exact Aid.own_at (ownsRow_setCell_below (ownsRow_setCell_below hown (by show w.heap.size < w.heap.size + 1; omega) _) (by show w.heap.size < w.heap.size + 1; omega) _))

theorem Aid.rowAt_cell {w : World} {b off : Nat} {p : Int} {r : List Int} (h : Aid.RowAt w (some ⟨b, off, none⟩) ((p :: r).map Dia.rv)) : w.cell? ⟨b, off, none⟩ = some (.int .i32 p) := by
  obtain ⟨b', off', he, hc⟩ := h.get (k := 0) (by simp)
  simp only [Option.some.injEq, Addr.mk.injEq] at he
  obtain ⟨rfl, rfl, _⟩ := he
  simpa [Dia.rv] using hc
theorem Aid.rowAt_drop {w : World} {b off : Nat} {xs : List Value} (h : Aid.RowAt w (some ⟨b, off, none⟩) xs) (n : Nat) : Aid.RowAt w (some ⟨b, off + n, none⟩) (xs.drop n) := by
  rcases h with h | ⟨b', off', he, hc⟩
  · exact .inl (by rw [h]; simp)
  · simp only [Option.some.injEq, Addr.mk.injEq] at he
    obtain ⟨rfl, rfl, _⟩ := he
    refine .inr ⟨b, off + n, rfl, fun j u hj => ?_⟩
    rw [List.getElem?_drop] at hj
    have := hc (n + j) u hj
    rw [← Nat.add_assoc] at this
    exact this
theorem Aid.rowAt_take {w : World} {a : Option Addr} {xs : List Value} (h : Aid.RowAt w a xs) (n : Nat) : Aid.RowAt w a (xs.take n) := by
  rcases h with h | ⟨b', off', he, hc⟩
  · exact .inl (by rw [h]; simp)
  · refine .inr ⟨b', off', he, fun j u hj => hc j u ?_⟩
    rw [List.getElem?_take] at hj
    split at hj
    · exact hj
    · cases hj
set_option maxRecDepth 100000 in
set_option maxHeartbeats 2000000 in
theorem Tryz.c_cbytes (c : Int) (b off cap : Nat) (p : Int) (r : List Int) (w : World) (hT : Tryz.Tabs w) (hc : c = 4 ∨ c = 5 ∨ c = 6) (hp : 0 ≤ p) (hrow : Aid.RowAt w (some ⟨b, off, none⟩) ((p :: r).map Dia.rv)) (hl : (p :: r).length ≤ 100000) :
    Calls Tryz.prog 48 #[.int .i64 c, .slice (some ⟨b, off, none⟩) (p :: r).length cap] w fun e w' => e = .returned (.tuple #[.string ⟨(Dia.csb c (p :: r)).1.toArray⟩, .int .i64 (Dia.csb c (p :: r)).2]) ∧ Below w.heap.size w w' := by
  have hcell := Aid.rowAt_cell hrow
  have HBB : Aid.Hid2 (Calls Tryz.prog 38 #[.slice (some ⟨b, off, none⟩) (p :: r).length cap] w fun e w' => e = .returned (.tuple #[.string ⟨(Dia.bbytes (p :: r)).1.toArray⟩, .int .i64 (Dia.bbytes (p :: r)).2]) ∧ Below w.heap.size w w') := ⟨Tryz.c_bbytes _ (p :: r) cap w hT hrow (by omega)⟩
  have HW := Aid.Hid2.mk (Tryz.c_wBytes p w hT)
  have HJ := Aid.Hid2.mk (Tryz.c_jBytes p w)
  have n0 : 0 < (p :: r).length := by simp
  have n1 : (0 : Int) < (p :: r).length := by omega
  generalize hC : Dia.csb c (p :: r) = C
  have HC : Aid.Hid2 (C = if p < 128 then ([p.toNat.toUInt8], 1) else if c = 4 then (if (Dia.wbytes p).2 = true then ((Dia.wbytes p).1, 1) else ([], 0)) else if c = 5 then (if (Dia.jbytes p).2 = true then ((Dia.jbytes p).1, 1) else ([], 0)) else Dia.bbytes (p :: r)) := ⟨by rw [← hC, Dia.csb_cons]⟩
  clear hC hrow hT
  generalize Dia.bbytes (p :: r) = D at *
  generalize (p :: r).length = n at *
  by_cases h1 : p < 128
  · have HR : Aid.Hid2 (C = ([p.toNat.toUInt8], 1)) := ⟨by rw [HC.out, if_pos h1]⟩
    obtain ⟨m, rfl⟩ := Int.eq_ofNat_of_zero_le hp
    have d : decide ((m : Int) < 128) = true := decide_eq_true h1
    have HBG : Aid.Hid2 (∀ (w1 : World), Calls Tryz.prog 46 #[.int .u64 m, .int .i64 1] w1 fun e w' => e = .returned (.string ⟨#[m.toUInt8]⟩) ∧ Below w1.heap.size w1 w') := ⟨fun w1 => by
      have h := Tryz.c_Big m 1 w1 (by omega) (by decide)
      rw [Dia.big1 m (by omega)] at h
      exact h⟩
    have hm : m < 128 := by omega
    clear HC HBB HW HJ h1
    go_enter Tryz.func48, Tryz.ntmps48
    go_wp2_with fail
    refine (HBG.out _).mono ?_
    rintro e w1 ⟨rfl, hb1⟩
    go_wp2
    go_ret2
    rw [HR.out]
    exact ⟨by rw [Int.toNat_natCast]; rfl, hb1⟩
  · have d : decide (p < 128) = false := decide_eq_false h1
    replace HC : Aid.Hid2 (C = if c = 4 then (if (Dia.wbytes p).2 = true then ((Dia.wbytes p).1, 1) else ([], 0)) else if c = 5 then (if (Dia.jbytes p).2 = true then ((Dia.jbytes p).1, 1) else ([], 0)) else D) := ⟨by rw [HC.out, if_neg h1]⟩
    clear h1
    rcases hc with rfl | rfl | rfl
    · generalize Dia.wbytes p = W at *
      obtain ⟨x, ok⟩ := W
      clear HBB HJ
      cases ok with
      | true =>
        have HR : Aid.Hid2 (C = (x, 1)) := ⟨by rw [HC.out]; rfl⟩
        clear HC
        go_enter Tryz.func48, Tryz.ntmps48
        go_wp2_with fail
        refine HW.out.mono ?_
        rintro e w1 ⟨rfl, hb1⟩
        go_wp2
        go_ret2
        rw [HR.out]
        exact ⟨rfl, hb1⟩
      | false =>
        have HR : Aid.Hid2 (C = ([], 0)) := ⟨by rw [HC.out]; rfl⟩
        clear HC
        go_enter Tryz.func48, Tryz.ntmps48
        go_wp2_with fail
        refine HW.out.mono ?_
        rintro e w1 ⟨rfl, hb1⟩
        go_wp2
        go_ret2
        rw [HR.out]
        exact ⟨rfl, hb1⟩
    · generalize Dia.jbytes p = W at *
      obtain ⟨x, ok⟩ := W
      clear HBB HW
      cases ok with
      | true =>
        have HR : Aid.Hid2 (C = (x, 1)) := ⟨by rw [HC.out]; rfl⟩
        clear HC
        go_enter Tryz.func48, Tryz.ntmps48
        go_wp2_with fail
        refine HJ.out.mono ?_
        rintro e w1 ⟨rfl, hb1⟩
        go_wp2
        go_ret2
        rw [HR.out]
        exact ⟨rfl, hb1⟩
      | false =>
        have HR : Aid.Hid2 (C = ([], 0)) := ⟨by rw [HC.out]; rfl⟩
        clear HC
        go_enter Tryz.func48, Tryz.ntmps48
        go_wp2_with fail
        refine HJ.out.mono ?_
        rintro e w1 ⟨rfl, hb1⟩
        go_wp2
        go_ret2
        rw [HR.out]
        exact ⟨rfl, hb1⟩
    · have HR : Aid.Hid2 (C = D) := ⟨by rw [HC.out]; rfl⟩
      clear HC HW HJ
      go_enter Tryz.func48, Tryz.ntmps48
      go_wp2_with fail
      refine HBB.out.mono ?_
      rintro e w1 ⟨rfl, hb1⟩
      go_wp2
      go_ret2
      rw [HR.out]
      exact ⟨rfl, hb1⟩
end Go.Proofs
