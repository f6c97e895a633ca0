/- walks of the third layer's reference -/
import Derived.Test.YteacefgmpkpkpaaDoorV4
import Derived.Deep.RegionLaw
namespace Go.Proofs
open Go.RowKit

/-- append of one cell to a row of the call's own, as one step of a region that draws -/
theorem Aid.step_app {P : Program} {w0 wx : World} {ops : Array Oper} {o : Oper} {a : Act} {K : Act → World → Prop} {Q : Exit → Act → World → Prop} {E : Prop}
    (hg : o.guard = none) (s x : Operand) (t e : TypeId) (bytes : Nat) (hop : o.op = Op.call { callee := Callee.builtin Builtin.append, args := #[s, x], argTypes := #[t, t] })
    (ht : P.underlying t = some (.slice e)) (i : TypeInfo) (z : Value) (hi : P.info? e = some i) (hz : i.zero = some z) (hsize : i.size = 1) (hby : i.bytes = bytes) (hzs : z.cells.size = 1)
    (B : Nat) (v : Value) (n : Nat) (xs : List Value) (u : Value) (hs : a.eval s = v) (hown : wx.ownsRow B e 1 v n xs) (hbel : Below B w0 wx) (hB : B ≤ wx.heap.size)
    (g : Nat) (hx : a.eval x = .slice (some ⟨g, 0, none⟩) 1 1) (hc : wx.cell? ⟨g, 0, none⟩ = some u) (h1 : u.oneCell' = true)
    (h63 : n + 1 ≤ 140737488355328) (hbytes : (n + 1) * bytes ≤ 140737488355328)
    (hK : ∀ v' w', w'.ownsRow B e 1 v' (n + 1) (xs ++ [u]) → Below B w0 w' → B ≤ w'.heap.size → K (a.put o.dst v') w') :
    if Region.wanted o (yielded ops a.tmps) = true then Oper.wp P o a wx K Q else E := by
  have hw : Region.wanted o (yielded ops a.tmps) = true := by simp [Region.wanted, hg]
  rw [if_pos hw]
  refine wp_append_own (P := P) wx s x t hop B e i z 1 bytes ht hi hz hsize hby hzs (by decide) v n xs hs hown ⟨g, 0, none⟩ 1 1 [u] hx rfl ?_ (by simpa using h1) (by unfold maxLen; omega) hbytes hB ?_
  · intro j y hj
    match j, hj with
    | 0, hj => simp at hj; subst hj; simpa [Addr.add] using hc
  · intro v' w' h2 h3 _
    exact hK v' w' h2 (hbel.grown h3 hB (fun k hk => (hown.lt k hk).1)) (Nat.le_trans hB h3.size)
theorem Tryd.c_refUnit (a b : UInt8) (big : Bool) (w : World) :
    Calls Tryd.prog 34 #[.int .u8 a.toNat, .int .u8 b.toNat, .bool big] w fun e w' => e = .returned (.int .i64 (Dia.unit a b big)) ∧ w = w' := by
  have h1 := a.toNat_lt
  have h2 := b.toNat_lt
  have h3 : (a.toNat : Int) < 256 := by omega
  have h4 : (b.toNat : Int) < 256 := by omega
  cases big
  · have E : Aid.Hid2 (Dia.unit a b false = (b.toNat : Int) * 256 + a.toNat) := ⟨rfl⟩
    go_enter Tryd.func34, Tryd.ntmps34
    go_wp2
    go_ret
    exact ⟨Dia.ret_i E.out.symm, rfl⟩
  · have E : Aid.Hid2 (Dia.unit a b true = (a.toNat : Int) * 256 + b.toNat) := ⟨rfl⟩
    go_enter Tryd.func34, Tryd.ntmps34
    go_wp2
    go_ret
    exact ⟨Dia.ret_i E.out.symm, rfl⟩

theorem Tryd.info_i64 : (Tryd.prog.info? 3).map (fun i => (i.zero, i.size, i.bytes)) = some (some (.int .i64 0), 1, 8) := by kernel_rfl
def Dia.nv (x : Int) : Value := .int .i64 x
/-- a text's units -/
def Dia.units (big : Bool) (l : List UInt8) (k : Nat) : List Int := (List.range k).map fun j => Dia.un l (2 * j) big
theorem Dia.units_succ (big : Bool) (l : List UInt8) (k : Nat) : Dia.units big l (k + 1) = Dia.units big l k ++ [Dia.un l (2 * k) big] := by
  unfold Dia.units; rw [List.range_succ]; simp
theorem Dia.units_len (big : Bool) (l : List UInt8) (k : Nat) : (Dia.units big l k).length = k := by simp [Dia.units]
theorem Dia.un_two (s : ByteArray) (i : Nat) (big : Bool) (h : i + 1 < s.size) : Dia.un s.data.toList i big = Dia.unit s[i] s[i + 1] big := by
  unfold Dia.un
  have h1 : s.data.toList.getD i 0 = s[i] := by
    rw [List.getD_eq_getElem?_getD, List.getElem?_eq_getElem (show i < s.data.toList.length by show i < s.size; omega)]; rfl
  have h2 : s.data.toList.getD (i + 1) 0 = s[i + 1] := by
    rw [List.getD_eq_getElem?_getD, List.getElem?_eq_getElem (show i + 1 < s.data.toList.length from h)]; rfl
  rw [h1, h2]

set_option maxRecDepth 100000 in
set_option maxHeartbeats 1000000 in
theorem Tryd.c_refUnits (s : ByteArray) (big : Bool) (w : World) (hs : s.size ≤ 1000000) :
    Calls Tryd.prog 24 #[.string s, .bool big] w fun e w' => ∃ (aa : Option Addr) (cap : Nat), e = .returned (.slice aa (s.size / 2) cap) ∧ Aid.RowAt w' aa ((Dia.units big s.data.toList (s.size / 2)).map Dia.nv) ∧ Below w.heap.size w w' := by
  obtain ⟨i0, hi, hz0, hz1, hz2⟩ := info_parts Tryd.info_i64
  go_enter Tryd.func24, Tryd.ntmps24
  go_wp2
  go_loopw [5, 6] (fun v i wr => ∃ k : Nat, 2 * k ≤ s.size ∧ i = .int .i64 (2 * (k : Int) + 1) ∧
      wr.ownsRow w.heap.size 3 1 v k ((Dia.units big s.data.toList k).map Dia.nv) ∧ Below w.heap.size w wr)
    (fun _ i _ => s.size + 1 - (intOf i).toNat)
  case atStart => exact ⟨0, Nat.zero_le _, rfl, World.ownsRow_nil _ _ _ _, Below.refl _ _⟩
  case round =>
    obtain ⟨k, hk, rfl, hown, hb⟩ := hrel
    by_cases hlt : 2 * k + 1 < s.size
    · have HU := Aid.Hid2.mk (Dia.un_two s (2 * k) big hlt)
      have HS := Aid.Hid2.mk (Dia.units_succ big s.data.toList k)
      have hlt' : 2 * (k : Int) + 1 < (s.size : Int) := by omega
      have h1 : 2 * (k : Int) < (s.size : Int) := by omega
      have hw : IntKind.i64.wrap (2 * (k : Int)) = 2 * (k : Int) := IntWalk.i64_in _ (by omega)
      have h3 : (0 : Int) ≤ 2 * (k : Int) := by omega
      have h4 : (2 * (k : Int)).toNat = 2 * k := by omega
      have h5 : (0 : Int) ≤ 2 * (k : Int) + 1 := by omega
      have h6 : (2 * (k : Int) + 1).toNat = 2 * k + 1 := by omega
      have hsz := hb.size
      go_wp2_with fail
      go_region_law (first
        | (go_simp; go_at_call 34; refine (Tryd.c_refUnit _ _ _ _).mono ?_; rintro e w1 ⟨rfl, rfl⟩)
        | (refine Aid.step_app (w0 := w) rfl (.tmp 13) (.tmp 23) 46 3 8 rfl Tryd.underlying46 i0 _ hi hz0 hz1 hz2 rfl w.heap.size _ k _ (Dia.nv (Dia.unit s[2 * k] s[2 * k + 1] big)) (by simp [Act.eval]) (hown.drew.alloc _) (hb.drew.alloc (show w.heap.size ≤ wr.drew.heap.size from hsz) _) (by simp; omega) wr.heap.size (by simp [Act.eval]) (by simp [Dia.nv]) rfl (by omega) (by omega) ?_
           intro v' w2 hown2 hb2 hsz2))
      all_goals (
        go_wp2
        go_roundw
        case rel => exact ⟨k + 1, by omega, by go_num, by rw [HS.out, HU.out]; simpa [Dia.nv] using hown2, hb2⟩
        case measure => simp [intOf]; omega)
    · have hk2 : s.size / 2 = k := by omega
      obtain ⟨aa, cap, hv, hrow⟩ := Aid.own_row hown
      rw [List.length_map, Dia.units_len] at hv
      subst hv
      go_wp2
      go_ret
      rw [hk2]
      exact ⟨aa, cap, rfl, hrow, hb⟩

theorem Dia.wtwo_false (u : Int) : Dia.wtwo false u = [(u % 256).toNat.toUInt8, (u / 256).toNat.toUInt8] := rfl
theorem Dia.wtwo_true (u : Int) : Dia.wtwo true u = [(u / 256).toNat.toUInt8, (u % 256).toNat.toUInt8] := rfl
theorem Tryd.c_refTwo (u : Int) (big : Bool) (w : World) (hu0 : 0 ≤ u) (hu1 : u ≤ 65535) :
    Calls Tryd.prog 30 #[.int .i32 u, .bool big] w fun e w' => e = .returned (.string ⟨(Dia.wtwo big u).toArray⟩) ∧ Below w.heap.size w w' := by
  cases big
  · have E : Aid.Hid2 (strOfNums [u % 256, u / 256] = ⟨(Dia.wtwo false u).toArray⟩) := ⟨by
      unfold strOfNums; rw [Dia.wtwo_false]; rfl⟩
    go_enter Tryd.func30, Tryd.ntmps30
    go_wp2_with (refine Aid.wpList_conv_ints _ rfl _ _ _ _ rfl Tryd.underlying57 Tryd.underlying5 Tryd.underlying9 ⟨w.heap.size, 0, none⟩ _ [u % 256, u / 256] _ rfl rfl (Aid.cells_new _ _ _ _ _ rfl) ?_)
    go_ret
    exact ⟨Dia.ret_s E.out, (Below.refl _ _).alloc (Nat.le_refl _) _⟩
  · have E : Aid.Hid2 (strOfNums [u / 256, u % 256] = ⟨(Dia.wtwo true u).toArray⟩) := ⟨by
      unfold strOfNums; rw [Dia.wtwo_true]; rfl⟩
    go_enter Tryd.func30, Tryd.ntmps30
    go_wp2_with (refine Aid.wpList_conv_ints _ rfl _ _ _ _ rfl Tryd.underlying57 Tryd.underlying5 Tryd.underlying9 ⟨w.heap.size, 0, none⟩ _ [u / 256, u % 256] _ rfl rfl (Aid.cells_new _ _ _ _ _ rfl) ?_)
    go_ret
    exact ⟨Dia.ret_s E.out, (Below.refl _ _).alloc (Nat.le_refl _) _⟩

set_option maxRecDepth 100000 in
set_option maxHeartbeats 400000 in
theorem Tryd.c_refEncode (a : Option Addr) (l : List Int) (cap : Nat) (big : Bool) (w : World) (hrow : Aid.RowAt w a (l.map Dia.rv)) (hl : l.length ≤ 1000000) (hsc : ∀ p ∈ l, Dia.sc p = true) :
    Calls Tryd.prog 14 #[.slice a l.length cap, .bool big] w fun e w' =>
      e = .returned (.string ⟨(Dia.wens big l).toArray⟩) ∧ Below w.heap.size w w' := by
  go_enter Tryd.func14, Tryd.ntmps14
  go_wp2
  go_loopw [5, 6, 7] (fun v i _ wr => ∃ k : Nat, k ≤ l.length ∧ i = .int .i64 k ∧ v = .string ⟨(Dia.wens big (l.take k)).toArray⟩ ∧ Below w.heap.size w wr)
    (fun _ i _ _ => l.length - (intOf i).toNat)
  case atStart => exact ⟨0, Nat.zero_le _, rfl, rfl, Below.refl _ _⟩
  case round =>
    obtain ⟨k, hk, rfl, rfl, hb⟩ := hrel
    by_cases hlt : k < l.length
    · have ht := Aid.Hid2.mk (Dia.take_snoc l k hlt)
      obtain ⟨b, off, rfl, hcell⟩ := (hrow.below hb).get (k := k) (by simpa using hlt)
      simp only [List.getElem_map, Dia.rv] at hcell
      have hs := hsc l[k] (List.getElem_mem _)
      generalize l[k] = q at *
      clear hsc
      rw [Dia.sc_iff] at hs
      have hwl := Dia.wens_len big (l.take k)
      have htl : (l.take k).length ≤ k := List.length_take_le _ _
      have h2l := Dia.wtwo_len big
      by_cases hq : 65536 ≤ q
      · have HE := Aid.Hid2.mk (Dia.wen_high big hq)
        have hla := h2l (55296 + (q - 65536) / 1024)
        have hlb := h2l (56320 + (q - 65536) % 1024)
        go_wp2_with (first
          | (go_at_call 30; (with_reducible refine (Tryd.c_refTwo (55296 + (q - 65536) / 1024) big _ (by omega) (by omega)).mono ?_); rintro e w1 ⟨rfl, hb1⟩)
          | (go_at_call 30; refine (Tryd.c_refTwo (56320 + (q - 65536) % 1024) big _ (by omega) (by omega)).mono ?_; rintro e w2 ⟨rfl, hb2⟩))
        go_roundw
        case rel => exact ⟨k + 1, by omega, by go_num, by rw [ht.out, Dia.wens_snoc, HE.out, Dia.str_app, Dia.str_app, List.append_assoc], hb.trans (Aid.bt' hb.size hb1 hb2)⟩
        case measure => simp [intOf]; omega
      · have hq' : q < 65536 := by omega
        have HE := Aid.Hid2.mk (Dia.wen_low big hq')
        have hla := h2l q
        go_wp2_with (go_at_call 30; refine (Tryd.c_refTwo q big _ (by omega) (by omega)).mono ?_; rintro e w1 ⟨rfl, hb1⟩)
        go_roundw
        case rel => exact ⟨k + 1, by omega, by go_num, by rw [ht.out, Dia.wens_snoc, HE.out, Dia.str_app], hb.trans (hb1.mono hb.size)⟩
        case measure => simp [intOf]; omega
    · have e : l.take k = l := List.take_of_length_le (by omega)
      rw [e]
      go_wp2
      go_ret
      exact ⟨rfl, hb⟩

/-- what the reference's Decode hands back -/
def Dia.IsRefDecode (big : Bool) (l : List UInt8) (w w' : World) (e : Ending) : Prop :=
  e = .returned (.tuple #[.string ⟨(Dia.encs (Dia.wpts big l).1).toArray⟩, .int .i64 (Dia.wpts big l).2]) ∧ Below w.heap.size w w'
theorem Dia.isRefDecode_bad {big : Bool} {s : ByteArray} {i : Nat} {ps : List Int} {w w' : World} {e : Ending} (hu : Dia.GUp (Dia.wen big) s.data.toList i ps) (hi : i < s.size) (hn : Dia.whd big (s.data.toList.drop i) = (0, 0))
    (j : Int) (hj : j = (i : Int)) (he : e = .returned (.tuple #[.string ⟨#[]⟩, .int .i64 j])) (hb : Below w.heap.size w w') : Dia.IsRefDecode big s.data.toList w w' e := by
  subst hj
  have h := Dia.gUp_bad (Dia.wcoded big) hu hi (by rw [hn])
  unfold Dia.IsRefDecode
  have e1 : Dia.wpts big s.data.toList = ([], (i : Int)) := h
  rw [e1]
  exact ⟨he, hb⟩
theorem Dia.units_get (big : Bool) (l : List UInt8) (n k : Nat) (h : k < n) : ((Dia.units big l n).map Dia.nv)[k]? = some (.int .i64 (Dia.un l (2 * k) big)) := by
  unfold Dia.units
  rw [List.getElem?_map, List.getElem?_map, List.getElem?_range h]
  rfl
set_option maxRecDepth 100000 in
set_option maxHeartbeats 2000000 in
theorem Tryd.c_refDecode (s : ByteArray) (big : Bool) (w : World) (hs : s.size ≤ 1000000) :
    Calls Tryd.prog 9 #[.string s, .bool big] w fun e w' => Dia.IsRefDecode big s.data.toList w w' e := by
  go_enter Tryd.func9, Tryd.ntmps9
  go_wp2_with (go_at_call 24; refine (Tryd.c_refUnits s big _ hs).mono ?_; rintro e w1 ⟨aa, ca, rfl, hrow, hb1⟩)
  obtain ⟨n, hn⟩ : ∃ n, n = s.size / 2 := ⟨_, rfl⟩
  rw [← hn] at hrow
  rw [← hn]
  have hn1 : 2 * n ≤ s.size := by omega
  have hn2 : s.size ≤ 2 * n + 1 := by omega
  clear hn
  go_loopw [7, 8, 9] (fun v i _ wr => ∃ (k : Nat) (ps : List Int), k ≤ n ∧ i = .int .i64 k ∧ Dia.GUp (Dia.wen big) s.data.toList (2 * k) ps ∧ v = .string ⟨(Dia.encs ps).toArray⟩ ∧ Below w1.heap.size w1 wr)
    (fun _ i _ _ => n - (intOf i).toNat)
  case atStart => exact ⟨0, [], Nat.zero_le _, rfl, Dia.gUp_zero _, rfl, Below.refl _ _⟩
  case round =>
    obtain ⟨k, ps, hk, rfl, hu, rfl, hb⟩ := hrel
    have hpl := Dia.gUp_len (Dia.wcoded big) hu
    have hel := Dia.encs_le ps
    have hbw : Below w.heap.size w wr := Aid.bt hb1 hb
    have hln : s.data.toList.length = s.size := rfl
    have HLN := Aid.Hid2.mk hln
    clear hln
    by_cases hlt : k < n
    · have h2 : 2 * k + 1 < s.size := by omega
      obtain ⟨b, off, rfl, hcell⟩ : ∃ b off, aa = some ⟨b, off, none⟩ ∧ ∀ j u, ((Dia.units big s.data.toList n).map Dia.nv)[j]? = some u → wr.cell? ⟨b, off + j, none⟩ = some u := by
        rcases hrow.below hb with h | h
        · have := congrArg List.length h
          rw [List.length_map, Dia.units_len] at this
          simp at this; omega
        · exact h
      have hc0 := hcell k _ (Dia.units_get big _ n k hlt)
      have HC1 := Aid.Hid2.mk (fun h => hcell (k + 1) _ (Dia.units_get big s.data.toList n (k + 1) h))
      clear hcell
      obtain ⟨hub0, hub1⟩ : 0 ≤ Dia.un s.data.toList (2 * k) big ∧ Dia.un s.data.toList (2 * k) big ≤ 65535 := Dia.unit_bd _ _ _
      by_cases hsc : Dia.sc (Dia.un s.data.toList (2 * k) big) = true
      · have hgood := Aid.Hid2.mk (Dia.whd_plain (l := s.data.toList) (i := 2 * k) (big := big) (by rw [HLN.out]; exact h2) hsc)
        have hen := Dia.enc_len hsc
        have HSC := Aid.Hid2.mk hsc
        rw [Dia.sc_iff] at hsc
        generalize Dia.un s.data.toList (2 * k) big = u at *
        go_wp2_with (go_at_call 25; refine (Tryd.c_refBytes _ _ HSC.out).mono ?_; rintro e w2 ⟨rfl, hb2⟩)
        all_goals (
          go_roundw
          case rel => exact ⟨k + 1, _, by omega, by go_num, Dia.gUp_step (Dia.wcoded big) hu hgood.out (by decide), by rw [Dia.encs_snoc, Dia.str_app], hb.trans (hb2.mono hb.size)⟩
          case measure => simp [intOf]; omega)
      · have hsc' : Dia.sc (Dia.un s.data.toList (2 * k) big) = false := by simpa using hsc
        have hsr : 55296 ≤ Dia.un s.data.toList (2 * k) big ∧ Dia.un s.data.toList (2 * k) big ≤ 57343 := by
          rw [Dia.sc_iff] at hsc; omega
        obtain ⟨hsr0, hsr1⟩ := hsr
        clear hsc hub0 hub1
        have hk2 : 2 * (k : Int) = ((2 * k : Nat) : Int) := by omega
        have HK2 := Aid.Hid2.mk hk2
        clear hk2
        by_cases h4 : 2 * k + 3 < s.size
        · have hk1 : k + 1 < n := by omega
          have hc1 := HC1.out hk1
          have hsv := Dia.whd_pair (l := s.data.toList) (i := 2 * k) (big := big) (by rw [HLN.out]; exact h4) hsc'
          rw [show 2 * (k + 1) = 2 * k + 2 from by omega] at hc1
          obtain ⟨hv0, hv1⟩ : 0 ≤ Dia.un s.data.toList (2 * k + 2) big ∧ Dia.un s.data.toList (2 * k + 2) big ≤ 65535 := Dia.unit_bd _ _ _
          by_cases hok : Dia.un s.data.toList (2 * k) big < 55296 ∨ 56319 < Dia.un s.data.toList (2 * k) big ∨ Dia.un s.data.toList (2 * k + 2) big < 56320 ∨ 57343 < Dia.un s.data.toList (2 * k + 2) big
          · have hbad : Aid.Hid2 (Dia.whd big (List.drop (2 * k) s.data.toList) = (0, 0)) := ⟨by rw [hsv]; unfold Dia.pairv; rw [if_pos hok]; rfl⟩
            clear hsv hsc'
            generalize Dia.un s.data.toList (2 * k) big = u at *
            generalize Dia.un s.data.toList (2 * k + 2) big = v at *
            go_wp2_with fail
            all_goals first
              | (exfalso; omega)
              | (go_ret2
                 exact Dia.isRefDecode_bad hu (by omega) hbad.out (2 * (k : Int)) (by omega) rfl hbw)
          · have hok1 : Dia.un s.data.toList (2 * k) big ≤ 56319 := by omega
            have hok2 : 56320 ≤ Dia.un s.data.toList (2 * k + 2) big := by omega
            have hok3 : Dia.un s.data.toList (2 * k + 2) big ≤ 57343 := by omega
            have hgood : Aid.Hid2 (Dia.whd big (List.drop (2 * k) s.data.toList) = (65536 + (Dia.un s.data.toList (2 * k) big - 55296) * 1024 + (Dia.un s.data.toList (2 * k + 2) big - 56320), 4)) := ⟨by rw [hsv]; unfold Dia.pairv; rw [if_neg hok]; rfl⟩
            clear hsv hsc' hok
            generalize Dia.un s.data.toList (2 * k) big = u at *
            generalize Dia.un s.data.toList (2 * k + 2) big = v at *
            have HB : Aid.Hid2 (∀ w, Calls Tryd.prog 25 #[.int .i32 (65536 + (u - 55296) * 1024 + v - 56320)] w fun e w' => e = .returned (.string ⟨(Dia.enc (65536 + (u - 55296) * 1024 + (v - 56320))).toArray⟩) ∧ Below w.heap.size w w') :=
              ⟨fun w => by
                have := Tryd.c_refBytes (65536 + (u - 55296) * 1024 + (v - 56320)) w (by rw [Dia.sc_iff]; omega)
                rw [show 65536 + (u - 55296) * 1024 + v - 56320 = 65536 + (u - 55296) * 1024 + (v - 56320) from by omega]
                exact this⟩
            have hen := Dia.enc_len (p := 65536 + (u - 55296) * 1024 + (v - 56320)) (by rw [Dia.sc_iff]; omega)
            go_wp2_with (go_at_call 25; refine (HB.out _).mono ?_; rintro e w2 ⟨rfl, hb2⟩)
            all_goals (
              go_roundw
              case rel => exact ⟨k + 2, _, by omega, by go_num, Dia.gUp_step (Dia.wcoded big) hu hgood.out (by decide), by rw [Dia.encs_snoc, Dia.str_app], hb.trans (hb2.mono hb.size)⟩
              case measure => simp [intOf]; omega)
        · have hbad := Aid.Hid2.mk (Dia.whd_cut (l := s.data.toList) (i := 2 * k) (big := big) (by rw [HLN.out]; exact h2) hsc' (by rw [HLN.out]; omega))
          have hk1 : n ≤ k + 1 := by omega
          clear hsc'
          generalize Dia.un s.data.toList (2 * k) big = u at *
          go_wp2_with fail
          all_goals first
            | (exfalso; omega)
            | (go_ret2
               exact Dia.isRefDecode_bad hu (by omega) hbad.out (2 * (k : Int)) (by omega) rfl hbw)
    · have hkn : k = n := by omega
      by_cases hodd : s.size % 2 = 1
      · have h1 : 2 * k + 1 = s.size := by omega
        have hbad := Aid.Hid2.mk (Dia.whd_one (l := s.data.toList) (i := 2 * k) (big := big) (by rw [HLN.out]; exact h1))
        have hq : ((s.size : Int) % 2 == 1) = true := by simp; omega
        go_wp2
        go_ret2
        exact Dia.isRefDecode_bad hu (by omega) hbad.out ((s.size : Int) - 1) (by omega) rfl hbw
      · have hend := Aid.Hid2.mk (Dia.gUp_end (Dia.wcoded big) hu (by rw [HLN.out]; omega))
        have hq : ((s.size : Int) % 2 == 1) = false := by simp; omega
        go_wp2
        go_ret2
        have e1 : Dia.wpts big s.data.toList = (ps, -1) := hend.out
        unfold Dia.IsRefDecode
        rw [e1]
        exact ⟨rfl, hbw⟩
end Go.Proofs
