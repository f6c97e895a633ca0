/- walks of point: Text, Points; walks of point: Points -/
import Derived.Test.YtoaojojapebamaaGreatDoorM03
namespace Go.Proofs
open Go.RowKit

def Dia.bv (b : UInt8) : Value := .int .u8 b.toNat
def Dia.rv (p : Int) : Value := .int .i32 p
theorem Dia.runeCells_eq (p : Int) : Lib.runeCells p = (Dia.enc p).map Dia.bv := by
  unfold Lib.runeCells Dia.enc Lib.encodeRune
  rw [List.map_map]
  refine List.map_congr_left fun x hx => ?_
  have := Lib.encodeRuneZ_byte p x hx
  show Value.int .u8 x = Value.int .u8 ((x.toNat.toUInt8).toNat : Int)
  rw [Dia.u8 _ (by omega)]
  congr 1
  omega

/-- signs as a text, and whether all are -/
def Dia.txt (l : List Int) : List UInt8 × Bool := if l.all Dia.sc then (Dia.encs l, true) else ([], false)
theorem Dia.txt_ok {l : List Int} (h : ∀ p ∈ l, Dia.sc p = true) : Dia.txt l = (Dia.encs l, true) := by
  unfold Dia.txt; rw [if_pos (by simpa using h)]
theorem Dia.txt_bad {l : List Int} {p : Int} (hp : p ∈ l) (h : Dia.sc p = false) : Dia.txt l = ([], false) := by
  unfold Dia.txt; rw [if_neg (by simp; exact ⟨p, hp, h⟩)]
theorem Dia.encs_le : ∀ (l : List Int), (Dia.encs l).length ≤ 4 * l.length
  | [] => by simp [Dia.encs_nil]
  | p :: l => by
    have h1 : (Dia.enc p).length ≤ 4 := by
      unfold Dia.enc Lib.encodeRune Lib.encodeRuneZ
      rw [List.length_map]
      repeat' split
      all_goals simp
    have h2 := Dia.encs_le l
    rw [Dia.encs_cons, List.length_append, List.length_cons]; omega
theorem Dia.take_snoc {α : Type} (l : List α) (k : Nat) (h : k < l.length) : l.take (k + 1) = l.take k ++ [l[k]] := by
  rw [List.take_succ_eq_append_getElem h]

theorem Tryz.info_u8 : (Tryz.prog.info? 5).map (fun i => (i.zero, i.size, i.bytes)) = some (some (.int .u8 0), 1, 1) := by kernel_rfl
theorem Tryz.info_i32 : (Tryz.prog.info? 21).map (fun i => (i.zero, i.size, i.bytes)) = some (some (.int .i32 0), 1, 4) := by kernel_rfl

/-- AppendRune, as the walks meet it -/
theorem Tryz.c_AppendRune (B : Nat) (v : Value) (l : List UInt8) (r : Int) (hr : Dia.sc r = true) (w0 w : World) (hown : w.ownsRow B 5 1 v l.length (l.map Dia.bv)) (hlen : l.length ≤ 10000000) (hbel : Below B w0 w) (hB : B ≤ w.heap.size) :
    Calls Tryz.prog 66 #[v, .int .i32 r] w fun e w' => ∃ v', e = .returned v' ∧ w'.ownsRow B 5 1 v' (l ++ Dia.enc r).length ((l ++ Dia.enc r).map Dia.bv) ∧ Below B w0 w' ∧ B ≤ w'.heap.size := by
  rw [Dia.sc_iff] at hr
  refine (Tryz.utf8_AppendRune_plain B v l.length (l.map Dia.bv) r (by omega) (by omega) w hown (by omega) hB).mono fun e w' ⟨v', h1, h2, o, h3⟩ => ⟨v', h1, ?_, ?_, ?_⟩
  · rw [Dia.runeCells_eq] at h2
    simpa using h2
  · have hb2 := (World.grownBy_alloc w o v.ownBlock)
    refine hbel.grown (row := v.ownBlock) ⟨h3.os.trans hb2.os, h3.tape.trans hb2.tape, h3.output.trans hb2.output, Nat.le_trans hb2.size h3.size,
      fun k hk hne => (h3.block k (by simp; omega) hne).trans (hb2.block k hk hne)⟩ hB (fun k hk => (hown.lt k hk).1)
  · have := h3.size
    simp at this; omega

set_option maxRecDepth 100000 in
set_option maxHeartbeats 400000 in
theorem Tryz.c_Text (a : Option Addr) (l : List Int) (cap : Nat) (w : World) (hrow : Aid.RowAt w a (l.map Dia.rv)) (hl : l.length ≤ 1000000) :
    Calls Tryz.prog 30 #[.slice a l.length cap] w fun e w' =>
      e = .returned (.tuple #[.string ⟨(Dia.txt l).1.toArray⟩, .bool (Dia.txt l).2]) ∧ Below w.heap.size w w' := by
  go_enter Tryz.func30, Tryz.ntmps30
  go_wp2
  go_loopw [4, 6, 9] (fun v _ i wr => ∃ k : Nat, k ≤ l.length ∧ i = .int .i64 k ∧ (∀ p ∈ l.take k, Dia.sc p = true) ∧ wr.ownsRow w.heap.size 5 1 v (Dia.encs (l.take k)).length ((Dia.encs (l.take k)).map Dia.bv) ∧ Below w.heap.size w wr ∧ w.heap.size ≤ wr.heap.size)
    (fun _ _ i _ => l.length - (intOf i).toNat)
  case atStart => exact ⟨0, Nat.zero_le _, rfl, by simp, World.ownsRow_nil _ _ _ _, Below.refl _ _, Nat.le_refl _⟩
  case round =>
    obtain ⟨k, hk, rfl, hsc, hown, hb, hsz⟩ := hrel
    have hle := Dia.encs_le (l.take k)
    have htl : (l.take k).length ≤ k := List.length_take_le _ _
    by_cases hlt : k < l.length
    · have ht := Dia.take_snoc l k hlt
      obtain ⟨b, off, rfl, hcell⟩ := (hrow.below hb).get (k := k) (by simpa using hlt)
      simp only [List.getElem_map, Dia.rv] at hcell
      have Ht := Lib.hid ht
      clear ht
      generalize hq : l[k] = q at *
      have Hq := Lib.hid hq
      clear hq
      by_cases hs : Dia.sc q = true
      · go_wp2_with (first
          | (go_at_call 55; refine (Tryz.c_Scalar _ _).mono ?_; rintro e w' ⟨rfl, rfl⟩)
          | (go_at_call 66; refine (Tryz.c_AppendRune w.heap.size _ _ _ hs w _ hown (by omega) hb hsz).mono ?_; rintro e w1 ⟨v', rfl, hown1, hb1, hsz1⟩))
        go_roundw
        case rel =>
          refine ⟨k + 1, by omega, by go_num, ?_, ?_, hb1, hsz1⟩
          · rw [Ht.out]
            intro p hp
            rcases List.mem_append.1 hp with hp | hp
            · exact hsc p hp
            · rw [List.mem_singleton] at hp; subst hp; exact hs
          · rw [Ht.out, Dia.encs_snoc]; exact hown1
        case measure => simp [intOf]; omega
      · have hs' : Dia.sc q = false := by simpa using hs
        clear hs
        go_wp2_with (go_at_call 55; refine (Tryz.c_Scalar _ _).mono ?_; rintro e w' ⟨rfl, rfl⟩)
        go_ret2
        have hbad := Dia.txt_bad (l := l) (p := q) (by rw [← Hq.out]; exact List.getElem_mem _) hs'
        rw [hbad]
        exact ⟨rfl, hb⟩
    · have e : l.take k = l := List.take_of_length_le (by omega)
      rw [e] at hown hsc
      have hok := Lib.hid (Dia.txt_ok hsc)
      go_wp2_with (refine Aid.wpList_conv_own _ rfl _ _ _ _ rfl Tryz.underlying35 Tryz.underlying5 Tryz.underlying9 _ _ _ (Dia.encs l) rfl hown ?_)
      go_ret2
      rw [hok.out]
      exact ⟨rfl, hb⟩
end Go.Proofs
namespace Go.Proofs
open Go.RowKit

/-- what Points hands back -/
def Dia.IsPoints (l : List UInt8) (w w' : World) (e : Ending) : Prop :=
  ∃ (aa : Option Addr) (cap : Nat) (a b : Int), e = .returned (.tuple #[.slice aa (Dia.pts l).1.length cap, .agg #[.int .i64 a, .int .i64 b]]) ∧
    Aid.RowAt w' aa ((Dia.pts l).1.map Dia.rv) ∧ Dia.IsFault (Dia.pts l).2 a b ∧ Below w.heap.size w w'

set_option maxRecDepth 100000 in
set_option maxHeartbeats 400000 in
theorem Tryz.c_Points (s : ByteArray) (w : World) (hs : s.size ≤ 1000000) (hT : Tryz.Tabs w) :
    Calls Tryz.prog 31 #[.string s] w fun e w' => Dia.IsPoints s.data.toList w w' e := by
  obtain ⟨i0, hi, hz0, hz1, hz2⟩ := info_parts Tryz.info_i32
  go_enter Tryz.func31, Tryz.ntmps31
  go_wp2
  go_loopw [4, 5, 6, 7] (fun v i _ _ wr => ∃ (k : Nat) (ps : List Int), i = .int .i64 k ∧ Dia.UpTo s.data.toList k ps ∧
      wr.ownsRow (w.heap.size + 1) 21 1 v ps.length (ps.map Dia.rv) ∧ Below (w.heap.size + 1) (w.alloc (.cells #[.int .i64 0, .int .i64 0] 26)) wr)
    (fun _ i _ _ _ => s.size - (intOf i).toNat)
  case atStart => exact ⟨0, [], rfl, Dia.upTo_zero _, World.ownsRow_nil _ _ _ _, Below.refl _ _⟩
  case round =>
    obtain ⟨k, ps, rfl, hu, hown, hb⟩ := hrel
    have hk : k ≤ s.size := Dia.upTo_le hu
    have hpl := Dia.upTo_len hu
    have hbw : Below w.heap.size w wr := Aid.below_new hb (Nat.le_refl _)
    have hBr := Aid.new_lt hb
    have hTr : Tryz.Tabs wr := hT.below hbw
    have h4 := Dia.hd_le (s.data.toList.drop k)
    by_cases hlt : k < s.size
    · go_wp2_with (first
        | (go_at_call 52; refine (Tryz.c_next s k _ hk (by omega) hTr).mono ?_; rintro e w1 ⟨rfl, hb1⟩; obtain ⟨c0, c1, f0, f1⟩ := Aid.cells2 (hb.trans (hb1.mono hBr)))
        | (at_builtin; refine Aid.wpList_app1 (w0 := w.alloc (.cells #[.int .i64 0, .int .i64 0] 26)) _ rfl _ _ 57 21 1 4 rfl Tryz.underlying57 i0 _ hi hz0 hz1 hz2 rfl (by decide) (w.heap.size + 1) _ _ _ #[.int .i32 (Dia.hd (List.drop k s.data.toList)).1] _ rfl _ rfl (Aid.ownsRow_below hown hb1) (hb.trans (hb1.mono hBr)) ?_ rfl rfl ?_ ?_ ?_ ?_))
      · have hz : (((Dia.hd (List.drop k s.data.toList)).2 : Int) == 0) = true := by assumption
        exact bodyPost_ret (v := .tuple #[.slice none 0 0, .agg #[.int .i64 2, .int .i64 k]]) (by simp [results, Tryz.results31, go_sem, c0, c1]) rfl (by
          unfold Dia.IsPoints
          rw [Dia.upTo_bad hu hlt (by simpa using hz)]
          exact ⟨none, 0, 2, k, rfl, .inl rfl, Dia.isFault_at k, ((hbw.trans (hb1.mono (by omega))).setCell (Nat.le_refl _) _).setCell (Nat.le_refl _) _⟩)
      · have := hb1.size; omega
      · rfl
      · omega
      · omega
      · intro v' w2 hown2 hb2 hsz2 _
        have hz : (((Dia.hd (List.drop k s.data.toList)).2 : Int) == 0) = false := by assumption
        have hz' : (Dia.hd (List.drop k s.data.toList)).2 ≠ 0 := by simpa using hz
        go_wp2
        go_roundw
        case rel => exact ⟨k + (Dia.hd (List.drop k s.data.toList)).2, _, by go_num, Dia.upTo_step hu hz', by simpa [Dia.rv] using hown2, hb2⟩
        case measure => simp [intOf]; omega
    · obtain ⟨c0, c1, f0, f1⟩ := Aid.cells2 hb
      have hend := Lib.hid (Dia.upTo_end hu hlt)
      obtain ⟨aa, cap, rfl, hrow⟩ := Aid.own_row hown
      go_wp2
      exact bodyPost_ret (v := .tuple #[.slice aa (ps.map Dia.rv).length cap, .agg #[.int .i64 0, .int .i64 0]]) (by simp [results, Tryz.results31, go_sem, c0, c1]) rfl (by
          unfold Dia.IsPoints
          rw [hend.out]
          have hbb : Below w.heap.size w ((wr.setCell ⟨w.heap.size, 0, none⟩ (.int .i64 0)).setCell ⟨w.heap.size, 1, none⟩ (.int .i64 0)) := (hbw.setCell (Nat.le_refl _) _).setCell (Nat.le_refl _) _
          refine ⟨aa, cap, 0, 0, by rw [List.length_map], ?_, Dia.isFault_none, hbb⟩
          exact Aid.own_at (ownsRow_setCell_below (ownsRow_setCell_below hown (by show w.heap.size < w.heap.size + 1; omega) _) (by show w.heap.size < w.heap.size + 1; omega) _))
end Go.Proofs
