/- walks of wansung: mask; the index of a constant text -/
import Derived.Test.YtfiinmidcmgphaaDoorC1
import Derived.Test.YtfiinmidcmgphaaDoorT1
import Derived.Test.YtfiinmidcmgphaaDoorOct
import Derived.Shelf.Spec.TrailingZeros
namespace Go.Proofs
open Go.RowKit

namespace Aid
/-- 's[i:j]' of a text whose bytes are told elsewhere -/
theorem wpList_slice_str {P : Program} (w : World) {ops : Array Oper} {rest : List Oper} {o : Oper} {a : Act} {Q : Exit → Act → World → Prop}
    (hg : o.guard = none) (t : TypeId) (x lo hi : Operand) (hop : o.op = Op.slice t x (some lo) (some hi) none) (ht : P.underlying t = some .string)
    (s : ByteArray) (S : List UInt8) (hx : a.eval x = .string s) (hS : s = ⟨S.toArray⟩) (i j : Int) (hi' : a.eval lo = .int .i64 i) (hj' : a.eval hi = .int .i64 j)
    (h0 : 0 ≤ i) (h1 : i ≤ j) (h2 : j ≤ S.length) (l : List UInt8) (hl : (S.drop i.toNat).take (j.toNat - i.toNat) = l) (hK : wpList P ops Q rest (a.put o.dst (.string ⟨l.toArray⟩)) w) :
    wpList P ops Q (o :: rest) a w := by
  refine wpList_plain hg fun K hK' => ?_
  subst hS
  have hrun := run_slice_string (P := P) w t ⟨S.toArray⟩ .i64 .i64 i j ht h0 h1 (by simpa [ByteArray.size] using h2)
  rw [ByteArray.extract_mk, hl] at hrun
  unfold Oper.wp
  simp [execOp, hop, hx, hi', hj', run_sliceAt_string _ _ _ _ _ _ ht, hrun, Result.andThen]
  exact hK' _ _ hK
/-- 's[i]' of such a text -/
theorem wpList_index_str {P : Program} (w : World) {ops : Array Oper} {rest : List Oper} {o : Oper} {a : Act} {Q : Exit → Act → World → Prop}
    (hg : o.guard = none) (t : TypeId) (x i : Operand) (hop : o.op = Op.index t x i) (ht : P.underlying t = some .string)
    (s : ByteArray) (S : List UInt8) (hx : a.eval x = .string s) (hS : s = ⟨S.toArray⟩) (k : IntKind) (n : Int) (hi' : a.eval i = .int k n) (v : Nat) (hv : (S.getD n.toNat 0).toNat = v)
    (h0 : 0 ≤ n) (h1 : n < S.length) (hK : wpList P ops Q rest (a.put o.dst (.int .u8 v)) w) :
    wpList P ops Q (o :: rest) a w := by
  refine wpList_plain hg fun K hK' => ?_
  subst hS
  have hs : ((ByteArray.mk S.toArray).size : Int) = S.length := by simp [ByteArray.size]
  have h1' : n.toNat < S.length := by omega
  have e : (ByteArray.mk S.toArray)[n.toNat]'(by simpa [ByteArray.size] using h1') = S.getD n.toNat 0 := by
    rw [List.getD_eq_getElem?_getD, List.getElem?_eq_getElem h1']
    rfl
  have hrun := run_index_string (P := P) w t ⟨S.toArray⟩ k n ht
  rw [dif_pos ⟨by omega, by rw [hs]; omega⟩, e, hv] at hrun
  unfold Oper.wp
  simp [execOp, hop, hx, hi', hrun, Result.andThen]
  exact hK' _ _ hK
/-- '[]byte(s)' -/
theorem wpList_conv_bytes {P : Program} (w : World) {ops : Array Oper} {rest : List Oper} {o : Oper} {a : Act} {Q : Exit → Act → World → Prop}
    (hg : o.guard = none) (x : Operand) (src dst e : TypeId) (hop : o.op = Op.convert src dst x)
    (hs : P.underlying src = some .string) (hd : P.underlying dst = some (.slice e)) (he : P.underlying e = some (.int .u8))
    (l : List UInt8) (n : Nat) (hn : l.length = n) (hx : a.eval x = .string ⟨l.toArray⟩)
    (h : ∀ w' cap, Aid.RowAt w' (some ⟨w.heap.size, 0, none⟩) (l.map Dia.bv) → Below w.heap.size w w' → wpList P ops Q rest (a.put o.dst (.slice (some ⟨w.heap.size, 0, none⟩) n cap)) w') :
    wpList P ops Q (o :: rest) a w := by
  refine wpList_plain hg fun K hK' => ?_
  have hrun := run_bytes_of_string (P := P) w src dst e ⟨l.toArray⟩ hs hd he
  have hsz : (ByteArray.mk l.toArray).size = n := by simp [ByteArray.size, hn]
  have hcell : ∀ cap fr, Aid.RowAt (w.drew.alloc (.cells (bytesRow ⟨l.toArray⟩ cap) e fr)) (some ⟨w.heap.size, 0, none⟩) (l.map Dia.bv) := fun cap fr => .inr ⟨_, _, rfl, fun j u hj => by
    have h1 := World.cell?_alloc_mark w.drew (bytesRow ⟨l.toArray⟩ cap) e fr (0 + j)
    have h2 : (bytesRow ⟨l.toArray⟩ cap)[0 + j]? = some u := by
      obtain ⟨hj1, hj2⟩ := List.getElem?_eq_some_iff.1 hj
      have hj3 : j < l.length := by simpa using hj1
      rw [Nat.zero_add, bytesRow_at _ _ _ (by simpa using hj3), ← hj2]
      simp [Dia.bv]
    rw [h2] at h1
    exact h1⟩
  have hbel : ∀ C : Obj, Below w.heap.size w (w.drew.alloc C) := fun C => ((Below.refl _ _).drew).alloc (Nat.le_refl _) _
  rw [hsz] at hrun
  unfold Oper.wp
  simp [execOp, hop, hx, hrun, Result.andThen]
  exact hK' _ _ (h _ _ (hcell _ _) (hbel _))
end Aid
/-- a group's seven digits -/
def Dia.chunk (g : Nat) : List UInt8 := (Dia.mem.drop (7 * g)).take 7
theorem Dia.chunk_len (g : Nat) (h : g < 399) : (Dia.chunk g).length = 7 := by
  unfold Dia.chunk
  rw [List.length_take, List.length_drop, Dia.mem_len]
  omega
theorem Dia.chunk_of (g : Nat) (i j : Int) (hi : i = 7 * (g : Int)) (hj : j = 7 * (g : Int) + 7) : (Dia.mem.drop i.toNat).take (j.toNat - i.toNat) = Dia.chunk g := by
  have a1 : i.toNat = 7 * g := by omega
  have a2 : j.toNat - i.toNat = 7 := by omega
  rw [a2, a1]; rfl
theorem Dia.chunk_get (g i : Nat) (h : g < 399) (hi : i < 7) : (Dia.chunk g)[i]? = some (Dia.mem.getD (7 * g + i) 0) := by
  unfold Dia.chunk
  rw [List.getElem?_take, if_pos hi, List.getElem?_drop, List.getD_eq_getElem?_getD, List.getElem?_eq_getElem (by rw [Dia.mem_len]; omega)]
  rfl
theorem Dia.or16 (a c : Int) (h0 : 0 ≤ a) (h1 : a < 16777216) (c0 : 0 ≤ c) (c1 : c < 16) : bits .or .u32 (a * 16) c = a * 16 + c := by
  obtain ⟨n, rfl⟩ := Int.eq_ofNat_of_zero_le h0
  obtain ⟨m, rfl⟩ := Int.eq_ofNat_of_zero_le c0
  show IntKind.u32.wrap ((BitVec.ofInt 32 ((n : Int) * 16) ||| BitVec.ofInt 32 (m : Int)).toNat : Int) = _
  have hm : m < 2 ^ 4 := by omega
  have e1 : ((n : Int) * 16) = ((16 * n : Nat) : Int) := by omega
  have e2 : (2 ^ 4 * n ||| m) = 2 ^ 4 * n + m := (Nat.two_pow_add_eq_or_of_lt hm n).symm
  rw [e1, BitVec.ofInt_natCast, BitVec.ofInt_natCast, BitVec.toNat_or, BitVec.toNat_ofNat, BitVec.toNat_ofNat, Nat.mod_eq_of_lt (by omega), Nat.mod_eq_of_lt (by omega)]
  rw [show 16 * n = 2 ^ 4 * n from rfl, e2, wrap_u32']
  omega
set_option maxRecDepth 100000 in
set_option maxHeartbeats 1000000 in
theorem Tryd.c_mask (g : Nat) (w : World) (hg : g < 399) :
    Calls Tryd.prog 21 #[.int .i64 g] w fun e w' => e = .returned (.int .u32 (Dia.maskN g)) ∧ Below w.heap.size w w' := by
  have e1 : IntKind.i64.wrap (7 * (g : Int)) = 7 * (g : Int) := IntWalk.i64_in _ (by omega)
  have e2 : IntKind.i64.wrap (7 * (g : Int) + 7) = 7 * (g : Int) + 7 := IntWalk.i64_in _ (by omega)
  go_enter Tryd.func21, Tryd.ntmps21
  go_wp2_with (first
    | (refine Aid.wpList_slice_str _ rfl _ _ _ _ rfl Tryd.underlying9 _ Dia.mem rfl (by kernel_rfl) _ _ rfl rfl (by omega) (by omega) (by rw [Dia.mem_len]; omega) (Dia.chunk g) (Dia.chunk_of g _ _ rfl rfl) ?_)
    | (refine Aid.wpList_conv_bytes _ rfl _ _ _ _ rfl Tryd.underlying9 Tryd.underlying37 Tryd.underlying5 (Dia.chunk g) 7 (Dia.chunk_len g hg) rfl ?_))
  intro w1 cap hr hb1
  go_wp2_with fail
  go_loopw [3, 5, 6, 15] (fun n _ _ i wr => ∃ k : Nat, k ≤ 7 ∧ i = .int .i64 k ∧ n = .int .u32 (Dia.maskK g k) ∧ Below w1.heap.size w1 wr)
    (fun _ _ _ i _ => 7 - (intOf i).toNat)
  case atStart => exact ⟨0, by omega, rfl, rfl, Below.refl _ _⟩
  case round =>
    obtain ⟨k, hk, rfl, rfl, hb⟩ := hrel
    by_cases hlt : k < 7
    · have hm := Dia.maskK_lt g k (by omega)
      have h16 : 16 ^ k ≤ 16 ^ 6 := Nat.pow_le_pow_right (by decide) (by omega)
      have HS : Aid.Hid2 (Dia.maskK g (k + 1) = Dia.maskK g k * 16 + Dia.dg g k) := ⟨rfl⟩
      have hx := Dia.mem_hex _ (Dia.mem_at (7 * g + k) (by omega))
      have HG : Aid.Hid2 (Dia.dg g k = Dia.dig (Dia.mem.getD (7 * g + k) 0)) := ⟨rfl⟩
      have hcell : wr.cell? ⟨w.heap.size, k, none⟩ = some (.int .u8 (Dia.mem.getD (7 * g + k) 0).toNat) := by
        have h1 := (hr.below hb)
        rcases h1 with h1 | ⟨b, o, e, h1⟩
        · have := congrArg List.length h1
          rw [List.length_map, Dia.chunk_len g hg] at this
          cases this
        · cases e
          have := h1 k (Dia.bv (Dia.mem.getD (7 * g + k) 0)) (by rw [List.getElem?_map, Dia.chunk_get g k hg hlt]; rfl)
          rw [Nat.zero_add] at this
          exact this
      generalize Dia.mem.getD (7 * g + k) 0 = c at *
      generalize Dia.maskK g k = m at *
      have hm' : m < 16777216 := by omega
      rcases hx with ⟨x0, x1⟩ | ⟨x0, x1⟩
      · have ho := Dia.or16 m ((c.toNat : Int) - 48) (by omega) (by omega) (by omega) (by omega)
        have HV : Aid.Hid2 ((m : Int) * 16 + ((c.toNat : Int) - 48) = (Dia.maskK g (k + 1) : Nat)) := ⟨by
          rw [HS.out, HG.out]
          unfold Dia.dig
          rw [if_neg (by omega)]
          omega⟩
        clear hm h16 HS HG
        generalize c.toNat = x at *
        have e3 : IntKind.u8.wrap ((x : Int) - 48) = (x : Int) - 48 := by rw [IntKind.wrap_u8]; omega
        go_wp2
        go_roundw
        case rel => exact ⟨k + 1, by omega, by go_num, by rw [← HV.out], hb⟩
        case measure => simp [intOf]; omega
      · have ho := Dia.or16 m ((c.toNat : Int) - 97 + 10) (by omega) (by omega) (by omega) (by omega)
        have HV : Aid.Hid2 ((m : Int) * 16 + ((c.toNat : Int) - 97 + 10) = (Dia.maskK g (k + 1) : Nat)) := ⟨by
          rw [HS.out, HG.out]
          unfold Dia.dig
          rw [if_pos (by omega)]
          omega⟩
        clear hm h16 HS HG
        generalize c.toNat = x at *
        have e3 : IntKind.u8.wrap ((x : Int) - 48) = (x : Int) - 48 := by rw [IntKind.wrap_u8]; omega
        have e4 : IntKind.u8.wrap ((x : Int) - 97) = (x : Int) - 97 := by rw [IntKind.wrap_u8]; omega
        go_wp2
        go_roundw
        case rel => exact ⟨k + 1, by omega, by go_num, by rw [← HV.out], hb⟩
        case measure => simp [intOf]; omega
    · obtain rfl : k = 7 := by omega
      go_wp2
      go_ret
      exact ⟨rfl, Aid.bt hb1 hb⟩
end Go.Proofs
