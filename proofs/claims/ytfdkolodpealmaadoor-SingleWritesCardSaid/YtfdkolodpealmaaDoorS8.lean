/- walks of single's reference: Byte, Decode, Encode -/
import Derived.Test.YtfdkolodpealmaaDoorS6
import Derived.Test.YtfdkolodpealmaaDoorS7
namespace Go.Proofs
open Go.RowKit

theorem Dia.idxB_step {l : List Int} {p : Int} {n : Nat} (hn : n < l.length) (h : l.getD n 0 = p) (h0 : ∀ k, k < n → l.getD k 0 ≠ p) : Dia.idxB l p = n := by
  have e : l[n] = p := by rw [List.getD_eq_getElem?_getD, List.getElem?_eq_getElem hn] at h; exact h
  have hx : l.findIdx? (fun q => q == p) = some n := by
    rw [List.findIdx?_eq_some_iff_getElem]
    refine ⟨hn, by simp [e], fun j hj => ?_⟩
    intro hc
    have h2 : l[j] = p := by simpa using hc
    have := h0 j hj
    rw [List.getD_eq_getElem?_getD, List.getElem?_eq_getElem (by omega)] at this
    exact this h2
  unfold Dia.idxB
  rw [hx]
theorem Dia.idxB_none {l : List Int} {p : Int} (h0 : ∀ k, k < l.length → l.getD k 0 ≠ p) : Dia.idxB l p = -1 := by
  have hx : l.findIdx? (fun q => q == p) = none := by
    rw [List.findIdx?_eq_none_iff]
    intro q hq
    obtain ⟨k, hk, rfl⟩ := List.getElem_of_mem hq
    have := h0 k hk
    rw [List.getD_eq_getElem?_getD, List.getElem?_eq_getElem hk] at this
    simpa using this
  unfold Dia.idxB
  rw [hx]
set_option maxRecDepth 100000 in
set_option maxHeartbeats 1000000 in
theorem Tryd.c_rByte (c p : Int) (w : World) (h : 0 ≤ c ∧ c ≤ 3) :
    Calls Tryd.prog 37 #[.int .i64 c, .int .i32 p] w fun e w' => e = .returned (.int .i64 (Dia.sinB c p)) ∧ Below w.heap.size w w' := by
  have HS : Aid.Hid2 (∀ (n : Nat) (w1 : World), n < 256 → Calls Tryd.prog 11 #[.int .i64 c, .int .u8 n] w1 fun e w' => e = .returned (.int .i32 (Dia.sg c n)) ∧ Below w1.heap.size w1 w') := ⟨fun n w1 hn => by
    have h1 := Tryd.c_rSign c n.toUInt8 w1 h
    rw [← Dia.sg_at, Dia.u8 n hn] at h1
    exact h1⟩
  have HL := Aid.Hid2.mk (Dia.sinS_len c h)
  generalize hg : Dia.sinB c p = G
  have HG : Aid.Hid2 (∀ n, n < 256 → Dia.sg c n = p → (∀ k, k < n → Dia.sg c k ≠ p) → G = n) := ⟨fun n hn e h0 => by rw [← hg]; exact Dia.idxB_step (by rw [HL.out]; exact hn) e h0⟩
  have HG2 : Aid.Hid2 ((∀ k, k < 256 → Dia.sg c k ≠ p) → G = -1) := ⟨fun h0 => by rw [← hg]; exact Dia.idxB_none (by rw [HL.out]; exact h0)⟩
  clear hg HL h
  go_enter Tryd.func37, Tryd.ntmps37
  go_wp2
  go_loopw [5] (fun i wr => ∃ k : Nat, k ≤ 256 ∧ i = .int .i64 k ∧ Aid.Hid2 (∀ j, j < k → Dia.sg c j ≠ p) ∧ Below w.heap.size w wr) (fun i _ => 256 - (intOf i).toNat)
  case atStart => exact ⟨0, by omega, rfl, ⟨fun j hj => by omega⟩, Below.refl _ _⟩
  case round =>
    obtain ⟨k, hk, rfl, HK, hb⟩ := hrel
    by_cases hlt : k < 256
    · have hw : IntKind.u8.wrap (k : Int) = k := IntWalk.u8_in _ (by omega)
      have dl : decide ((k : Int) < 256) = true := decide_eq_true (by omega)
      by_cases he : Dia.sg c k = p
      · have d : (Dia.sg c k == p) = true := by simpa using he
        have HR := Aid.Hid2.mk (HG.out k hlt he HK.out)
        clear he
        go_wp2_with fail
        refine (HS.out k _ hlt).mono ?_
        rintro e w1 ⟨rfl, hb1⟩
        go_wp2
        go_ret
        exact ⟨by rw [HR.out]; go_num, Aid.bt hb hb1⟩
      · have d : (Dia.sg c k == p) = false := by simpa using he
        have HK2 : Aid.Hid2 (∀ j, j < k + 1 → Dia.sg c j ≠ p) := ⟨fun j hj => by
          rcases Nat.lt_or_ge j k with h1 | h1
          · exact HK.out j h1
          · rw [show j = k by omega]; exact he⟩
        clear he
        go_wp2_with fail
        refine (HS.out k _ hlt).mono ?_
        rintro e w1 ⟨rfl, hb1⟩
        go_wp2
        go_roundw
        case rel => exact ⟨k + 1, by omega, by go_num, HK2, Aid.bt hb hb1⟩
        case measure => simp [intOf]; omega
    · have dl : decide ((k : Int) < 256) = false := decide_eq_false (by omega)
      have HR := Aid.Hid2.mk (HG2.out (fun j hj => HK.out j (by omega)))
      go_wp2
      go_ret
      exact ⟨by rw [HR.out]; go_num, hb⟩
set_option maxRecDepth 100000 in
set_option maxHeartbeats 1000000 in
theorem Tryd.c_rDecode (c : Int) (s : ByteArray) (w : World) (h : 0 ≤ c ∧ c ≤ 3) (hs : s.size ≤ 100000) :
    Calls Tryd.prog 15 #[.int .i64 c, .string s] w fun e w' => e = .returned (.string ⟨(Dia.encs (s.data.toList.map (Dia.sinAt c))).toArray⟩) ∧ Below w.heap.size w w' := by
  have HS : Aid.Hid2 (∀ (b : UInt8) (w1 : World), Calls Tryd.prog 11 #[.int .i64 c, .int .u8 b.toNat] w1 fun e w' => e = .returned (.int .i32 (Dia.sinAt c b)) ∧ Below w1.heap.size w1 w') := ⟨fun b w1 => Tryd.c_rSign c b w1 h⟩
  have HBY : Aid.Hid2 (∀ (b : UInt8) (w1 : World), Calls Tryd.prog 35 #[.int .i32 (Dia.sinAt c b)] w1 fun e w' => e = .returned (.string ⟨(Dia.enc (Dia.sinAt c b)).toArray⟩) ∧ Below w1.heap.size w1 w') := ⟨fun b w1 => Tryd.c_refBytes _ w1 (Dia.sinAt_sc c h b)⟩
  clear h
  go_enter Tryd.func15, Tryd.ntmps15
  go_wp2
  go_loopw [5, 6] (fun v i wr => ∃ k : Nat, k ≤ s.size ∧ i = .int .i64 k ∧ v = .string ⟨(Dia.encs ((s.data.toList.take k).map (Dia.sinAt c))).toArray⟩ ∧ Below w.heap.size w wr) (fun _ i _ => s.size - (intOf i).toNat)
  case atStart => exact ⟨0, by omega, rfl, rfl, Below.refl _ _⟩
  case round =>
    obtain ⟨k, hk, rfl, rfl, hb⟩ := hrel
    by_cases hlt : k < s.size
    · have HX : Aid.Hid2 (s.data.toList.take (k + 1) = s.data.toList.take k ++ [s[k]]) := ⟨Dia.take_snoc s.data.toList k hlt⟩
      have HSk := Aid.Hid2.mk (HS.out s[k])
      have HBk := Aid.Hid2.mk (HBY.out s[k])
      have HE : Aid.Hid2 (Dia.encs ((s.data.toList.take (k + 1)).map (Dia.sinAt c)) = Dia.encs ((s.data.toList.take k).map (Dia.sinAt c)) ++ Dia.enc (Dia.sinAt c s[k])) := ⟨by rw [HX.out, List.map_append, List.map_cons, List.map_nil, Dia.encs_snoc]⟩
      have hE1 : (Dia.encs ((s.data.toList.take k).map (Dia.sinAt c))).length ≤ 400000 := by
        have h1 := Dia.encs_le ((s.data.toList.take k).map (Dia.sinAt c))
        have h2 : (s.data.toList.take k).length ≤ k := List.length_take_le _ _
        rw [List.length_map] at h1
        omega
      have hE2 : (Dia.enc (Dia.sinAt c s[k])).length ≤ 4 := by
        have h1 := Dia.encs_le [Dia.sinAt c s[k]]
        simpa [Dia.encs] using h1
      generalize Dia.encs ((s.data.toList.take k).map (Dia.sinAt c)) = E at *
      go_wp2_with fail
      refine (HSk.out _).mono ?_
      rintro e w1 ⟨rfl, hb1⟩
      go_wp2_with fail
      refine (HBk.out _).mono ?_
      rintro e w2 ⟨rfl, hb2⟩
      go_wp2
      go_roundw
      case rel => exact ⟨k + 1, by omega, by go_num, by rw [HE.out, Dia.str_app], Aid.bt (Aid.bt hb hb1) hb2⟩
      case measure => simp [intOf]; omega
    · obtain rfl : k = s.size := by omega
      have hall : s.data.toList.take s.size = s.data.toList := List.take_of_length_le (Nat.le_refl _)
      rw [hall]
      generalize hE : Dia.encs (s.data.toList.map (Dia.sinAt c)) = E at *
      have HE := Aid.Hid2.mk hE
      clear hall hE
      go_wp2
      go_ret
      exact ⟨by rw [HE.out]; rfl, hb⟩
set_option maxRecDepth 100000 in
set_option maxHeartbeats 2000000 in
theorem Tryd.c_rEncode (c : Int) (aa : Option Addr) (ps : List Int) (ca : Nat) (w : World) (h : 0 ≤ c ∧ c ≤ 3) (hrow : Aid.RowAt w aa (ps.map Dia.rv)) (hpl : ps.length ≤ 100000) (hsc : ∀ p ∈ ps, Dia.sc p = true) :
    Calls Tryd.prog 19 #[.int .i64 c, .slice aa ps.length ca] w fun e w' => e = .returned (.tuple #[.string ⟨(Dia.encO (Dia.sinB c) ps).1.toArray⟩, .int .i64 (Dia.encO (Dia.sinB c) ps).2]) ∧ Below w.heap.size w w' := by
  have HY : Aid.Hid2 (∀ (p : Int) (w1 : World), Calls Tryd.prog 37 #[.int .i64 c, .int .i32 p] w1 fun e w' => e = .returned (.int .i64 (Dia.sinB c p)) ∧ Below w1.heap.size w1 w') := ⟨fun p w1 => Tryd.c_rByte c p w1 h⟩
  have HBD : Aid.Hid2 (∀ p, -1 ≤ Dia.sinB c p ∧ Dia.sinB c p < 256) := ⟨fun p => Dia.sinB_lt h p⟩
  have HSC := Aid.Hid2.mk hsc
  generalize Dia.sinB c = B at *
  clear hsc h
  generalize hO : Dia.encO B ps = O
  have HO := Aid.Hid2.mk hO
  clear hO
  go_enter Tryd.func19, Tryd.ntmps19
  go_wp2
  go_loopw [6, 7, 8, 9] (fun v at' i _ wr => ∃ k : Nat, k ≤ ps.length ∧ i = .int .i64 k ∧ at' = .int .i64 ((Dia.encs (ps.take k)).length : Nat) ∧ v = .string ⟨((ps.take k).map (fun p => (B p).toNat.toUInt8)).toArray⟩ ∧ Aid.Hid2 (∀ p ∈ ps.take k, 0 ≤ B p) ∧ Below w.heap.size w wr) (fun _ _ i _ _ => ps.length - (intOf i).toNat)
  case atStart => exact ⟨0, by omega, rfl, rfl, rfl, ⟨by simp⟩, Below.refl _ _⟩
  case round =>
    obtain ⟨k, hk, rfl, rfl, rfl, HAL, hb⟩ := hrel
    by_cases hlt : k < ps.length
    · have HTK := Aid.Hid2.mk (Dia.take_snoc ps k hlt)
      have hle := Dia.encs_le (ps.take k)
      have htl : (ps.take k).length ≤ k := List.length_take_le _ _
      have hel : (Dia.encs (ps.take k)).length ≤ 400000 := by omega
      obtain ⟨b, off, rfl, hcell⟩ := (hrow.below hb).get (k := k) (by simpa using hlt)
      simp only [List.getElem_map, Dia.rv] at hcell
      have hsc := HSC.out ps[k] (List.getElem_mem _)
      have HBAD := Aid.Hid2.mk (fun h => Dia.encO_bad (B := B) hlt HAL.out h)
      have hkl : (k : Int) < ps.length := by omega
      generalize ps[k] = q at *
      have HYq := Aid.Hid2.mk (HY.out q)
      by_cases hq : 0 ≤ B q
      · obtain ⟨n, hn⟩ := Int.eq_ofNat_of_zero_le hq
        have hn2 : n < 256 := by have := HBD.out q; omega
        rw [hn] at HYq
        have hq2 : Dia.enc q = Dia.encs [q] := by simp [Dia.encs]
        have hel2 : (Dia.enc q).length ≤ 4 := by
          have h1 := Dia.encs_le [q]
          rw [hq2]; simpa using h1
        have HU : Aid.Hid2 ((Dia.encs (ps.take (k + 1))).length = (Dia.encs (ps.take k)).length + (Dia.enc q).length) := ⟨by
          rw [HTK.out, Dia.encs_append, List.length_append, hq2]⟩
        have HV : Aid.Hid2 ((ps.take (k + 1)).map (fun p => (B p).toNat.toUInt8) = (ps.take k).map (fun p => (B p).toNat.toUInt8) ++ [n.toUInt8]) := ⟨by
          rw [HTK.out, List.map_append, List.map_cons, List.map_nil, hn]; rfl⟩
        have HAL2 : Aid.Hid2 (∀ p ∈ ps.take (k + 1), 0 ≤ B p) := ⟨by
          rw [HTK.out]
          intro p hp
          rcases List.mem_append.1 hp with hp | hp
          · exact HAL.out p hp
          · rw [List.mem_singleton] at hp; subst hp; omega⟩
        have HE := Aid.Hid2.mk (fun w1 => Tryd.c_refBytes q w1 hsc)
        have hml : ((ps.take k).map (fun p => (B p).toNat.toUInt8)).length ≤ 100000 := by rw [List.length_map]; omega
        have hw : IntKind.u8.wrap (n : Int) = n := IntWalk.u8_in _ (by omega)
        have dn : decide ((n : Int) < 0) = false := decide_eq_false (by omega)
        have HS1 : Aid.Hid2 (strOfNums [(n : Int)] = ⟨[n.toUInt8].toArray⟩) := ⟨by
          have h1 : n.toUInt8.toNat = n := Dia.u8 n hn2
          simp [strOfNums]⟩
        clear hq2 hn HBAD hq
        generalize (ps.take k).map (fun p => (B p).toNat.toUInt8) = R at *
        generalize (Dia.encs (ps.take k)).length = m at *
        generalize Dia.enc q = E at *
        go_wp2_with fail
        refine (HYq.out _).mono ?_
        rintro e w1 ⟨rfl, hb1⟩
        have hcv : (convert 81 9 (.slice (some ⟨w1.heap.size, 0, none⟩) 1 1)).run Tryd.prog (w1.alloc (.cells #[.int .u8 n] 5)) = .ok (.string (strOfNums [(n : Int)])) (w1.alloc (.cells #[.int .u8 n] 5)) :=
          Aid.run_conv_ints _ _ _ 5 ⟨w1.heap.size, 0, none⟩ 1 [(n : Int)] Tryd.underlying81 Tryd.underlying5 Tryd.underlying9 (Aid.cells_new _ _ _ _ _ rfl)
        rw [HS1.out] at hcv
        have hcell1 := Aid.cell_ext (Aid.bt hb1 (Aid.b1 w1 (.cells #[.int .u8 n] 5))) hcell
        go_wp2_with fail
        refine (HE.out _).mono ?_
        rintro e w2 ⟨rfl, hb2⟩
        have hb3 := Aid.bt (Aid.bt hb hb1) (Aid.bt (Aid.b1 w1 _) hb2)
        go_wp2
        go_roundw
        case rel => exact ⟨k + 1, by omega, by go_num, by rw [HU.out]; go_num, by rw [HV.out, ← Dia.str_app], HAL2, hb3⟩
        case measure => simp [intOf]; omega
      · have hn : B q = -1 := by have := HBD.out q; omega
        rw [hn] at HYq
        have HR : Aid.Hid2 (O = ([], ((Dia.encs (ps.take k)).length : Int))) := ⟨by rw [← HO.out]; exact HBAD.out hq⟩
        clear hq hn HBAD
        generalize (Dia.encs (ps.take k)).length = m at *
        go_wp2_with fail
        refine (HYq.out _).mono ?_
        rintro e w1 ⟨rfl, hb1⟩
        go_wp2
        go_ret2
        rw [HR.out]
        exact ⟨rfl, Aid.bt hb hb1⟩
    · obtain rfl : k = ps.length := by omega
      have e : ps.take ps.length = ps := List.take_of_length_le (Nat.le_refl _)
      have hal := HAL.out
      rw [e] at hal
      have HR : Aid.Hid2 (O = (ps.map (fun p => (B p).toNat.toUInt8), -1)) := ⟨by rw [← HO.out]; exact Dia.encO_ok hal⟩
      rw [e]
      clear hal e
      generalize ps.map (fun p => (B p).toNat.toUInt8) = R at *
      go_wp2
      go_ret2
      rw [HR.out]
      exact ⟨rfl, hb⟩
end Go.Proofs
