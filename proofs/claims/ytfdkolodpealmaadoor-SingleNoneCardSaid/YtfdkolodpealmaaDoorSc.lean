/- the laws of layer 5, walked: SingleSets, SingleNone -/
import Derived.Test.YtfdkolodpealmaaDoorSb
namespace Go.Proofs
open Go.RowKit

theorem Tryd.s_info_rp : (Tryd.prog.info? 35).map (fun i => (i.zero, i.size, i.bytes)) = some (some (.agg #[.int .i64 0, .int .i32 0]), 2, 16) := by kernel_rfl
theorem Dia.sinL_take {c : Int} (h : 0 ≤ c ∧ c ≤ 3) (k : Nat) (hk : k < 256) : (Dia.sinL c).take (k + 1) = (Dia.sinL c).take k ++ [((k : Int), Dia.sg c k)] := by
  have hl := Dia.sinL_len h
  have hk2 : k < (Dia.sinL c).length := by omega
  rw [Dia.take_snoc _ _ hk2]
  congr 2
  have h1 := Dia.pairsF_get (Dia.sinS c) 0 k
  have h2 : (Dia.sinL c)[k]? = some (Dia.sinL c)[k] := List.getElem?_eq_getElem hk2
  have hk3 : k < (Dia.sinS c).length := by rw [Dia.sinS_len c h]; exact hk
  rw [List.getElem?_eq_getElem hk3] at h1
  unfold Dia.sinL at h2 ⊢
  rw [h1] at h2
  have h3 := Option.some.inj h2
  rw [← h3]
  show ((0 : Int) + (k : Int), (Dia.sinS c)[k]) = ((k : Int), (Dia.sinS c).getD k 0)
  rw [List.getD_eq_getElem?_getD, List.getElem?_eq_getElem hk3, Int.zero_add]
  rfl
set_option maxRecDepth 100000 in
set_option maxHeartbeats 2000000 in
theorem Tryd.w_SingleSets_in (c : Int) (w : World) (hT : Tryd.Tabs w) (hc : 0 ≤ c ∧ c ≤ 3) :
    Calls Tryd.prog 3 #[.int .i64 c] w fun e w' => e = .returned (.bool true) ∧ Below w.heap.size w w' := by
  obtain ⟨i0, hi, hz0, hz1, hz2⟩ := info_parts Tryd.s_info_rp
  have HA : Aid.Hid2 (∀ w1, Below w.heap.size w w1 → Calls Tryd.prog 9 #[] w1 fun e w' => e = .returned (.bool true) ∧ Below w1.heap.size w1 w') := ⟨fun w1 hb => Tryd.c_awake05 w1 (hT.below hb)⟩
  have hc1 : decide (c < 0) = false := decide_eq_false (by omega)
  have hc2 : decide (3 < c) = false := decide_eq_false (by omega)
  have HO : Aid.Hid2 (Calls Tryd.prog 8 #[.int .i64 c] w fun e w' => Dia.IsOf c (Dia.sinL c) w w' e) := ⟨Tryd.c_Of c w hT hc⟩
  have HS : Aid.Hid2 (∀ (n : Nat) (w1 : World), n < 256 → Calls Tryd.prog 11 #[.int .i64 c, .int .u8 n] w1 fun e w' => e = .returned (.int .i32 (Dia.sg c n)) ∧ Below w1.heap.size w1 w') := ⟨fun n w1 hn => by
    have h1 := Tryd.c_rSign c n.toUInt8 w1 hc
    rw [← Dia.sg_at, Dia.u8 n hn] at h1
    exact h1⟩
  have HTK : Aid.Hid2 (∀ k, k < 256 → (Dia.sinL c).take (k + 1) = (Dia.sinL c).take k ++ [((k : Int), Dia.sg c k)]) := ⟨Dia.sinL_take hc⟩
  have HLEN : Aid.Hid2 ((Dia.sinL c).length = 256) := ⟨Dia.sinL_len hc⟩
  clear hT hc
  generalize Dia.sinL c = L at *
  go_enter Tryd.func3, Tryd.ntmps3
  go_wp2_with fail
  refine HO.out.mono ?_
  rintro e w1 ⟨a1, c1, ls, rfl, hn1, ht1, hb1⟩
  have kS := heap_alloc_new w1 (.cells #[.slice a1 ls.length c1, .int .i64 c] 27)
  have hB1 := Aid.bt hb1 (Aid.b1 w1 (.cells #[.slice a1 ls.length c1, .int .i64 c] 27))
  have hT1 := ht1.below (Aid.b1 w1 (.cells #[.slice a1 ls.length c1, .int .i64 c] 27))
  clear ht1 hb1
  go_wp2
  have hz : (w1.alloc (.cells #[.slice a1 ls.length c1, .int .i64 c] 27)).heap.size = w1.heap.size + 1 := by simp
  go_loopw [5, 6, 34] (fun v _ i wr => ∃ k : Nat, k ≤ 256 ∧ i = .int .i64 k ∧ wr.ownsRow (w1.heap.size + 1) 35 2 v k ((L.take k).flatMap Dia.pcells) ∧ Below (w1.heap.size + 1) (w1.alloc (.cells #[.slice a1 ls.length c1, .int .i64 c] 27)) wr) (fun _ _ i _ => 256 - (intOf i).toNat)
  case atStart => exact ⟨0, by omega, rfl, World.ownsRow_nil _ _ _ _, Below.refl _ _⟩
  case round =>
    obtain ⟨k, hk, rfl, hown, hb⟩ := hrel
    have hbs := hb.size
    rw [hz] at hbs
    by_cases hlt : k < 256
    · have dl : decide ((k : Int) < 256) = true := decide_eq_true (by omega)
      have hw : IntKind.u8.wrap (k : Int) = k := IntWalk.u8_in _ (by omega)
      have HSk := Aid.Hid2.mk (fun w1 => HS.out k w1 hlt)
      have HTk : Aid.Hid2 ((L.take (k + 1)).flatMap Dia.pcells = (L.take k).flatMap Dia.pcells ++ [.int .i64 k, .int .i32 (Dia.sg c k)]) := ⟨by rw [HTK.out k hlt, List.flatMap_append]; rfl⟩
      generalize Dia.sg c k = p at *
      generalize (L.take k).flatMap Dia.pcells = X at *
      go_wp2_with fail
      refine (HSk.out _).mono ?_
      rintro e w2 ⟨rfl, hb2⟩
      have hb12 := hb.trans (hb2.mono hbs)
      have hown2 := Aid.ownsRow_below hown hb2
      have hs2 := hb2.size
      have hsz : (w2.alloc (.cells #[.int .i64 k, .int .i32 p] 35)).heap.size = w2.heap.size + 1 := by simp
      go_wp2_with (at_builtin; refine Aid.wpList_app1 (w0 := w1.alloc (.cells #[.slice a1 ls.length c1, .int .i64 c] 27)) _ rfl _ _ 32 35 2 16 rfl Tryd.underlying32 i0 _ hi hz0 hz1 hz2 rfl (by decide) (w1.heap.size + 1) _ _ _ #[.int .i64 k, .int .i32 p] _ rfl _ rfl hown2 hb12 ?_ rfl rfl ?_ ?_ ?_ ?_)
      · omega
      · simp [Value.oneCell']
      · omega
      · omega
      · intro v' w7 hown7 hb7 hsz7 _
        go_wp2
        go_roundw
        case rel => exact ⟨k + 1, by omega, by go_num, by rw [HTk.out]; exact hown7, hb7⟩
        case measure => simp [intOf]; omega
    · obtain rfl : k = 256 := by omega
      have hall : L.take 256 = L := List.take_of_length_le (by rw [HLEN.out]; omega)
      rw [hall] at hown
      obtain ⟨aa, ca, rfl⟩ := Aid.own_val hown
      have hpa := Dia.pairsAt_own hown
      have hbW : Below (w1.alloc (.cells #[.slice a1 ls.length c1, .int .i64 c] 27)).heap.size (w1.alloc (.cells #[.slice a1 ls.length c1, .int .i64 c] 27)) wr := by rw [hz]; exact hb
      have kSr := Aid.blk hbW kS
      have hTr := hT1.below hbW
      have hBr := Aid.bt hB1 hbW
      have HIS : Aid.Hid2 (∀ w2, Below wr.heap.size wr w2 → Calls Tryd.prog 12 #[.agg #[.slice a1 ls.length c1], .slice aa 256 ca] w2 fun e w' => e = .returned (.bool true) ∧ Below w2.heap.size w2 w') := ⟨fun w2 hb2 => by
        have h := Tryd.c_Is (l := L) (m := L) ca w2 (hTr.below hb2) (hpa.below hb2) (by rw [HLEN.out]; decide)
        rw [HLEN.out] at h
        simpa using h⟩
      clear hall hown hpa hb hbW kS hB1 hT1 hTr HTK HS HO
      go_wp2_with fail
      refine (HA.out _ hBr).mono ?_
      rintro e w2 ⟨rfl, hb2⟩
      obtain ⟨p0, p1, q0, q1⟩ := Aid.two (Aid.blk hb2 kSr)
      go_wp2_with fail
      refine (HIS.out _ hb2).mono ?_
      rintro e w3 ⟨rfl, hb3⟩
      go_wp2
      go_ret
      exact ⟨rfl, Aid.bt (Aid.bt hBr hb2) hb3⟩
theorem Tryd.s_size0 (w : World) : Calls Tryd.prog 10 #[.agg #[.slice none 0 0]] w fun e w' => e = .returned (.int .i64 0) ∧ Below w.heap.size w w' :=
  Tryd.t_Size (ls := []) (l := []) w (Dia.T_nil w)
set_option maxRecDepth 100000 in
set_option maxHeartbeats 2000000 in
theorem Tryd.w_SingleSets (c : Int) (w : World) (hT : Tryd.Tabs w) :
    Calls Tryd.prog 3 #[.int .i64 c] w fun e w' => e = .returned (.bool true) ∧ Below w.heap.size w w' := by
  by_cases hc : 0 ≤ c ∧ c ≤ 3
  · exact Tryd.w_SingleSets_in c w hT hc
  · have HA : Aid.Hid2 (∀ w1, Below w.heap.size w w1 → Calls Tryd.prog 9 #[] w1 fun e w' => e = .returned (.bool true) ∧ Below w1.heap.size w1 w') := ⟨fun w1 hb => Tryd.c_awake05 w1 (hT.below hb)⟩
    have HO := Aid.Hid2.mk (Tryd.c_OfNone c w (by omega) (by omega) (by omega) (by omega))
    by_cases hc0 : c < 0
    · have hc1 : decide (c < 0) = true := decide_eq_true hc0
      clear hT hc
      go_enter Tryd.func3, Tryd.ntmps3
      go_wp2_with fail
      refine HO.out.mono ?_
      rintro e w1 ⟨rfl, hb1⟩
      have kS := heap_alloc_new w1 (.cells #[.slice none 0 0, .int .i64 0] 27)
      have hB1 := Aid.bt hb1 (Aid.b1 w1 (.cells #[.slice none 0 0, .int .i64 0] 27))
      go_wp2_with fail
      refine (HA.out _ hB1).mono ?_
      rintro e w2 ⟨rfl, hb2⟩
      have kS2 := Aid.blk hb2 kS
      obtain ⟨p0, p1, q0, q1⟩ := Aid.two kS2
      go_wp2_with fail
      refine (Tryd.s_size0 _).mono ?_
      rintro e w3 ⟨rfl, hb3⟩
      obtain ⟨r0, r1, s0, s1⟩ := Aid.two (Aid.blk hb3 kS2)
      go_wp2
      go_ret
      exact ⟨rfl, Aid.bt (Aid.bt hB1 hb2) hb3⟩
    · have hc1 : decide (c < 0) = false := decide_eq_false hc0
      have hc2 : decide (3 < c) = true := decide_eq_true (by omega)
      clear hT hc
      go_enter Tryd.func3, Tryd.ntmps3
      go_wp2_with fail
      refine HO.out.mono ?_
      rintro e w1 ⟨rfl, hb1⟩
      have kS := heap_alloc_new w1 (.cells #[.slice none 0 0, .int .i64 0] 27)
      have hB1 := Aid.bt hb1 (Aid.b1 w1 (.cells #[.slice none 0 0, .int .i64 0] 27))
      go_wp2_with fail
      refine (HA.out _ hB1).mono ?_
      rintro e w2 ⟨rfl, hb2⟩
      have kS2 := Aid.blk hb2 kS
      obtain ⟨p0, p1, q0, q1⟩ := Aid.two kS2
      go_wp2_with fail
      refine (Tryd.s_size0 _).mono ?_
      rintro e w3 ⟨rfl, hb3⟩
      obtain ⟨r0, r1, s0, s1⟩ := Aid.two (Aid.blk hb3 kS2)
      go_wp2
      go_ret
      exact ⟨rfl, Aid.bt (Aid.bt hB1 hb2) hb3⟩
theorem Dia.none_1 : Dia.pts [97] = ([97], -1) := by decide +kernel
theorem Dia.none_2 : Dia.encO (fun _ => -1) [97] = ([], 0) := by decide +kernel
theorem Tryd.s_encA (w : World) (hT : Tryd.Tabs w) : Calls Tryd.prog 14 #[.agg #[.slice none 0 0, .int .i64 0], .string ⟨#[97]⟩] w fun e w' => e = .returned (.tuple #[.string ⟨#[]⟩, .agg #[.int .i64 6, .int .i64 0]]) ∧ Below w.heap.size w w' := by
  have h := Tryd.c_sEnc_ok (fun _ => -1) (ls := []) (l := []) 0 ⟨#[97]⟩ [97] w Dia.none_1 (Dia.T_nil w) hT (fun p => rfl) (fun p => by decide) (by decide)
  unfold Dia.IsEnc at h
  rw [Dia.none_2] at h
  exact h
set_option maxRecDepth 100000 in
set_option maxHeartbeats 4000000 in
theorem Tryd.w_SingleNone_e (w : World) (hT : Tryd.Tabs w) :
    Calls Tryd.prog 7 #[.string ⟨#[]⟩] w fun e w' => e = .returned (.bool true) ∧ Below w.heap.size w w' := by
  have HA : Aid.Hid2 (∀ w1, Below w.heap.size w w1 → Calls Tryd.prog 9 #[] w1 fun e w' => e = .returned (.bool true) ∧ Below w1.heap.size w1 w') := ⟨fun w1 hb => Tryd.c_awake05 w1 (hT.below hb)⟩
  have HE : Aid.Hid2 (∀ w1, Below w.heap.size w w1 → Calls Tryd.prog 14 #[.agg #[.slice none 0 0, .int .i64 0], .string ⟨#[97]⟩] w1 fun e w' => e = .returned (.tuple #[.string ⟨#[]⟩, .agg #[.int .i64 6, .int .i64 0]]) ∧ Below w1.heap.size w1 w') := ⟨fun w1 hb => Tryd.s_encA w1 (hT.below hb)⟩
  have HD : Aid.Hid2 (∀ w1, Calls Tryd.prog 13 #[.agg #[.slice none 0 0, .int .i64 0], .string ⟨#[]⟩] w1 fun e w' => e = .returned (.tuple #[.string ⟨#[]⟩, .agg #[.int .i64 0, .int .i64 0]]) ∧ Below w1.heap.size w1 w') := ⟨fun w1 => Tryd.c_sDecNil w1⟩
  clear hT
  go_enter Tryd.func7, Tryd.ntmps7
  go_wp2_with fail
  refine (HD.out _).mono ?_
  rintro e w1 ⟨rfl, hb1⟩
  have kS := Aid.blk hb1 (heap_alloc_new w (.cells #[.slice none 0 0, .int .i64 0] 27))
  have kS1 := Aid.blk_alloc (o' := .cells #[.int .i64 0, .int .i64 0] 40) kS
  have kF := heap_alloc_new w1 (.cells #[.int .i64 0, .int .i64 0] 40)
  have hB1 := Aid.bt (Aid.bt (Aid.b1 w (.cells #[.slice none 0 0, .int .i64 0] 27)) hb1) (Aid.b1 w1 (.cells #[.int .i64 0, .int .i64 0] 40))
  obtain ⟨p0, p1, q0, q1⟩ := Aid.two kS1
  clear kS kS1 hb1
  go_wp2_with fail
  refine (HE.out _ hB1).mono ?_
  rintro e w2 ⟨rfl, hb2⟩
  have kF2 := Aid.blk_alloc (o' := .cells #[.int .i64 6, .int .i64 0] 40) (Aid.blk hb2 kF)
  have kG := heap_alloc_new w2 (.cells #[.int .i64 6, .int .i64 0] 40)
  have hB2 := Aid.bt (Aid.bt hB1 hb2) (Aid.b1 w2 (.cells #[.int .i64 6, .int .i64 0] 40))
  clear kF hB1 hb2 p0 p1 q0 q1
  obtain ⟨r0, r1, s0, s1⟩ := Aid.two kF2
  obtain ⟨t0, t1, u0, u1⟩ := Aid.two kG
  go_wp2_with fail
  go_region_with (first
    | (go_at_call 9; refine (HA.out _ (by first | exact hB2 | exact hB2.drew)).mono ?_; rintro e w3 ⟨rfl, hb3⟩
       have hb3' : Below (w2.alloc (.cells #[.int .i64 6, .int .i64 0] 40)).heap.size (w2.alloc (.cells #[.int .i64 6, .int .i64 0] 40)) w3 := by first | exact hb3 | exact ((Below.refl _ _).drew).trans hb3
       have r0' := Aid.cell_ext hb3' r0
       have r1' := Aid.cell_ext hb3' r1)
    | (go_at_call 16; refine (Tryd.c_Bad_no _ _).mono ?_; rintro e w4 ⟨rfl, hb4⟩
       have t0' := Aid.cell_ext (Aid.bt hb3' hb4) t0
       have t1' := Aid.cell_ext (Aid.bt hb3' hb4) t1))
  all_goals
    go_wp2
    go_ret
    exact ⟨rfl, Aid.bt hB2 (Aid.bt hb3' hb4)⟩
set_option maxRecDepth 100000 in
set_option maxHeartbeats 4000000 in
theorem Tryd.w_SingleNone_f (b : ByteArray) (w : World) (hT : Tryd.Tabs w) (hb : 0 < b.size) (hl : b.size ≤ 300) :
    Calls Tryd.prog 7 #[.string b] w fun e w' => e = .returned (.bool true) ∧ Below w.heap.size w w' := by
  have HA : Aid.Hid2 (∀ w1, Below w.heap.size w w1 → Calls Tryd.prog 9 #[] w1 fun e w' => e = .returned (.bool true) ∧ Below w1.heap.size w1 w') := ⟨fun w1 hb => Tryd.c_awake05 w1 (hT.below hb)⟩
  have HE : Aid.Hid2 (∀ w1, Below w.heap.size w w1 → Calls Tryd.prog 14 #[.agg #[.slice none 0 0, .int .i64 0], .string ⟨#[97]⟩] w1 fun e w' => e = .returned (.tuple #[.string ⟨#[]⟩, .agg #[.int .i64 6, .int .i64 0]]) ∧ Below w1.heap.size w1 w') := ⟨fun w1 hb => Tryd.s_encA w1 (hT.below hb)⟩
  have HD : Aid.Hid2 (∀ w1, Calls Tryd.prog 13 #[.agg #[.slice none 0 0, .int .i64 0], .string b] w1 fun e w' => e = .returned (.tuple #[.string ⟨#[]⟩, .agg #[.int .i64 2, .int .i64 0]]) ∧ Below w1.heap.size w1 w') := ⟨fun w1 => Tryd.c_sDecNone b w1 hb (by omega)⟩
  have dl : decide (300 < (b.size : Int)) = false := decide_eq_false (by omega)
  have hne : (b == (⟨#[]⟩ : ByteArray)) = false := by
    show (b.data == #[]) = false
    apply beq_eq_false_iff_ne.2
    intro h
    have h2 : b.data.size = 0 := by rw [h]; rfl
    have h3 : 0 < b.data.size := hb
    omega
  have hse : b.toList.isEmpty = false := by
    rw [Lib.toList_data]
    cases h : b.data.toList with
    | nil =>
      exfalso
      have h1 : b.data.toList.length = b.size := rfl
      rw [h] at h1
      simp at h1
      omega
    | cons x y => rfl
  clear hT
  go_enter Tryd.func7, Tryd.ntmps7
  go_wp2_with fail
  refine (HD.out _).mono ?_
  rintro e w1 ⟨rfl, hb1⟩
  have kS := Aid.blk hb1 (heap_alloc_new w (.cells #[.slice none 0 0, .int .i64 0] 27))
  have kS1 := Aid.blk_alloc (o' := .cells #[.int .i64 2, .int .i64 0] 40) kS
  have kF := heap_alloc_new w1 (.cells #[.int .i64 2, .int .i64 0] 40)
  have hB1 := Aid.bt (Aid.bt (Aid.b1 w (.cells #[.slice none 0 0, .int .i64 0] 27)) hb1) (Aid.b1 w1 (.cells #[.int .i64 2, .int .i64 0] 40))
  obtain ⟨p0, p1, q0, q1⟩ := Aid.two kS1
  clear kS kS1 hb1
  go_wp2_with fail
  refine (HE.out _ hB1).mono ?_
  rintro e w2 ⟨rfl, hb2⟩
  have kF2 := Aid.blk_alloc (o' := .cells #[.int .i64 6, .int .i64 0] 40) (Aid.blk hb2 kF)
  have kG := heap_alloc_new w2 (.cells #[.int .i64 6, .int .i64 0] 40)
  have hB2 := Aid.bt (Aid.bt hB1 hb2) (Aid.b1 w2 (.cells #[.int .i64 6, .int .i64 0] 40))
  clear kF hB1 hb2 p0 p1 q0 q1
  obtain ⟨r0, r1, s0, s1⟩ := Aid.two kF2
  obtain ⟨t0, t1, u0, u1⟩ := Aid.two kG
  go_wp2_with fail
  go_region_held3 (fun w' => w'.cell? ⟨w1.heap.size, 0, none⟩ = some (.int .i64 2) ∧ w'.cell? ⟨w1.heap.size, 1, none⟩ = some (.int .i64 0) ∧ w'.cell? ⟨w2.heap.size, 0, none⟩ = some (.int .i64 6) ∧ w'.cell? ⟨w2.heap.size, 1, none⟩ = some (.int .i64 0) ∧ Below (w2.alloc (.cells #[.int .i64 6, .int .i64 0] 40)).heap.size (w2.alloc (.cells #[.int .i64 6, .int .i64 0] 40)) w')
    (first | exact ⟨r0, r1, t0, t1, (Below.refl _ _).drew⟩ | exact ⟨r0, r1, t0, t1, Below.refl _ _⟩ | (go_split_ands; exact ⟨(by assumption), (by assumption), (by assumption), (by assumption), (by assumption)⟩) | (go_split_ands; exact ⟨Aid.cell_ext (Aid.bt (by assumption) hbx) r0, Aid.cell_ext (Aid.bt (by assumption) hbx) r1, Aid.cell_ext (Aid.bt (by assumption) hbx) t0, Aid.cell_ext (Aid.bt (by assumption) hbx) t1, Aid.bt (by assumption) hbx⟩))
    (first
      | (go_at_call 16; refine (Tryd.c_Bad_yes _ _).mono ?_; rintro e wx ⟨rfl, hbx⟩)
      | (go_at_call 18; refine (Tryd.s_Fault_at 0 _ (by decide)).mono ?_; rintro e wx ⟨rfl, hbx⟩)
      | (go_at_call 9; go_split_ands; refine (HA.out _ (Aid.bt hB2 (by assumption))).mono ?_; rintro e wx ⟨rfl, hbx⟩))
  all_goals
    go_split_ands
    go_wp2
    go_ret
    exact ⟨rfl, Aid.bt hB2 (by assumption)⟩
theorem Tryd.w_SingleNone (b : ByteArray) (w : World) (hT : Tryd.Tabs w) (hs : b.size ≤ 9223372036854775807) :
    Calls Tryd.prog 7 #[.string b] w fun e w' => e = .returned (.bool true) ∧ Below w.heap.size w w' := by
  by_cases hl : b.size ≤ 300
  · by_cases h0 : 0 < b.size
    · exact Tryd.w_SingleNone_f b w hT h0 hl
    · have h1 : b.data.toList.length = b.size := rfl
      have h2 : b = ⟨#[]⟩ := by
        apply ByteArray.ext
        have h3 : b.data.toList = [] := List.length_eq_zero_iff.1 (by omega)
        exact Array.toList_inj.1 (by simpa using h3)
      rw [h2]
      exact Tryd.w_SingleNone_e w hT
  · have dl : decide (300 < (b.size : Int)) = true := decide_eq_true (by omega)
    go_enter Tryd.func7, Tryd.ntmps7
    go_wp2_with fail
    refine (Tryd.c_awake05 _ hT).mono ?_
    rintro e w1 ⟨rfl, hb1⟩
    go_wp2
    go_ret
    exact ⟨rfl, hb1⟩
end Go.Proofs
