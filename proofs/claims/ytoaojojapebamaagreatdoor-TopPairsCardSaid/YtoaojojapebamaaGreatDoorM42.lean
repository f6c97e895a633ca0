/- walks of single: Decode; walks of single: Encode; a charset that is none -/
import Derived.Test.YtoaojojapebamaaGreatDoorM41
import Derived.Test.YtoaojojapebamaaGreatDoorM17
namespace Go.Proofs
open Go.RowKit

set_option maxRecDepth 100000 in
set_option maxHeartbeats 1000000 in
theorem Tryz.c_sDec (F : UInt8 → Int) {a : Option Addr} {cap : Nat} {ls : List (List Dia.Row)} {l : List (Int × Int)} (c : Int) (s : ByteArray) (w : World) (ht : Dia.T w a cap ls l) (hF : ∀ b : UInt8, Dia.fwdl l b.toNat = (F b, true)) (hsc : ∀ b, Dia.sc (F b) = true) (hs : s.size ≤ 100000) :
    Calls Tryz.prog 21 #[.agg #[.slice a ls.length cap, .int .i64 c], .string s] w fun e w' => e = .returned (.tuple #[.string ⟨(Dia.encs (s.data.toList.map F)).toArray⟩, .agg #[.int .i64 0, .int .i64 0]]) ∧ Below w.heap.size w w' := by
  obtain ⟨i0, hi, hz0, hz1, hz2⟩ := info_parts Tryz.info_i32
  have HF : Aid.Hid2 (∀ (b : UInt8) (w1 : World), Below w.heap.size w w1 → Calls Tryz.prog 50 #[.agg #[.slice a ls.length cap], .int .i64 (b.toNat : Int)] w1 fun e w' => e = .returned (.tuple #[.int .i32 (F b), .bool true]) ∧ Below w1.heap.size w1 w') := ⟨fun b w1 hb => by
    have h := Tryz.t_Forward (b.toNat : Int) w1 (ht.below hb) (by have := b.toNat_lt; omega)
    rw [hF b] at h
    exact h⟩
  clear ht hF
  go_enter Tryz.func21, Tryz.ntmps21
  go_wp2
  go_loopw [6, 7, 8, 9, 14] (fun v _ _ _ i wr => ∃ k : Nat, k ≤ s.size ∧ i = .int .i64 k ∧ wr.ownsRow (w.heap.size + 2) 21 1 v k (((s.data.toList.take k).map F).map Dia.rv) ∧ Below (w.heap.size + 2) ((w.alloc (.cells #[.slice a ls.length cap, .int .i64 c] 45)).alloc (.cells #[.int .i64 0, .int .i64 0] 26)) wr)
    (fun _ _ _ _ i _ => s.size - (intOf i).toNat)
  case atStart => exact ⟨0, Nat.zero_le _, rfl, World.ownsRow_nil _ _ _ _, Below.refl _ _⟩
  case round =>
    obtain ⟨k, hk, rfl, hown, hb⟩ := hrel
    have hsz : ((w.alloc (.cells #[.slice a ls.length cap, .int .i64 c] 45)).alloc (.cells #[.int .i64 0, .int .i64 0] 26)).heap.size = w.heap.size + 2 := by simp
    have hbF : Below w.heap.size w wr := (Aid.b2 _ _ _).trans (hb.mono (by omega))
    have hb' := hb
    rw [← hsz] at hb'
    have hszr := hb'.size
    rw [hsz] at hszr
    have kA := Aid.blk hb' (Aid.heap2 _ _ _).1
    have kB := Aid.blk hb' (Aid.heap2 _ _ _).2
    clear hb'
    obtain ⟨p0, p1, q0, q1⟩ := Aid.two kA
    by_cases hlt : k < s.size
    · have HFk := Aid.Hid2.mk (HF.out (s[k]))
      have hwx : IntKind.i64.wrap (s[k].toNat : Int) = s[k].toNat := IntWalk.i64_in _ (by have := s[k].toNat_lt; omega)
      have HX : Aid.Hid2 (s.data.toList.take (k + 1) = s.data.toList.take k ++ [s[k]]) := ⟨Dia.take_snoc s.data.toList k hlt⟩
      go_wp2_with fail
      go_region_with (go_at_call 50; refine (HFk.out _ (by first | exact hbF | exact hbF.drew)).mono ?_; rintro e w1 ⟨rfl, hb1⟩)
      all_goals
        have hr1 : Below wr.heap.size wr w1 := by first | exact hb1 | exact ((Below.refl _ _).drew).trans hb1
        clear hb1 HFk hwx
        have hown1 := Aid.ownsRow_below hown hr1
        have hb1 := hb.trans (hr1.mono hszr)
        have hs1 := hr1.size
        generalize s[k] = x at *
        go_wp2_with (at_builtin; refine Aid.wpList_app1 (w0 := (w.alloc (.cells #[.slice a ls.length cap, .int .i64 c] 45)).alloc (.cells #[.int .i64 0, .int .i64 0] 26)) _ rfl _ _ 57 21 1 4 rfl Tryz.underlying57 i0 _ hi hz0 hz1 hz2 rfl (by decide) (w.heap.size + 2) _ _ _ #[.int .i32 (F x)] _ rfl _ rfl hown1 hb1 ?_ rfl rfl ?_ ?_ ?_ ?_)
        · omega
        · simp [Value.oneCell']
        · omega
        · omega
        · intro v' w2 hown2 hb2 hsz2 _
          go_wp2
          go_roundw
          case rel => exact ⟨k + 1, by omega, by go_num, by rw [HX.out]; simpa [Dia.rv] using hown2, hb2⟩
          case measure => simp [intOf]; omega
    · obtain rfl : k = s.size := by omega
      have hall : s.data.toList.take s.size = s.data.toList := List.take_of_length_le (Nat.le_refl _)
      rw [hall] at hown
      obtain ⟨aa, cp, rfl, hrow⟩ := Aid.own_row hown
      have HTX : Aid.Hid2 (∀ w1, Aid.RowAt w1 aa ((s.data.toList.map F).map Dia.rv) → Calls Tryz.prog 30 #[.slice aa ((s.data.toList.map F).map Dia.rv).length cp] w1 fun e w' => e = .returned (.tuple #[.string ⟨(Dia.encs (s.data.toList.map F)).toArray⟩, .bool true]) ∧ Below w1.heap.size w1 w') := ⟨fun w1 hr => by
        have h := Tryz.c_Text aa (s.data.toList.map F) cp w1 hr (by rw [List.length_map]; exact Nat.le_trans hs (by decide))
        rw [Dia.txt_ok (by intro p hp; obtain ⟨x, _, rfl⟩ := List.mem_map.1 hp; exact hsc x)] at h
        rw [List.length_map]
        exact h⟩
      clear hown hall
      generalize hG : ((s.data.toList.map F).map Dia.rv).length = G at *
      clear hG
      go_wp2_with fail
      refine (HTX.out _ hrow).mono ?_
      rintro e w1 ⟨rfl, hb1⟩
      obtain ⟨r0, r1, g0, g1⟩ := Aid.two (Aid.blk hb1 kB)
      have hB1 := Aid.bt hbF hb1
      go_wp2
      exact bodyPost_ret (v := .tuple #[.string ⟨(Dia.encs (s.data.toList.map F)).toArray⟩, .agg #[.int .i64 0, .int .i64 0]]) (by simp [results, Tryz.results21, go_sem, r0, r1]) rfl (by
        exact ⟨rfl, (hB1.setCell (by show w.heap.size ≤ w.heap.size + 1; omega) _).setCell (by show w.heap.size ≤ w.heap.size + 1; omega) _⟩)
end Go.Proofs
namespace Go.Proofs
open Go.RowKit

theorem Aid.s_own_row' {w : World} {B : Nat} {e : TypeId} {v : Value} {n : Nat} {xs : List Value} (h : w.ownsRow B e 1 v n xs) : ∃ a cap, v = .slice a xs.length cap ∧ Aid.RowAt w a xs ∧ xs.length ≤ cap := by
  have hl := h.1
  simp at hl
  rcases h.2 with ⟨rfl, rfl⟩ | ⟨g, cap, cur, hv, h3⟩
  · have : xs = [] := by simpa using hl
    subst this
    exact ⟨none, 0, rfl, .inl rfl, Nat.le_refl _⟩
  · obtain ⟨a, c, hv2, hr⟩ := Aid.own_row h
    rw [hv] at hv2
    cases hv2
    exact ⟨_, _, hv, hr, h3.2.2.1⟩
theorem Tryz.s_info_str : (Tryz.prog.info? 9).map (fun i => (i.zero, i.size, i.bytes)) = some (some (.string ⟨#[]⟩), 1, 16) := by kernel_rfl
/-- texts whose bytes, one behind the other, are these -/
def Dia.sParts (xs : List ByteArray) (l : List UInt8) : Prop := (xs.map (·.data.toList)).flatten = l
theorem Dia.sParts_snoc {xs : List ByteArray} {l : List UInt8} (h : Dia.sParts xs l) (y : List UInt8) : Dia.sParts (xs ++ [⟨y.toArray⟩]) (l ++ y) := by
  unfold Dia.sParts at *
  rw [List.map_append, List.flatten_append, h]
  simp
theorem Dia.s_pts_sc (l : List UInt8) : ∀ p ∈ (Dia.pts l).1, Dia.sc p = true := by
  rcases Dia.pts_cases l with ⟨ps, h1, h2, h3⟩ | ⟨ps, r, h1, h2, h3, h4, h5⟩
  · rw [h3]; exact h1
  · rw [h5]; simp
theorem Dia.big1 (n : Nat) (h : n < 256) : Dia.bigB n 1 = [n.toUInt8] := by
  have e : List.range 1 = [0] := rfl
  simp only [Dia.bigB, e, List.map_cons, List.map_nil]
  congr 2
  omega
/-- the bytes of signs, as Encode hands them back -/
def Dia.IsEnc (o : List UInt8 × Int) (w w' : World) (e : Ending) : Prop :=
  e = .returned (.tuple #[.string ⟨o.1.toArray⟩, .agg #[.int .i64 (if o.2 < 0 then 0 else 6), .int .i64 (if o.2 < 0 then 0 else o.2)]]) ∧ Below w.heap.size w w'
set_option maxRecDepth 100000 in
set_option maxHeartbeats 2000000 in
theorem Tryz.c_sEnc_ok (B : Int → Int) {a : Option Addr} {cap : Nat} {ls : List (List Dia.Row)} {l : List (Int × Int)} (c : Int) (s : ByteArray) (ps : List Int) (w : World) (hps : Dia.pts s.data.toList = (ps, -1)) (ht : Dia.T w a cap ls l) (hT : Tryz.Tabs w)
    (hB : ∀ p, Dia.revl l p = if 0 ≤ B p then (B p, true) else (0, false)) (hB1 : ∀ p, B p < 256) (hs : s.size ≤ 100000) :
    Calls Tryz.prog 18 #[.agg #[.slice a ls.length cap, .int .i64 c], .string s] w fun e w' => Dia.IsEnc (Dia.encO B ps) w w' e := by
  obtain ⟨i0, hi, hz0, hz1, hz2⟩ := info_parts Tryz.s_info_str
  have hpl := Dia.pts_len s.data.toList
  have hln : s.data.toList.length = s.size := rfl
  rw [hln, hps] at hpl
  have hpl' : ps.length ≤ s.size := hpl
  have HP : Aid.Hid2 (∀ w1, Below w.heap.size w w1 → Calls Tryz.prog 31 #[.string s] w1 fun e w' => ∃ (aa : Option Addr) (ca : Nat), e = .returned (.tuple #[.slice aa ps.length ca, .agg #[.int .i64 0, .int .i64 0]]) ∧ Aid.RowAt w' aa (ps.map Dia.rv) ∧ Below w1.heap.size w1 w') :=
    ⟨fun w1 hb => (Tryz.c_Points s w1 (by omega) (hT.below hb)).mono fun e w' h => by
      unfold Dia.IsPoints at h
      rw [hps] at h
      obtain ⟨aa, ca, x, y, h1, h2, ⟨h3, h4⟩, h5⟩ := h
      exact ⟨aa, ca, by rw [h1, h3, h4]; rfl, h2, h5⟩⟩
  have HR : Aid.Hid2 (∀ (p : Int) (w1 : World), Below w.heap.size w w1 → 0 ≤ B p → Calls Tryz.prog 45 #[.agg #[.slice a ls.length cap], .int .i32 p] w1 fun e w' => e = .returned (.tuple #[.int .i64 (B p), .bool true]) ∧ Below w1.heap.size w1 w') := ⟨fun p w1 hb h0 => by
    have h := Tryz.t_Reverse' p w1 (ht.below hb)
    rw [hB p, if_pos h0] at h
    exact h⟩
  have HN : Aid.Hid2 (∀ (p : Int) (w1 : World), Below w.heap.size w w1 → ¬ 0 ≤ B p → Calls Tryz.prog 45 #[.agg #[.slice a ls.length cap], .int .i32 p] w1 fun e w' => e = .returned (.tuple #[.int .i64 0, .bool false]) ∧ Below w1.heap.size w1 w') := ⟨fun p w1 hb h0 => by
    have h := Tryz.t_Reverse' p w1 (ht.below hb)
    rw [hB p, if_neg h0] at h
    exact h⟩
  have HTX : Aid.Hid2 (∀ (p : Int) (w1 : World) (u : ByteArray), Dia.sc p = true → u = ⟨(Dia.encs [p]).toArray⟩ → Calls Tryz.prog 30 #[.slice (some ⟨w1.heap.size, 0, none⟩) 1 1] (w1.alloc (.cells #[.int .i32 p] 21)) fun e w' => e = .returned (.tuple #[.string u, .bool true]) ∧ Below w1.heap.size w1 w') := ⟨fun p w1 u hsc hu => by
    subst hu
    have h := Tryz.c_Text (some ⟨w1.heap.size, 0, none⟩) [p] 1 (w1.alloc (.cells #[.int .i32 p] 21)) (Aid.row_new w1 _ _ _ rfl) (by simp)
    rw [Dia.txt_ok (by intro q hq; rw [List.mem_singleton] at hq; subst hq; exact hsc)] at h
    exact h.mono fun e w' ⟨he, hb⟩ => ⟨he, Aid.bt (Aid.b1 _ _) hb⟩⟩
  have HBG : Aid.Hid2 (∀ (n : Nat) (w1 : World), n < 256 → Calls Tryz.prog 46 #[.int .u64 n, .int .i64 1] w1 fun e w' => e = .returned (.string ⟨#[n.toUInt8]⟩) ∧ Below w1.heap.size w1 w') := ⟨fun n w1 hn => by
    have h := Tryz.c_Big n 1 w1 (by omega) (by decide)
    rw [Dia.big1 n hn] at h
    exact h⟩
  have HSC : Aid.Hid2 (∀ p ∈ ps, Dia.sc p = true) := ⟨by
    have := Dia.s_pts_sc s.data.toList
    rw [hps] at this
    exact this⟩
  have HB1 := Aid.Hid2.mk hB1
  clear hpl hln hB hB1 hps ht hT
  go_enter Tryz.func18, Tryz.ntmps18
  go_wp2_with (first
    | (go_at_call 31; refine (HP.out _ (Aid.b2 _ _ _)).mono ?_; rintro e w1 ⟨aa, ca, rfl, hrow, hb1⟩)
    | (go_at_call 7; refine (Tryz.c_Bad_no _ _).mono ?_; rintro e w2 ⟨rfl, hb2⟩))
  have kA := Aid.blk hb2 (Aid.blk_alloc (o' := .cells #[.int .i64 0, .int .i64 0] 26) (Aid.blk hb1 (Aid.heap2 _ _ _).1))
  have kB := Aid.blk hb2 (Aid.blk_alloc (o' := .cells #[.int .i64 0, .int .i64 0] 26) (Aid.blk hb1 (Aid.heap2 _ _ _).2))
  have hB2 : Below w.heap.size w w2 := Aid.bt (Aid.bt (Aid.b2 _ _ _) hb1) (Aid.bt (Aid.b1 w1 _) hb2)
  have hrow2 := (hrow.below (Aid.b1 w1 _)).below hb2
  clear hb1 hb2 hrow HP
  go_loopw [8, 9, 11, 12, 13, 14, 15, 26] (fun v at' _ _ _ _ _ i wr => ∃ (k : Nat) (xs : List ByteArray), k ≤ ps.length ∧ i = .int .i64 k ∧ at' = .int .i64 ((Dia.encs (ps.take k)).length : Nat) ∧ Dia.sParts xs ((ps.take k).map (fun p => (B p).toNat.toUInt8)) ∧ xs.length = k ∧
      (∀ p ∈ ps.take k, 0 ≤ B p) ∧ wr.ownsRow w2.heap.size 9 1 v xs.length (xs.map Value.string) ∧ Below w2.heap.size w2 wr)
    (fun _ _ _ _ _ _ _ i _ => ps.length - (intOf i).toNat)
  case atStart => exact ⟨0, [], Nat.zero_le _, rfl, rfl, rfl, rfl, by simp, World.ownsRow_nil _ _ _ _, Below.refl _ _⟩
  case round =>
    obtain ⟨k, xs, hk, rfl, rfl, hpa, hxl, hall, hown, hb⟩ := hrel
    have HPA := Aid.Hid2.mk hpa
    have HAL := Aid.Hid2.mk hall
    clear hpa hall
    have hbw := Aid.bt hB2 hb
    have kA' := Aid.blk hb kA
    have kB' := Aid.blk hb kB
    obtain ⟨p0, p1, q0, q1⟩ := Aid.two kA'
    have hbs := hb.size
    by_cases hlt : k < ps.length
    · have HTK := Aid.Hid2.mk (Dia.take_snoc ps k hlt)
      have hle := Dia.encs_le (ps.take k)
      have htl : (ps.take k).length ≤ k := List.length_take_le _ _
      have hel : (Dia.encs (ps.take k)).length ≤ 400000 := by omega
      obtain ⟨b, off, rfl, hcell⟩ := (hrow2.below hb).get (k := k) (by simpa using hlt)
      simp only [List.getElem_map, Dia.rv] at hcell
      have hsc := HSC.out ps[k] (List.getElem_mem _)
      have HBAD := Aid.Hid2.mk (fun h => Dia.encO_bad (B := B) hlt HAL.out h)
      generalize ps[k] = q at *
      by_cases hq : 0 ≤ B q
      · obtain ⟨n, hn⟩ := Int.eq_ofNat_of_zero_le hq
        have hn2 : n < 256 := by have := HB1.out q; omega
        have HRq := HR.out q
        rw [hn] at HRq
        have HRq' : Aid.Hid2 (∀ w1, Below w.heap.size w w1 → _) := ⟨fun w1 hb => HRq w1 hb (by omega)⟩
        clear HRq HBAD
        obtain ⟨u, hu⟩ : ∃ u : ByteArray, u = ⟨(Dia.encs [q]).toArray⟩ := ⟨_, rfl⟩
        have hul : u.size ≤ 4 := by
          have h := Dia.encs_le [q]
          rw [hu]
          show (Dia.encs [q]).toArray.size ≤ 4
          rw [List.size_toArray]
          simpa using h
        have HU : Aid.Hid2 ((Dia.encs (ps.take (k + 1))).length = (Dia.encs (ps.take k)).length + u.size) := ⟨by
          rw [HTK.out, Dia.encs_append, List.length_append, hu]; rfl⟩
        have HTQ := Aid.Hid2.mk (fun w1 => HTX.out q w1 u hsc hu)
        clear hu
        generalize (Dia.encs (ps.take k)).length = m at *
        go_wp2_with (first
          | (go_at_call 45; refine (HRq'.out _ hbw).mono ?_; rintro e w3 ⟨rfl, hb3⟩; have h3 := Aid.bt hbw hb3)
          | (go_at_call 46; refine (HBG.out n _ hn2).mono ?_; rintro e w4 ⟨rfl, hb4⟩; have h34 := Aid.bt hb3 hb4)
          | (at_builtin; refine Aid.wpList_app1 (w0 := w2) _ rfl _ _ 74 9 1 16 rfl Tryz.underlying74 i0 _ hi hz0 hz1 hz2 rfl (by decide) w2.heap.size _ _ _ #[.string ⟨#[n.toUInt8]⟩] _ rfl _ rfl (Aid.ownsRow_below hown h34) (hb.trans (h34.mono hb.size)) ?_ rfl rfl ?_ ?_ ?_ ?_))
        · have := h34.size; omega
        · simp [Value.oneCell']
        · omega
        · omega
        · intro v' w5 hown2 hb5 hsz5 _
          have hB5 := Aid.bt hB2 hb5
          go_wp2_with fail
          refine (HTQ.out _).mono ?_
          rintro e w6 ⟨rfl, hb6⟩
          have hown6 := Aid.ownsRow_below hown2 hb6
          have hb26 := Aid.bt hb5 hb6
          go_wp2
          go_roundw
          case rel => exact ⟨k + 1, xs ++ [⟨#[n.toUInt8]⟩], by omega, by go_num, by rw [HU.out]; go_num, by
              rw [HTK.out, List.map_append]
              have := Dia.sParts_snoc HPA.out [(B q).toNat.toUInt8]
              rw [hn] at this
              show Dia.sParts _ (_ ++ [(B q).toNat.toUInt8])
              rw [hn]
              exact this, by simp; omega, by
              rw [HTK.out]
              intro p hp
              rcases List.mem_append.1 hp with hp | hp
              · exact HAL.out p hp
              · rw [List.mem_singleton] at hp; subst hp; omega, by rw [show (xs ++ [(⟨#[n.toUInt8]⟩ : ByteArray)]).length = k + 1 by simp; omega]; simpa using hown6, hb26⟩
          case measure => simp [intOf]; omega
      · have HBQ := Aid.Hid2.mk (HBAD.out hq)
        have HNq := Aid.Hid2.mk (fun w1 hb => HN.out q w1 hb (by first | exact hq | omega))
        clear HBAD hq
        generalize (Dia.encs (ps.take k)).length = m at *
        go_wp2_with fail
        refine (HNq.out _ hbw).mono ?_
        rintro e w3 ⟨rfl, hb3⟩
        obtain ⟨r0, r1, g0, g1⟩ := Aid.two (Aid.blk hb3 kB')
        have h3 := Aid.bt hbw hb3
        go_wp2
        exact bodyPost_ret (v := .tuple #[.string ⟨#[]⟩, .agg #[.int .i64 6, .int .i64 m]]) (by simp [results, Tryz.results18, go_sem, r0, r1]) rfl (by
          unfold Dia.IsEnc
          rw [HBQ.out, if_neg (show ¬ ((m : Nat) : Int) < 0 by omega), if_neg (show ¬ ((m : Nat) : Int) < 0 by omega)]
          exact ⟨rfl, (h3.setCell (by show w.heap.size ≤ w.heap.size + 1; omega) _).setCell (by show w.heap.size ≤ w.heap.size + 1; omega) _⟩)
    · obtain rfl : k = ps.length := by omega
      have e : ps.take ps.length = ps := List.take_of_length_le (Nat.le_refl _)
      have hal := HAL.out
      rw [e] at hal
      have HOK := Aid.Hid2.mk (Dia.encO_ok hal)
      obtain ⟨ab, cp, rfl, hrb, hcp⟩ := Aid.s_own_row' hown
      have HJ : Aid.Hid2 (Calls Tryz.prog 47 #[.slice ab xs.length cp] wr fun e w' => e = .returned (.string ⟨(ps.map (fun p => (B p).toNat.toUInt8)).toArray⟩) ∧ Below wr.heap.size wr w') :=
        ⟨by
          have hpa := HPA.out
          rw [e] at hpa
          have := Tryz.c_Join ab cp xs wr (by simpa using hrb) (by simpa using hcp) (by omega) (by rw [hpa, List.length_map]; omega)
          rw [hpa] at this
          exact this⟩
      rw [hxl] at HJ
      clear hal
      simp only [List.length_map, hxl] at *
      generalize ps.map (fun p => (B p).toNat.toUInt8) = R at *
      go_wp2_with fail
      refine HJ.out.mono ?_
      rintro e w3 ⟨rfl, hb3⟩
      obtain ⟨r0, r1, g0, g1⟩ := Aid.two (Aid.blk hb3 kB')
      have h3 := Aid.bt hbw hb3
      go_wp2
      exact bodyPost_ret (v := .tuple #[.string ⟨R.toArray⟩, .agg #[.int .i64 0, .int .i64 0]]) (by simp [results, Tryz.results18, go_sem, r0, r1]) rfl (by
        unfold Dia.IsEnc
        rw [HOK.out]
        exact ⟨rfl, (h3.setCell (by show w.heap.size ≤ w.heap.size + 1; omega) _).setCell (by show w.heap.size ≤ w.heap.size + 1; omega) _⟩)
set_option maxRecDepth 100000 in
set_option maxHeartbeats 1000000 in
theorem Tryz.c_sEnc_bad {a : Option Addr} {cap n : Nat} (c x : Int) (s : ByteArray) (w : World) (hps : Dia.pts s.data.toList = ([], x)) (hx : 0 ≤ x) (hT : Tryz.Tabs w) (hs : s.size ≤ 100000) :
    Calls Tryz.prog 18 #[.agg #[.slice a n cap, .int .i64 c], .string s] w fun e w' => e = .returned (.tuple #[.string ⟨#[]⟩, .agg #[.int .i64 2, .int .i64 x]]) ∧ Below w.heap.size w w' := by
  have HP : Aid.Hid2 (∀ w1, Below w.heap.size w w1 → Calls Tryz.prog 31 #[.string s] w1 fun e w' => ∃ (aa : Option Addr) (ca : Nat), e = .returned (.tuple #[.slice aa 0 ca, .agg #[.int .i64 2, .int .i64 x]]) ∧ Below w1.heap.size w1 w') :=
    ⟨fun w1 hb => (Tryz.c_Points s w1 (by omega) (hT.below hb)).mono fun e w' h => by
      unfold Dia.IsPoints at h
      rw [hps] at h
      obtain ⟨aa, ca, y, z, h1, h2, h3, h5⟩ := h
      unfold Dia.IsFault at h3
      obtain ⟨h3, h4⟩ := h3
      exact ⟨aa, ca, by rw [h1, h3, h4, if_neg (by omega), if_neg (by omega)]; rfl, h5⟩⟩
  clear hps hT
  go_enter Tryz.func18, Tryz.ntmps18
  go_wp2_with (first
    | (go_at_call 31; refine (HP.out _ (Aid.b2 _ _ _)).mono ?_; rintro e w1 ⟨aa, ca, rfl, hb1⟩)
    | (go_at_call 7; refine (Tryz.c_Bad_yes _ _).mono ?_; rintro e w2 ⟨rfl, hb2⟩))
  have kB := Aid.blk hb2 (Aid.blk_alloc (o' := .cells #[.int .i64 2, .int .i64 x] 26) (Aid.blk hb1 (Aid.heap2 _ _ _).2))
  have kC := Aid.blk hb2 (heap_alloc_new w1 (.cells #[.int .i64 2, .int .i64 x] 26))
  have hB2 : Below w.heap.size w w2 := Aid.bt (Aid.bt (Aid.b2 _ _ _) hb1) (Aid.bt (Aid.b1 w1 _) hb2)
  clear hb1 hb2 HP
  obtain ⟨c0, c1, f0, f1⟩ := Aid.two kC
  obtain ⟨d0, d1, g0, g1⟩ := Aid.two kB
  go_region
  go_wp2
  exact bodyPost_ret (v := .tuple #[.string ⟨#[]⟩, .agg #[.int .i64 2, .int .i64 x]]) (by simp [results, Tryz.results18, go_sem, d0, d1]) rfl
    (by
      exact ⟨rfl, ((hB2.setCell (by show w.heap.size ≤ w.heap.size + 1; omega) _).setCell (by show w.heap.size ≤ w.heap.size + 1; omega) _).drew⟩)
theorem Dia.T_nil (w : World) : Dia.T w none 0 [] [] :=
  ⟨.inl rfl, Nat.le_refl _, fun _ => rfl, ⟨by simp, by simp⟩, ⟨List.Pairwise.nil, List.Perm.refl _⟩, by simp, by simp, by simp⟩
set_option maxRecDepth 100000 in
set_option maxHeartbeats 1000000 in
theorem Tryz.c_sDecNil (w : World) :
    Calls Tryz.prog 21 #[.agg #[.slice none 0 0, .int .i64 0], .string ⟨#[]⟩] w fun e w' => e = .returned (.tuple #[.string ⟨#[]⟩, .agg #[.int .i64 0, .int .i64 0]]) ∧ Below w.heap.size w w' := by
  have HTX : Aid.Hid2 (∀ w1, Calls Tryz.prog 30 #[.slice none 0 0] w1 fun e w' => e = .returned (.tuple #[.string ⟨#[]⟩, .bool true]) ∧ Below w1.heap.size w1 w') := ⟨fun w1 => Tryz.c_Text none [] 0 w1 (.inl rfl) (by simp)⟩
  go_enter Tryz.func21, Tryz.ntmps21
  go_wp2
  go_loopw [6, 7, 8, 9, 14] (fun v _ _ _ i wr => v = .slice none 0 0 ∧ i = .int .i64 0 ∧ wr = (w.alloc (.cells #[.slice none 0 0, .int .i64 0] 45)).alloc (.cells #[.int .i64 0, .int .i64 0] 26)) (fun _ _ _ _ _ _ => 0)
  case atStart => exact ⟨rfl, rfl, rfl⟩
  case round =>
    obtain ⟨rfl, rfl, rfl⟩ := hrel
    have kB := (Aid.heap2 w (.cells #[.slice none 0 0, .int .i64 0] 45) (.cells #[.int .i64 0, .int .i64 0] 26)).2
    go_wp2_with fail
    refine (HTX.out _).mono ?_
    rintro e w1 ⟨rfl, hb1⟩
    obtain ⟨r0, r1, g0, g1⟩ := Aid.two (Aid.blk hb1 kB)
    have hB1 := Aid.bt (Aid.b2 w _ _) hb1
    go_wp2
    exact bodyPost_ret (v := .tuple #[.string ⟨#[]⟩, .agg #[.int .i64 0, .int .i64 0]]) (by simp [results, Tryz.results21, go_sem, r0, r1]) rfl (by
      exact ⟨rfl, (hB1.setCell (by show w.heap.size ≤ w.heap.size + 1; omega) _).setCell (by show w.heap.size ≤ w.heap.size + 1; omega) _⟩)
set_option maxRecDepth 100000 in
set_option maxHeartbeats 1000000 in
theorem Tryz.c_sDecNone (s : ByteArray) (w : World) (h : 0 < s.size) (hs : s.size ≤ 100000) :
    Calls Tryz.prog 21 #[.agg #[.slice none 0 0, .int .i64 0], .string s] w fun e w' => e = .returned (.tuple #[.string ⟨#[]⟩, .agg #[.int .i64 2, .int .i64 0]]) ∧ Below w.heap.size w w' := by
  have HF : Aid.Hid2 (∀ (x : UInt8) (w1 : World), Calls Tryz.prog 50 #[.agg #[.slice none 0 0], .int .i64 x.toNat] w1 fun e w' => e = .returned (.tuple #[.int .i32 0, .bool false]) ∧ Below w1.heap.size w1 w') := ⟨fun x w1 => Tryz.t_Forward (ls := []) (l := []) x.toNat w1 (Dia.T_nil w1) (by have := x.toNat_lt; omega)⟩
  go_enter Tryz.func21, Tryz.ntmps21
  go_wp2
  go_loopw [6, 7, 8, 9, 14] (fun v _ _ _ i wr => v = .slice none 0 0 ∧ i = .int .i64 0 ∧ wr = (w.alloc (.cells #[.slice none 0 0, .int .i64 0] 45)).alloc (.cells #[.int .i64 0, .int .i64 0] 26)) (fun _ _ _ _ _ _ => 0)
  case atStart => exact ⟨rfl, rfl, rfl⟩
  case round =>
    obtain ⟨rfl, rfl, rfl⟩ := hrel
    have kA := (Aid.heap2 w (.cells #[.slice none 0 0, .int .i64 0] 45) (.cells #[.int .i64 0, .int .i64 0] 26)).1
    have kB := (Aid.heap2 w (.cells #[.slice none 0 0, .int .i64 0] 45) (.cells #[.int .i64 0, .int .i64 0] 26)).2
    have HB := Aid.Hid2.mk (Aid.b2 w (.cells #[.slice none 0 0, .int .i64 0] 45) (.cells #[.int .i64 0, .int .i64 0] 26))
    obtain ⟨p0, p1, q0, q1⟩ := Aid.two kA
    have hwx : IntKind.i64.wrap (s[0].toNat : Int) = s[0].toNat := IntWalk.i64_in _ (by have := s[0].toNat_lt; omega)
    have dh : decide (0 < (s.size : Int)) = true := decide_eq_true (by omega)
    go_wp2_with fail
    go_region_with (go_at_call 50; refine (HF.out _ _).mono ?_; rintro e w1 ⟨rfl, hb1⟩)
    all_goals
      have hr1 : Below ((w.alloc (.cells #[.slice none 0 0, .int .i64 0] 45)).alloc (.cells #[.int .i64 0, .int .i64 0] 26)).heap.size ((w.alloc (.cells #[.slice none 0 0, .int .i64 0] 45)).alloc (.cells #[.int .i64 0, .int .i64 0] 26)) w1 := by first | exact hb1 | exact ((Below.refl _ _).drew).trans hb1
      obtain ⟨r0, r1, g0, g1⟩ := Aid.two (Aid.blk hr1 kB)
      have hB1 := Aid.bt HB.out hr1
      clear hb1 hwx
      go_wp2
      exact bodyPost_ret (v := .tuple #[.string ⟨#[]⟩, .agg #[.int .i64 2, .int .i64 0]]) (by simp [results, Tryz.results21, go_sem, r0, r1]) rfl (by
        exact ⟨rfl, (hB1.setCell (by show w.heap.size ≤ w.heap.size + 1; omega) _).setCell (by show w.heap.size ≤ w.heap.size + 1; omega) _⟩)
end Go.Proofs
