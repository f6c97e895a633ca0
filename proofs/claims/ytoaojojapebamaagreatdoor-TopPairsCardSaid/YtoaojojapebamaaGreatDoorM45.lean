/- walks of charset: written; walks of charset: Encode, Decode; walks of charset: Encode and Decode of every charset -/
import Derived.Test.YtoaojojapebamaaGreatDoorM44
import Derived.Deep.RegionLaw
namespace Go.Proofs
open Go.RowKit

/-- append of one value, as a step of a region that draws its order -/
theorem Aid.step_app1 {P : Program} {w0 : World} (wx : World) {ops : Array Oper} {o : Oper} {a : Act} {K : Act → World → Prop} {Q : Exit → Act → World → Prop} {E : Prop}
    (hg : o.guard = none) (s x : Operand) (t e : TypeId) (size bytes : Nat) (hop : o.op = .call { callee := .builtin .append, args := #[s, x], argTypes := #[t, t] })
    (ht : P.underlying t = some (.slice e)) (i : TypeInfo) (z : Value) (hi : P.info? e = some i) (hz : i.zero = some z)
    (hsize : i.size = size) (hby : i.bytes = bytes) (hzs : z.cells.size = size) (hsz : 0 < size)
    (B : Nat) (v : Value) (n : Nat) (xs : List Value) (cs : Array Value) (tb : TypeId) (hs : a.eval s = v)
    (w : World) (hwb : Below (w.alloc (.cells cs tb)).heap.size (w.alloc (.cells cs tb)) wx)
    (hown : w.ownsRow B e size v n xs) (hbel : Below B w0 w) (hB : B ≤ w.heap.size)
    (hx : a.eval x = .slice (some ⟨w.heap.size, 0, none⟩) 1 1) (hl : cs.size = size) (h1 : ∀ u ∈ cs.toList, u.oneCell' = true)
    (h63 : n + 1 ≤ 140737488355328) (hbytes : (n + 1) * bytes ≤ 140737488355328)
    (h : ∀ v' w', w'.ownsRow B e size v' (n + 1) (xs ++ cs.toList) → Below B w0 w' → B ≤ w'.heap.size → K (a.put o.dst v') w') :
    if Region.wanted o (yielded ops a.tmps) = true then Oper.wp P o a wx K Q else E := by
  have hw : Region.wanted o (yielded ops a.tmps) = true := by simp [Region.wanted, hg]
  rw [if_pos hw]
  have hownx : wx.ownsRow B e size v n xs := Aid.ownsRow_below (hown.alloc _) hwb
  have hsa : (w.alloc (.cells cs tb)).heap.size = w.heap.size + 1 := by simp
  have hsx := hwb.size
  have hbx : Below B w0 wx := (hbel.alloc hB _).trans (hwb.mono (by omega))
  have hc : ∀ j u, cs.toList[j]? = some u → wx.cell? ((⟨w.heap.size, 0, none⟩ : Addr).add j) = some u := fun j u hj => Aid.cell_ext hwb (Aid.cells_new w cs tb (0, 0) _ rfl j u hj)
  obtain ⟨v', w', hrun, r1, r2, _⟩ := run_append_own (P := P) wx B t o.type e i z size bytes ht hi hz hsize hby hzs hsz v n xs hownx ⟨w.heap.size, 0, none⟩ 1 1 cs.toList (by simp [hl]) hc h1 (by unfold maxLen; omega) hbytes (by omega)
  have hsz := r2.size
  unfold Oper.wp
  simp [execOp, hop, resolve, invoke, builtin, hs, hx, hrun, Result.andThen]
  exact h v' w' r1 (hbx.grown r2 (by omega) (fun k hk => (hownx.lt k hk).1)) (by omega)
/-- what written hands back -/
def Dia.IsWr (o : Option (List (List UInt8 × List UInt8))) (w w' : World) (e : Ending) : Prop :=
  ∃ (a b : Int) (x : List UInt8), e = .returned (.tuple #[.string ⟨x.toArray⟩, .agg #[.int .i64 a, .int .i64 b]]) ∧ (∀ us, o = some us → x = (us.map Prod.fst).flatten ∧ a = 0 ∧ b = 0) ∧ (o = none → x = [] ∧ a = 6) ∧ Below w.heap.size w w'
/-- where written's loop stands -/
structure Dia.WrI (w2 : World) (c : Int) (ps : List Int) (O : Option (List (List UInt8 × List UInt8))) (k m f cp : Nat) (a' : Option Addr) (done : List (List UInt8 × List UInt8)) (xs : List ByteArray) : Prop where
  km : ps.length = k + m
  mf : m ≤ f
  mc : m ≤ cp
  row : Aid.RowAt w2 a' ((ps.drop k).map Dia.rv)
  parts : Dia.sParts xs ((done.map Prod.fst).flatten)
  len : xs.length ≤ k
  flat : (done.map Prod.fst).flatten.length ≤ 2 * k
  wr : O = (Dia.wrt c f (ps.drop k)).map (done ++ ·)
theorem Dia.WrI.step {w2 : World} {c : Int} {ps : List Int} {O : Option (List (List UInt8 × List UInt8))} {k m f cp : Nat} {b off : Nat} {done : List (List UInt8 × List UInt8)} {xs : List ByteArray} {p : Int} {r : List Int} {n : Nat} {y : ByteArray}
    (h : Dia.WrI w2 c ps O k m (f + 1) cp (some ⟨b, off, none⟩) done xs) (hd : ps.drop k = p :: r) (n1 : 1 ≤ n) (n2 : n ≤ m) (hn : (Dia.csb c (p :: r)).2 = (n : Int)) (hul : (Dia.csb c (p :: r)).1.length ≤ 2) (hy : y = ⟨(Dia.csb c (p :: r)).1.toArray⟩) (a2 : Option Addr) (cp2 : Nat)
    (h2 : (n < cp ∧ a2 = some ⟨b, off + n, none⟩ ∧ cp2 = cp - n) ∨ n = cp) : Dia.WrI w2 c ps O (k + n) (m - n) f cp2 a2 (done ++ [((Dia.csb c (p :: r)).1, Dia.encs ((p :: r).take n))]) (xs ++ [y]) where
  km := by have := h.km; omega
  mf := by have := h.mf; omega
  mc := by have := h.mc; rcases h2 with ⟨_, _, h2⟩ | h2 <;> omega
  row := by
    have e : ps.drop (k + n) = (ps.drop k).drop n := by rw [List.drop_drop]
    rcases h2 with ⟨_, rfl, _⟩ | h2
    · rw [e, List.map_drop]
      exact Aid.rowAt_drop h.row n
    · have : ps.drop (k + n) = [] := List.drop_eq_nil_of_le (by have := h.km; have := h.mc; omega)
      rw [this]
      exact .inl rfl
  parts := by
    rw [hy, List.map_append, List.flatten_append]
    have := Dia.sParts_snoc h.parts (Dia.csb c (p :: r)).1
    simpa using this
  len := by have := h.len; simp; omega
  flat := by
    have := h.flat
    rw [List.map_append, List.flatten_append, List.length_append]
    simp only [List.map_cons, List.map_nil, List.flatten_cons, List.flatten_nil, List.append_nil]
    omega
  wr := by
    have e : ps.drop (k + n) = (p :: r).drop n := by rw [← hd, List.drop_drop]
    rw [h.wr, hd, Dia.wrt_succ f n (by simp) hn n1, e, Option.map_map]
    congr 1
    funext us
    simp
def Dia.slLen : Value → Nat
  | .slice _ n _ => n
  | _ => 0
theorem Dia.wr_last {o : Option (List (List UInt8 × List UInt8))} {us : List (List UInt8 × List UInt8)} {w w' : World} {e : Ending} (h : o = some us) (he : e = .returned (.tuple #[.string ⟨((us.map Prod.fst).flatten).toArray⟩, .agg #[.int .i64 0, .int .i64 0]])) (hb : Below w.heap.size w w') : Dia.IsWr o w w' e :=
  ⟨0, 0, _, he, (fun vs hv => by rw [h] at hv; cases hv; exact ⟨rfl, rfl, rfl⟩), (fun hn => by rw [h] at hn; cases hn), hb⟩
theorem Dia.wr_none {o : Option (List (List UInt8 × List UInt8))} {m : Int} {w w' : World} {e : Ending} (h : o = none) (he : e = .returned (.tuple #[.string ⟨#[]⟩, .agg #[.int .i64 6, .int .i64 m]])) (hb : Below w.heap.size w w') : Dia.IsWr o w w' e :=
  ⟨6, m, [], he, (fun vs hv => by rw [h] at hv; cases hv), (fun _ => ⟨rfl, rfl⟩), hb⟩
set_option maxRecDepth 100000 in
set_option maxHeartbeats 4000000 in
theorem Tryz.c_cwritten (c : Int) (s : ByteArray) (ps : List Int) (w : World) (hc : c = 4 ∨ c = 5 ∨ c = 6) (hps : Dia.pts s.data.toList = (ps, -1)) (hT : Tryz.Tabs w) (hs : s.size ≤ 10000) :
    Calls Tryz.prog 19 #[.int .i64 c, .string s] w fun e w' => Dia.IsWr (Dia.wrt c ps.length ps) w w' e := by
  obtain ⟨i0, hi, hz0, hz1, hz2⟩ := info_parts Tryz.s_info_str
  have hpl : ps.length ≤ s.size := by
    have h1 := Dia.pts_len s.data.toList
    rw [hps] at h1
    exact h1
  have hsc0 : ∀ p ∈ ps, Dia.sc p = true := by
    have := Dia.s_pts_sc s.data.toList
    rw [hps] at this
    exact this
  have HP : Aid.Hid2 (∀ w1, Below w.heap.size w w1 → Calls Tryz.prog 31 #[.string s] w1 fun e w' => ∃ (aa : Option Addr) (ca : Nat), e = .returned (.tuple #[.slice aa ps.length ca, .agg #[.int .i64 0, .int .i64 0]]) ∧ Aid.RowAt w' aa (ps.map Dia.rv) ∧ ps.length ≤ ca ∧ Below w1.heap.size w1 w') :=
    ⟨fun w1 hb => (Tryz.c_PointsC s w1 (by omega) (hT.below hb)).mono fun e w' h => by
      unfold Dia.IsPointsC at h
      rw [hps] at h
      obtain ⟨aa, ca, x, y, h1, h2, ⟨h3, h4⟩, h5, h6⟩ := h
      exact ⟨aa, ca, by rw [h1, h3, h4]; rfl, h2, h5, h6⟩⟩
  have HBY : Aid.Hid2 (∀ (b off cap : Nat) (p : Int) (r : List Int) (w1 : World), Below w.heap.size w w1 → 0 ≤ p → Aid.RowAt w1 (some ⟨b, off, none⟩) ((p :: r).map Dia.rv) → (p :: r).length ≤ 100000 → Calls Tryz.prog 48 #[.int .i64 c, .slice (some ⟨b, off, none⟩) (p :: r).length cap] w1 fun e w' => e = .returned (.tuple #[.string ⟨(Dia.csb c (p :: r)).1.toArray⟩, .int .i64 (Dia.csb c (p :: r)).2]) ∧ Below w1.heap.size w1 w') :=
    ⟨fun b off cap p r w1 hb h0 h1 h2 => Tryz.c_cbytes c b off cap p r w1 (hT.below hb) hc h0 h1 h2⟩
  have HTX : Aid.Hid2 (∀ (a : Option Addr) (cap : Nat) (l : List Int) (w1 : World), (∀ p ∈ l, Dia.sc p = true) → Aid.RowAt w1 a (l.map Dia.rv) → l.length ≤ 100000 → Calls Tryz.prog 30 #[.slice a l.length cap] w1 fun e w' => e = .returned (.tuple #[.string ⟨(Dia.encs l).toArray⟩, .bool true]) ∧ Below w1.heap.size w1 w') := ⟨fun a cap l w1 h1 h2 h3 => by
    have h := Tryz.c_Text a l cap w1 h2 (by omega)
    rw [Dia.txt_ok h1] at h
    exact h⟩
  have HSC := Aid.Hid2.mk hsc0
  have HC := Aid.Hid2.mk hc
  generalize hO : Dia.wrt c ps.length ps = O
  have HO := Aid.Hid2.mk hO
  clear hO hsc0 hps hT hc
  go_enter Tryz.func19, Tryz.ntmps19
  go_wp2_with (first
    | (go_at_call 31; refine (HP.out _ (Aid.b1 _ _)).mono ?_; rintro e w1 ⟨aa, ca, rfl, hrow, hca, hb1⟩)
    | (go_at_call 7; refine (Tryz.c_Bad_no _ _).mono ?_; rintro e w2 ⟨rfl, hb2⟩))
  have kB := Aid.blk hb2 (Aid.blk_alloc (o' := .cells #[.int .i64 0, .int .i64 0] 26) (Aid.blk hb1 (heap_alloc_new w (.cells #[.int .i64 0, .int .i64 0] 26))))
  have hB2 : Below w.heap.size w w2 := Aid.bt (Aid.bt (Aid.b1 _ _) hb1) (Aid.bt (Aid.b1 w1 _) hb2)
  have hrow2 := (hrow.below (Aid.b1 w1 _)).below hb2
  clear hb1 hb2 hrow HP
  go_loopw [6, 8, 9, 10, 11, 12, 13] (fun l v at' _ _ _ _ wr => ∃ (k m f cp : Nat) (a' : Option Addr) (done : List (List UInt8 × List UInt8)) (xs : List ByteArray), l = .slice a' m cp ∧ at' = .int .i64 ((Dia.encs (ps.take k)).length : Nat) ∧ Aid.Hid2 (Dia.WrI w2 c ps O k m f cp a' done xs) ∧ wr.ownsRow w2.heap.size 9 1 v xs.length (xs.map Value.string) ∧ Below w2.heap.size w2 wr)
    (fun l _ _ _ _ _ _ _ => Dia.slLen l)
  case atStart => exact ⟨0, ps.length, ps.length, ca, aa, [], [], rfl, rfl, ⟨⟨by omega, Nat.le_refl _, hca, hrow2, rfl, Nat.le_refl _, Nat.zero_le _, by rw [← HO.out, List.drop_zero]; simp⟩⟩, World.ownsRow_nil _ _ _ _, Below.refl _ _⟩
  case round =>
    obtain ⟨k, m, f, cp, a', done, xs, rfl, rfl, HI, hown, hb⟩ := hrel
    have hkm := HI.out.km
    have hmf := HI.out.mf
    have hmc := HI.out.mc
    have hxl := HI.out.len
    have HKM := Aid.Hid2.mk hkm
    have hkp : k + m ≤ 10000 := by omega
    have hbw := Aid.bt hB2 hb
    have hbs := hb.size
    obtain ⟨c0, c1, f0, f1⟩ := Aid.two (Aid.blk hb kB)
    have hle := Dia.encs_le (ps.take k)
    have htl : (ps.take k).length ≤ k := List.length_take_le _ _
    have hel : (Dia.encs (ps.take k)).length ≤ 40000 := by omega
    clear hle htl
    by_cases hm : 0 < m
    · have hdl : (ps.drop k).length = m := by rw [List.length_drop]; omega
      obtain ⟨p, r, hd⟩ : ∃ p r, ps.drop k = p :: r := by
        cases h : ps.drop k with
        | nil => rw [h] at hdl; simp at hdl; omega
        | cons p r => exact ⟨p, r, rfl⟩
      have hscd : ∀ q ∈ p :: r, Dia.sc q = true := fun q hq => HSC.out q (List.mem_of_mem_drop (by rw [hd]; exact hq))
      have hp0 : 0 ≤ p := by have := hscd p (by simp); rw [Dia.sc_iff] at this; omega
      have hrowr := HI.out.row.below hb
      rw [hd] at hrowr hdl
      obtain ⟨b, off, rfl, _⟩ := hrowr.get (k := 0) (by simp)
      have hBYk := HBY.out b off cp p r wr hbw hp0 hrowr (by omega)
      rw [hdl] at hBYk
      have HBYk := Aid.Hid2.mk hBYk
      have HD := Aid.Hid2.mk hd
      have hdm : decide (0 < (m : Int)) = true := decide_eq_true (by omega)
      obtain ⟨f', rfl⟩ : ∃ f', f = f' + 1 := ⟨f - 1, by omega⟩
      clear hBYk hd hkm
      by_cases hz : (Dia.csb c (p :: r)).2 = 0
      · have HN : Aid.Hid2 (O = none) := ⟨by rw [HI.out.wr, HD.out, Dia.wrt_zero f' (by simp) hz]; rfl⟩
        rw [hz] at HBYk
        generalize (Dia.csb c (p :: r)).1 = x at *
        clear hz hrowr hscd hdl
        generalize (Dia.encs (ps.take k)).length = at0 at *
        go_wp2_with fail
        refine HBYk.out.mono ?_
        rintro e w3 ⟨rfl, hb3⟩
        obtain ⟨r0, r1, g0, g1⟩ := Aid.two (Aid.blk hb3 (Aid.blk hb kB))
        have h3 := Aid.bt hbw hb3
        go_wp2
        exact bodyPost_ret (v := .tuple #[.string ⟨#[]⟩, .agg #[.int .i64 6, .int .i64 at0]]) (by simp [results, Tryz.results19, go_sem, r0, r1]) rfl (by
          exact Dia.wr_none HN.out rfl ((h3.setCell (Nat.le_refl _) _).setCell (Nat.le_refl _) _))
      · obtain ⟨n, n1, n2, hn, hu⟩ := Dia.csb_ok HC.out hscd hz
        rw [hdl] at n2
        have htkl : ((p :: r).take n).length = n := by rw [List.length_take, hdl]; omega
        have HTk : Aid.Hid2 (∀ w3, Below wr.heap.size wr w3 → Calls Tryz.prog 30 #[.slice (some ⟨b, off, none⟩) n cp] w3 fun e w' => e = .returned (.tuple #[.string ⟨(Dia.encs ((p :: r).take n)).toArray⟩, .bool true]) ∧ Below w3.heap.size w3 w') := ⟨fun w3 hb3 => by
          have h := HTX.out (some ⟨b, off, none⟩) cp ((p :: r).take n) w3 (fun q hq => hscd q (List.mem_of_mem_take hq)) (by rw [List.map_take]; exact Aid.rowAt_take (hrowr.below hb3) n) (by omega)
          rw [htkl] at h
          exact h⟩
        have HAT : Aid.Hid2 ((Dia.encs (ps.take (k + n))).length = (Dia.encs (ps.take k)).length + (Dia.encs ((p :: r).take n)).length) := ⟨by
          rw [List.take_add, HD.out, Dia.encs_append, List.length_append]⟩
        have hul : (Dia.encs ((p :: r).take n)).length ≤ 40000 := by
          have := Dia.encs_le ((p :: r).take n)
          rw [htkl] at this
          omega
        rw [hn] at HBYk
        obtain ⟨y, hy⟩ : ∃ y : ByteArray, y = ⟨(Dia.csb c (p :: r)).1.toArray⟩ := ⟨_, rfl⟩
        have HI2 := Aid.Hid2.mk (fun a2 cp2 h2 => HI.out.step HD.out n1 n2 hn (Dia.uOk_len hu).2 hy a2 cp2 h2)
        obtain ⟨u, hu2⟩ : ∃ u : ByteArray, u = ⟨(Dia.encs ((p :: r).take n)).toArray⟩ := ⟨_, rfl⟩
        have hus : u.size = (Dia.encs ((p :: r).take n)).length := by rw [hu2]; show (Dia.encs ((p :: r).take n)).toArray.size = _; rw [List.size_toArray]
        rw [← hy] at HBYk
        rw [← hu2] at HTk
        rw [← hus] at HAT hul
        clear hy hu2 hus hu hz hn hscd hrowr hdl htkl HI
        generalize (Dia.encs (ps.take k)).length = at0 at *
        have HWAT : Aid.Hid2 (Value.int .i64 (IntKind.i64.wrap ((at0 : Int) + (u.size : Int))) = .int .i64 ((Dia.encs (ps.take (k + n))).length : Nat)) := ⟨by rw [HAT.out, IntWalk.i64_in _ (by omega)]; simp⟩
        have hnz : ((n : Int) == 0) = false := by simp; omega
        have q1 : (n : Int) ≤ m := by omega
        have q2 : (n : Int) ≤ cp := by omega
        have q3 : 0 ≤ (n : Int) := by omega
        have q4 : (m : Int) ≤ cp := by omega
        go_wp2_with fail
        refine HBYk.out.mono ?_
        rintro e w3 ⟨rfl, hb3⟩
        go_wp2_with fail
        refine (HTk.out _ hb3).mono ?_
        rintro e w4 ⟨rfl, hb4⟩
        have h34 := Aid.bt hb3 hb4
        have hown4 := Aid.ownsRow_below hown h34
        have hb4' := Aid.bt hb h34
        have hs4 := hb4'.size
        go_wp2_with fail
        go_region_law ((refine Aid.step_app1 (w0 := w2) _ rfl (.tmp 42) (.tmp 44) 74 9 1 16 rfl Tryz.underlying74 i0 _ hi hz0 hz1 hz2 rfl (by decide) w2.heap.size _ _ _ #[.string y] 9 (by simp [Act.eval]) w4 (by first | exact Below.refl _ _ | exact (Below.refl _ _).drew | exact (Below.refl _ _).drew.drew | exact (Below.refl _ _).drew.drew.drew) hown4 hb4' hs4 (by simp [Act.eval]) rfl (by simp [Value.oneCell']) (by omega) (by omega) ?_; intro v' w5 hown5 hb5 hsz5))
        all_goals
          go_wp2
          all_goals
            go_roundw
            case rel =>
              first
                | exact ⟨_, .slice (some ⟨b, off + n, none⟩) (m - n) (cp - n), v', .int .i64 (IntKind.i64.wrap ((at0 : Int) + (u.size : Int))), ⟨k + n, m - n, f', cp - n, some ⟨b, off + n, none⟩, rfl, HWAT.out, _, xs ++ [y], ⟨HI2.out _ _ (.inl ⟨by omega, rfl, rfl⟩)⟩, by simpa using hown5⟩, rfl, rfl, rfl, rfl⟩
                | exact ⟨_, .slice (some ⟨b, off, none⟩) (m - n) 0, v', .int .i64 (IntKind.i64.wrap ((at0 : Int) + (u.size : Int))), ⟨k + n, m - n, f', 0, some ⟨b, off, none⟩, rfl, HWAT.out, _, xs ++ [y], ⟨HI2.out _ _ (.inr (by omega))⟩, by simpa using hown5⟩, rfl, rfl, rfl, rfl⟩
            case measure => simp [Dia.slLen]; omega
    · obtain rfl : m = 0 := by omega
      have hkl : k = ps.length := by omega
      have e : ps.drop k = [] := List.drop_eq_nil_of_le (by omega)
      have HW : Aid.Hid2 (O = some done) := ⟨by rw [HI.out.wr, e, Dia.wrt_nil]; simp⟩
      have HFL := HI.out.flat
      obtain ⟨ab, cp2, rfl, hrb, hcp⟩ := Aid.s_own_row' hown
      have HJ : Aid.Hid2 (Calls Tryz.prog 47 #[.slice ab xs.length cp2] wr fun e w' => e = .returned (.string ⟨((done.map Prod.fst).flatten).toArray⟩) ∧ Below wr.heap.size wr w') :=
        ⟨by
          have hpa := HI.out.parts
          unfold Dia.sParts at hpa
          have := Tryz.c_Join ab cp2 xs wr (by simpa using hrb) (by simpa using hcp) (by omega) (by rw [hpa]; omega)
          rw [hpa] at this
          exact this⟩
      have hdm : decide (0 < ((0 : Nat) : Int)) = false := by decide
      clear e HFL HI hkm HKM
      simp only [List.length_map] at *
      generalize hR : ((done.map Prod.fst).flatten).toArray = R at *
      have HRR := Aid.Hid2.mk hR
      clear hR
      go_wp2_with fail
      refine HJ.out.mono ?_
      rintro e w3 ⟨rfl, hb3⟩
      obtain ⟨d0, d1, g0, g1⟩ := Aid.two (Aid.blk hb3 (Aid.blk hb kB))
      have h3 := Aid.bt hbw hb3
      go_wp2
      exact bodyPost_ret (v := .tuple #[.string ⟨R⟩, .agg #[.int .i64 0, .int .i64 0]]) (by simp [results, Tryz.results19, go_sem, d0, d1]) rfl (by
        exact Dia.wr_last HW.out (by rw [HRR.out]) ((h3.setCell (Nat.le_refl _) _).setCell (Nat.le_refl _) _))
end Go.Proofs
namespace Go.Proofs
open Go.RowKit

/-- what Encode hands back -/
def Dia.IsCE (o : Option (List UInt8)) (w w' : World) (e : Ending) : Prop :=
  ∃ (a b : Int) (x : List UInt8), e = .returned (.tuple #[.string ⟨x.toArray⟩, .agg #[.int .i64 a, .int .i64 b]]) ∧ (∀ y, o = some y → x = y ∧ a = 0 ∧ b = 0) ∧ (o = none → a ≠ 0) ∧ Below w.heap.size w w'
theorem Dia.ce_bad {o : Option (List UInt8)} {a b : Int} {w w' : World} {e : Ending} (h : o = none) (ha : a ≠ 0) (he : e = .returned (.tuple #[.string ⟨#[]⟩, .agg #[.int .i64 a, .int .i64 b]])) (hb : Below w.heap.size w w') : Dia.IsCE o w w' e :=
  ⟨a, b, [], he, (fun y hy => by rw [h] at hy; cases hy), fun _ => ha, hb⟩
theorem Dia.ce_ok {o : Option (List UInt8)} {x : List UInt8} {w w' : World} {e : Ending} (h : o = some x) (he : e = .returned (.tuple #[.string ⟨x.toArray⟩, .agg #[.int .i64 0, .int .i64 0]])) (hb : Below w.heap.size w w') : Dia.IsCE o w w' e :=
  ⟨0, 0, x, he, (fun y hy => by rw [h] at hy; cases hy; exact ⟨rfl, rfl, rfl⟩), (fun hn => by rw [h] at hn; cases hn), hb⟩
set_option maxRecDepth 100000 in
set_option maxHeartbeats 2000000 in
theorem Tryz.c_cEnc_set (c : Int) (t : ByteArray) (w : World) (O : Option (List UInt8)) (hT : Tryz.Tabs w) (hc : 0 ≤ c ∧ c ≤ 3)
    (HS : ∀ (w1 : World) (a : Option Addr) (cap : Nat) (ls : List (List Dia.Row)), Below w.heap.size w w1 → Dia.T w1 a cap ls (Dia.sinL c) → Calls Tryz.prog 18 #[.agg #[.slice a ls.length cap, .int .i64 c], .string t] w1 fun e w' => Dia.IsCE O w1 w' e) :
    Calls Tryz.prog 6 #[.int .i64 c, .string t] w fun e w' => Dia.IsCE O w w' e := by
  have HO : Aid.Hid2 (∀ w1, Below w.heap.size w w1 → Calls Tryz.prog 17 #[.int .i64 c] w1 fun e w' => Dia.IsOf c (Dia.sinL c) w1 w' e) := ⟨fun w1 hb => Tryz.c_Of c w1 (hT.below hb) hc⟩
  have HSS := Aid.Hid2.mk HS
  clear HS hT hc
  generalize Dia.sinL c = L at *
  go_enter Tryz.func6, Tryz.ntmps6
  go_wp2_with fail
  refine (HO.out _ (Aid.b1 _ _)).mono ?_
  rintro e w1 ⟨a1, c1, ls, rfl, hn1, ht1, hb1⟩
  have kF := Aid.blk_alloc (o' := .cells #[.slice a1 ls.length c1, .int .i64 c] 45) (Aid.blk hb1 (heap_alloc_new w (.cells #[.int .i64 0, .int .i64 0] 26)))
  have hB1 := Aid.bt (Aid.bt (Aid.b1 w (.cells #[.int .i64 0, .int .i64 0] 26)) hb1) (Aid.b1 w1 (.cells #[.slice a1 ls.length c1, .int .i64 c] 45))
  have hT1 := ht1.below (Aid.b1 w1 (.cells #[.slice a1 ls.length c1, .int .i64 c] 45))
  clear ht1 hb1
  go_wp2_with fail
  refine (HSS.out _ _ _ _ hB1 hT1).mono ?_
  rintro e w2 ⟨a, b, x, rfl, h1, h2, hb2⟩
  have HH := Aid.Hid2.mk (And.intro h1 h2)
  clear h1 h2
  obtain ⟨r0, r1, g0, g1⟩ := Aid.two (Aid.blk hb2 kF)
  have hB2 := Aid.bt hB1 hb2
  go_wp2
  exact bodyPost_ret (v := .tuple #[.string ⟨x.toArray⟩, .agg #[.int .i64 a, .int .i64 b]]) (by simp [results, Tryz.results6, go_sem, r0, r1]) rfl (by
    exact ⟨a, b, x, rfl, HH.out.1, HH.out.2, (hB2.setCell (Nat.le_refl _) _).setCell (Nat.le_refl _) _⟩)
set_option maxRecDepth 100000 in
set_option maxHeartbeats 2000000 in
theorem Tryz.c_cEnc_two (c : Int) (t : ByteArray) (w : World) (O : Option (List UInt8)) (hc : c = 4 ∨ c = 5 ∨ c = 6)
    (HS : ∀ (w1 : World), Below w.heap.size w w1 → Calls Tryz.prog 19 #[.int .i64 c, .string t] w1 fun e w' => Dia.IsCE O w1 w' e) :
    Calls Tryz.prog 6 #[.int .i64 c, .string t] w fun e w' => Dia.IsCE O w w' e := by
  have HO : Aid.Hid2 (∀ w1, Calls Tryz.prog 17 #[.int .i64 c] w1 fun e w' => e = .returned (.tuple #[.agg #[.slice none 0 0, .int .i64 0], .bool false]) ∧ Below w1.heap.size w1 w') := ⟨fun w1 => Tryz.c_OfNone c w1 (by omega) (by omega) (by omega) (by omega)⟩
  have HSS := Aid.Hid2.mk HS
  clear HS
  rcases hc with rfl | rfl | rfl
  all_goals
    go_enter Tryz.func6, Tryz.ntmps6
    go_wp2_with fail
    refine (HO.out _).mono ?_
    rintro e w1 ⟨rfl, hb1⟩
    have kF := Aid.blk_alloc (o' := .cells #[.slice none 0 0, .int .i64 0] 45) (Aid.blk hb1 (heap_alloc_new w (.cells #[.int .i64 0, .int .i64 0] 26)))
    have hB1 := Aid.bt (Aid.bt (Aid.b1 w (.cells #[.int .i64 0, .int .i64 0] 26)) hb1) (Aid.b1 w1 (.cells #[.slice none 0 0, .int .i64 0] 45))
    clear hb1
    go_wp2_with fail
    refine (HSS.out _ hB1).mono ?_
    rintro e w2 ⟨a, b, x, rfl, h1, h2, hb2⟩
    have HH := Aid.Hid2.mk (And.intro h1 h2)
    clear h1 h2
    obtain ⟨r0, r1, g0, g1⟩ := Aid.two (Aid.blk hb2 kF)
    have hB2 := Aid.bt hB1 hb2
    go_wp2
    exact bodyPost_ret (v := .tuple #[.string ⟨x.toArray⟩, .agg #[.int .i64 a, .int .i64 b]]) (by simp [results, Tryz.results6, go_sem, r0, r1]) rfl (by
      exact ⟨a, b, x, rfl, HH.out.1, HH.out.2, (hB2.setCell (Nat.le_refl _) _).setCell (Nat.le_refl _) _⟩)
set_option maxRecDepth 100000 in
set_option maxHeartbeats 2000000 in
theorem Tryz.c_cEnc_utf (t : ByteArray) (w : World) (O : Option (List UInt8))
    (HS : ∀ (w1 : World), Below w.heap.size w w1 → Calls Tryz.prog 8 #[.int .i64 7, .string t] w1 fun e w' => Dia.IsCE O w1 w' e) :
    Calls Tryz.prog 6 #[.int .i64 7, .string t] w fun e w' => Dia.IsCE O w w' e := by
  have HO : Aid.Hid2 (∀ w1, Calls Tryz.prog 17 #[.int .i64 7] w1 fun e w' => e = .returned (.tuple #[.agg #[.slice none 0 0, .int .i64 0], .bool false]) ∧ Below w1.heap.size w1 w') := ⟨fun w1 => Tryz.c_OfNone 7 w1 (by omega) (by omega) (by omega) (by omega)⟩
  have HSS := Aid.Hid2.mk HS
  clear HS
  go_enter Tryz.func6, Tryz.ntmps6
  go_wp2_with fail
  refine (HO.out _).mono ?_
  rintro e w1 ⟨rfl, hb1⟩
  have kF := Aid.blk_alloc (o' := .cells #[.slice none 0 0, .int .i64 0] 45) (Aid.blk hb1 (heap_alloc_new w (.cells #[.int .i64 0, .int .i64 0] 26)))
  have hB1 := Aid.bt (Aid.bt (Aid.b1 w (.cells #[.int .i64 0, .int .i64 0] 26)) hb1) (Aid.b1 w1 (.cells #[.slice none 0 0, .int .i64 0] 45))
  clear hb1
  go_wp2_with fail
  refine (HSS.out _ hB1).mono ?_
  rintro e w2 ⟨a, b, x, rfl, h1, h2, hb2⟩
  have HH := Aid.Hid2.mk (And.intro h1 h2)
  clear h1 h2
  obtain ⟨r0, r1, g0, g1⟩ := Aid.two (Aid.blk hb2 kF)
  have hB2 := Aid.bt hB1 hb2
  go_wp2
  exact bodyPost_ret (v := .tuple #[.string ⟨x.toArray⟩, .agg #[.int .i64 a, .int .i64 b]]) (by simp [results, Tryz.results6, go_sem, r0, r1]) rfl (by
    exact ⟨a, b, x, rfl, HH.out.1, HH.out.2, (hB2.setCell (Nat.le_refl _) _).setCell (Nat.le_refl _) _⟩)
set_option maxRecDepth 100000 in
set_option maxHeartbeats 2000000 in
theorem Tryz.c_cEnc_wide (c : Int) (t : ByteArray) (w : World) (O : Option (List UInt8)) (hc : c = 8 ∨ c = 9)
    (HS : ∀ (w1 : World), Below w.heap.size w w1 → Calls Tryz.prog 20 #[.string t, .bool (decide (c = 9))] w1 fun e w' => Dia.IsCE O w1 w' e) :
    Calls Tryz.prog 6 #[.int .i64 c, .string t] w fun e w' => Dia.IsCE O w w' e := by
  have HO : Aid.Hid2 (∀ w1, Calls Tryz.prog 17 #[.int .i64 c] w1 fun e w' => e = .returned (.tuple #[.agg #[.slice none 0 0, .int .i64 0], .bool false]) ∧ Below w1.heap.size w1 w') := ⟨fun w1 => Tryz.c_OfNone c w1 (by omega) (by omega) (by omega) (by omega)⟩
  have HSS := Aid.Hid2.mk HS
  clear HS
  rcases hc with rfl | rfl
  · rw [show decide ((8 : Int) = 9) = false from rfl] at HSS
    go_enter Tryz.func6, Tryz.ntmps6
    go_wp2_with fail
    refine (HO.out _).mono ?_
    rintro e w1 ⟨rfl, hb1⟩
    have kF := Aid.blk_alloc (o' := .cells #[.slice none 0 0, .int .i64 0] 45) (Aid.blk hb1 (heap_alloc_new w (.cells #[.int .i64 0, .int .i64 0] 26)))
    have hB1 := Aid.bt (Aid.bt (Aid.b1 w (.cells #[.int .i64 0, .int .i64 0] 26)) hb1) (Aid.b1 w1 (.cells #[.slice none 0 0, .int .i64 0] 45))
    clear hb1
    go_wp2_with fail
    refine (HSS.out _ hB1).mono ?_
    rintro e w2 ⟨a, b, x, rfl, h1, h2, hb2⟩
    have HH := Aid.Hid2.mk (And.intro h1 h2)
    clear h1 h2
    obtain ⟨r0, r1, g0, g1⟩ := Aid.two (Aid.blk hb2 kF)
    have hB2 := Aid.bt hB1 hb2
    go_wp2
    exact bodyPost_ret (v := .tuple #[.string ⟨x.toArray⟩, .agg #[.int .i64 a, .int .i64 b]]) (by simp [results, Tryz.results6, go_sem, r0, r1]) rfl (by
      exact ⟨a, b, x, rfl, HH.out.1, HH.out.2, (hB2.setCell (Nat.le_refl _) _).setCell (Nat.le_refl _) _⟩)
  · rw [show decide ((9 : Int) = 9) = true from rfl] at HSS
    go_enter Tryz.func6, Tryz.ntmps6
    go_wp2_with fail
    refine (HO.out _).mono ?_
    rintro e w1 ⟨rfl, hb1⟩
    have kF := Aid.blk_alloc (o' := .cells #[.slice none 0 0, .int .i64 0] 45) (Aid.blk hb1 (heap_alloc_new w (.cells #[.int .i64 0, .int .i64 0] 26)))
    have hB1 := Aid.bt (Aid.bt (Aid.b1 w (.cells #[.int .i64 0, .int .i64 0] 26)) hb1) (Aid.b1 w1 (.cells #[.slice none 0 0, .int .i64 0] 45))
    clear hb1
    go_wp2_with fail
    refine (HSS.out _ hB1).mono ?_
    rintro e w2 ⟨a, b, x, rfl, h1, h2, hb2⟩
    have HH := Aid.Hid2.mk (And.intro h1 h2)
    clear h1 h2
    obtain ⟨r0, r1, g0, g1⟩ := Aid.two (Aid.blk hb2 kF)
    have hB2 := Aid.bt hB1 hb2
    go_wp2
    exact bodyPost_ret (v := .tuple #[.string ⟨x.toArray⟩, .agg #[.int .i64 a, .int .i64 b]]) (by simp [results, Tryz.results6, go_sem, r0, r1]) rfl (by
      exact ⟨a, b, x, rfl, HH.out.1, HH.out.2, (hB2.setCell (Nat.le_refl _) _).setCell (Nat.le_refl _) _⟩)
set_option maxRecDepth 100000 in
set_option maxHeartbeats 2000000 in
theorem Tryz.c_cDec_set (c : Int) (t : ByteArray) (w : World) (O : Option (List UInt8)) (hT : Tryz.Tabs w) (hc : 0 ≤ c ∧ c ≤ 3)
    (HS : ∀ (w1 : World) (a : Option Addr) (cap : Nat) (ls : List (List Dia.Row)), Below w.heap.size w w1 → Dia.T w1 a cap ls (Dia.sinL c) → Calls Tryz.prog 21 #[.agg #[.slice a ls.length cap, .int .i64 c], .string t] w1 fun e w' => Dia.IsCE O w1 w' e) :
    Calls Tryz.prog 8 #[.int .i64 c, .string t] w fun e w' => Dia.IsCE O w w' e := by
  have HO : Aid.Hid2 (∀ w1, Below w.heap.size w w1 → Calls Tryz.prog 17 #[.int .i64 c] w1 fun e w' => Dia.IsOf c (Dia.sinL c) w1 w' e) := ⟨fun w1 hb => Tryz.c_Of c w1 (hT.below hb) hc⟩
  have HSS := Aid.Hid2.mk HS
  clear HS hT hc
  generalize Dia.sinL c = L at *
  go_enter Tryz.func8, Tryz.ntmps8
  go_wp2_with fail
  refine (HO.out _ (Aid.b1 _ _)).mono ?_
  rintro e w1 ⟨a1, c1, ls, rfl, hn1, ht1, hb1⟩
  have kF := Aid.blk_alloc (o' := .cells #[.slice a1 ls.length c1, .int .i64 c] 45) (Aid.blk hb1 (heap_alloc_new w (.cells #[.int .i64 0, .int .i64 0] 26)))
  have hB1 := Aid.bt (Aid.bt (Aid.b1 w (.cells #[.int .i64 0, .int .i64 0] 26)) hb1) (Aid.b1 w1 (.cells #[.slice a1 ls.length c1, .int .i64 c] 45))
  have hT1 := ht1.below (Aid.b1 w1 (.cells #[.slice a1 ls.length c1, .int .i64 c] 45))
  clear ht1 hb1
  go_wp2_with fail
  refine (HSS.out _ _ _ _ hB1 hT1).mono ?_
  rintro e w2 ⟨a, b, x, rfl, h1, h2, hb2⟩
  have HH := Aid.Hid2.mk (And.intro h1 h2)
  clear h1 h2
  obtain ⟨r0, r1, g0, g1⟩ := Aid.two (Aid.blk hb2 kF)
  have hB2 := Aid.bt hB1 hb2
  go_wp2
  exact bodyPost_ret (v := .tuple #[.string ⟨x.toArray⟩, .agg #[.int .i64 a, .int .i64 b]]) (by simp [results, Tryz.results8, go_sem, r0, r1]) rfl (by
    exact ⟨a, b, x, rfl, HH.out.1, HH.out.2, (hB2.setCell (Nat.le_refl _) _).setCell (Nat.le_refl _) _⟩)
set_option maxRecDepth 100000 in
set_option maxHeartbeats 2000000 in
theorem Tryz.c_cDec_two (c : Int) (t : ByteArray) (w : World) (O : Option (List UInt8)) (hc : c = 4 ∨ c = 5 ∨ c = 6)
    (HS : ∀ (w1 : World), Below w.heap.size w w1 → Calls Tryz.prog 22 #[.int .i64 c, .string t] w1 fun e w' => Dia.IsCE O w1 w' e) :
    Calls Tryz.prog 8 #[.int .i64 c, .string t] w fun e w' => Dia.IsCE O w w' e := by
  have HO : Aid.Hid2 (∀ w1, Calls Tryz.prog 17 #[.int .i64 c] w1 fun e w' => e = .returned (.tuple #[.agg #[.slice none 0 0, .int .i64 0], .bool false]) ∧ Below w1.heap.size w1 w') := ⟨fun w1 => Tryz.c_OfNone c w1 (by omega) (by omega) (by omega) (by omega)⟩
  have HSS := Aid.Hid2.mk HS
  clear HS
  rcases hc with rfl | rfl | rfl
  all_goals
    go_enter Tryz.func8, Tryz.ntmps8
    go_wp2_with fail
    refine (HO.out _).mono ?_
    rintro e w1 ⟨rfl, hb1⟩
    have kF := Aid.blk_alloc (o' := .cells #[.slice none 0 0, .int .i64 0] 45) (Aid.blk hb1 (heap_alloc_new w (.cells #[.int .i64 0, .int .i64 0] 26)))
    have hB1 := Aid.bt (Aid.bt (Aid.b1 w (.cells #[.int .i64 0, .int .i64 0] 26)) hb1) (Aid.b1 w1 (.cells #[.slice none 0 0, .int .i64 0] 45))
    clear hb1
    go_wp2_with fail
    refine (HSS.out _ hB1).mono ?_
    rintro e w2 ⟨a, b, x, rfl, h1, h2, hb2⟩
    have HH := Aid.Hid2.mk (And.intro h1 h2)
    clear h1 h2
    obtain ⟨r0, r1, g0, g1⟩ := Aid.two (Aid.blk hb2 kF)
    have hB2 := Aid.bt hB1 hb2
    go_wp2
    exact bodyPost_ret (v := .tuple #[.string ⟨x.toArray⟩, .agg #[.int .i64 a, .int .i64 b]]) (by simp [results, Tryz.results8, go_sem, r0, r1]) rfl (by
      exact ⟨a, b, x, rfl, HH.out.1, HH.out.2, (hB2.setCell (Nat.le_refl _) _).setCell (Nat.le_refl _) _⟩)
set_option maxRecDepth 100000 in
set_option maxHeartbeats 2000000 in
theorem Tryz.c_cDec_wide (c : Int) (t : ByteArray) (w : World) (O : Option (List UInt8)) (hc : c = 8 ∨ c = 9)
    (HS : ∀ (w1 : World), Below w.heap.size w w1 → Calls Tryz.prog 24 #[.string t, .bool (decide (c = 9))] w1 fun e w' => Dia.IsCE O w1 w' e) :
    Calls Tryz.prog 8 #[.int .i64 c, .string t] w fun e w' => Dia.IsCE O w w' e := by
  have HO : Aid.Hid2 (∀ w1, Calls Tryz.prog 17 #[.int .i64 c] w1 fun e w' => e = .returned (.tuple #[.agg #[.slice none 0 0, .int .i64 0], .bool false]) ∧ Below w1.heap.size w1 w') := ⟨fun w1 => Tryz.c_OfNone c w1 (by omega) (by omega) (by omega) (by omega)⟩
  have HSS := Aid.Hid2.mk HS
  clear HS
  rcases hc with rfl | rfl
  · rw [show decide ((8 : Int) = 9) = false from rfl] at HSS
    go_enter Tryz.func8, Tryz.ntmps8
    go_wp2_with fail
    refine (HO.out _).mono ?_
    rintro e w1 ⟨rfl, hb1⟩
    have kF := Aid.blk_alloc (o' := .cells #[.slice none 0 0, .int .i64 0] 45) (Aid.blk hb1 (heap_alloc_new w (.cells #[.int .i64 0, .int .i64 0] 26)))
    have hB1 := Aid.bt (Aid.bt (Aid.b1 w (.cells #[.int .i64 0, .int .i64 0] 26)) hb1) (Aid.b1 w1 (.cells #[.slice none 0 0, .int .i64 0] 45))
    clear hb1
    go_wp2_with fail
    refine (HSS.out _ hB1).mono ?_
    rintro e w2 ⟨a, b, x, rfl, h1, h2, hb2⟩
    have HH := Aid.Hid2.mk (And.intro h1 h2)
    clear h1 h2
    obtain ⟨r0, r1, g0, g1⟩ := Aid.two (Aid.blk hb2 kF)
    have hB2 := Aid.bt hB1 hb2
    go_wp2
    exact bodyPost_ret (v := .tuple #[.string ⟨x.toArray⟩, .agg #[.int .i64 a, .int .i64 b]]) (by simp [results, Tryz.results8, go_sem, r0, r1]) rfl (by
      exact ⟨a, b, x, rfl, HH.out.1, HH.out.2, (hB2.setCell (Nat.le_refl _) _).setCell (Nat.le_refl _) _⟩)
  · rw [show decide ((9 : Int) = 9) = true from rfl] at HSS
    go_enter Tryz.func8, Tryz.ntmps8
    go_wp2_with fail
    refine (HO.out _).mono ?_
    rintro e w1 ⟨rfl, hb1⟩
    have kF := Aid.blk_alloc (o' := .cells #[.slice none 0 0, .int .i64 0] 45) (Aid.blk hb1 (heap_alloc_new w (.cells #[.int .i64 0, .int .i64 0] 26)))
    have hB1 := Aid.bt (Aid.bt (Aid.b1 w (.cells #[.int .i64 0, .int .i64 0] 26)) hb1) (Aid.b1 w1 (.cells #[.slice none 0 0, .int .i64 0] 45))
    clear hb1
    go_wp2_with fail
    refine (HSS.out _ hB1).mono ?_
    rintro e w2 ⟨a, b, x, rfl, h1, h2, hb2⟩
    have HH := Aid.Hid2.mk (And.intro h1 h2)
    clear h1 h2
    obtain ⟨r0, r1, g0, g1⟩ := Aid.two (Aid.blk hb2 kF)
    have hB2 := Aid.bt hB1 hb2
    go_wp2
    exact bodyPost_ret (v := .tuple #[.string ⟨x.toArray⟩, .agg #[.int .i64 a, .int .i64 b]]) (by simp [results, Tryz.results8, go_sem, r0, r1]) rfl (by
      exact ⟨a, b, x, rfl, HH.out.1, HH.out.2, (hB2.setCell (Nat.le_refl _) _).setCell (Nat.le_refl _) _⟩)
end Go.Proofs
namespace Go.Proofs
open Go.RowKit

set_option maxRecDepth 100000 in
set_option maxHeartbeats 2000000 in
theorem Tryz.c_cDec7_ok (t : ByteArray) (ps : List Int) (w : World) (hT : Tryz.Tabs w) (hp : Dia.pts t.data.toList = (ps, -1)) (hs : t.size ≤ 10000) :
    Calls Tryz.prog 8 #[.int .i64 7, .string t] w fun e w' => e = .returned (.tuple #[.string t, .agg #[.int .i64 0, .int .i64 0]]) ∧ Below w.heap.size w w' := by
  have HO : Aid.Hid2 (∀ w1, Calls Tryz.prog 17 #[.int .i64 7] w1 fun e w' => e = .returned (.tuple #[.agg #[.slice none 0 0, .int .i64 0], .bool false]) ∧ Below w1.heap.size w1 w') := ⟨fun w1 => Tryz.c_OfNone 7 w1 (by omega) (by omega) (by omega) (by omega)⟩
  have HC : Aid.Hid2 (∀ w1, Below w.heap.size w w1 → Calls Tryz.prog 23 #[.string t] w1 fun e w' => e = .returned (.agg #[.int .i64 0, .int .i64 0]) ∧ Below w1.heap.size w1 w') := ⟨fun w1 hb => (Tryz.c_Check t w1 (by omega) (hT.below hb)).mono fun e w' ⟨a, b, h1, ⟨h2, h3⟩, h4⟩ => by
    rw [hp] at h2 h3
    exact ⟨by rw [h1, h2, h3]; rfl, h4⟩⟩
  clear hp hT
  go_enter Tryz.func8, Tryz.ntmps8
  go_wp2_with fail
  refine (HO.out _).mono ?_
  rintro e w1 ⟨rfl, hb1⟩
  have kF := Aid.blk_alloc (o' := .cells #[.slice none 0 0, .int .i64 0] 45) (Aid.blk hb1 (heap_alloc_new w (.cells #[.int .i64 0, .int .i64 0] 26)))
  have hB1 := Aid.bt (Aid.bt (Aid.b1 w (.cells #[.int .i64 0, .int .i64 0] 26)) hb1) (Aid.b1 w1 (.cells #[.slice none 0 0, .int .i64 0] 45))
  clear hb1
  go_wp2_with fail
  refine (HC.out _ hB1).mono ?_
  rintro e w2 ⟨rfl, hb2⟩
  have kF2 := Aid.blk_alloc (o' := .cells #[.int .i64 0, .int .i64 0] 26) (Aid.blk hb2 kF)
  have hB2 := Aid.bt (Aid.bt hB1 hb2) (Aid.b1 w2 (.cells #[.int .i64 0, .int .i64 0] 26))
  clear hb2 hB1 kF
  go_wp2_with fail
  refine (Tryz.c_Bad_no _ _).mono ?_
  rintro e w3 ⟨rfl, hb3⟩
  obtain ⟨r0, r1, g0, g1⟩ := Aid.two (Aid.blk hb3 kF2)
  have hB3 := Aid.bt hB2 hb3
  go_wp2
  exact bodyPost_ret (v := .tuple #[.string t, .agg #[.int .i64 0, .int .i64 0]]) (by simp [results, Tryz.results8, go_sem, r0, r1]) rfl (by
    exact ⟨rfl, (hB3.setCell (Nat.le_refl _) _).setCell (Nat.le_refl _) _⟩)
set_option maxRecDepth 100000 in
set_option maxHeartbeats 2000000 in
theorem Tryz.c_cDec7_bad (t : ByteArray) (x : Int) (w : World) (hT : Tryz.Tabs w) (hp : Dia.pts t.data.toList = ([], x)) (hx : 0 ≤ x) (hs : t.size ≤ 10000) :
    Calls Tryz.prog 8 #[.int .i64 7, .string t] w fun e w' => e = .returned (.tuple #[.string ⟨#[]⟩, .agg #[.int .i64 2, .int .i64 x]]) ∧ Below w.heap.size w w' := by
  have HO : Aid.Hid2 (∀ w1, Calls Tryz.prog 17 #[.int .i64 7] w1 fun e w' => e = .returned (.tuple #[.agg #[.slice none 0 0, .int .i64 0], .bool false]) ∧ Below w1.heap.size w1 w') := ⟨fun w1 => Tryz.c_OfNone 7 w1 (by omega) (by omega) (by omega) (by omega)⟩
  have HC : Aid.Hid2 (∀ w1, Below w.heap.size w w1 → Calls Tryz.prog 23 #[.string t] w1 fun e w' => e = .returned (.agg #[.int .i64 2, .int .i64 x]) ∧ Below w1.heap.size w1 w') := ⟨fun w1 hb => (Tryz.c_Check t w1 (by omega) (hT.below hb)).mono fun e w' ⟨a, b, h1, ⟨h2, h3⟩, h4⟩ => by
    rw [hp] at h2 h3
    exact ⟨by rw [h1, h2, h3, if_neg (by omega), if_neg (by omega)], h4⟩⟩
  clear hp hT
  go_enter Tryz.func8, Tryz.ntmps8
  go_wp2_with fail
  refine (HO.out _).mono ?_
  rintro e w1 ⟨rfl, hb1⟩
  have kF := Aid.blk_alloc (o' := .cells #[.slice none 0 0, .int .i64 0] 45) (Aid.blk hb1 (heap_alloc_new w (.cells #[.int .i64 0, .int .i64 0] 26)))
  have hB1 := Aid.bt (Aid.bt (Aid.b1 w (.cells #[.int .i64 0, .int .i64 0] 26)) hb1) (Aid.b1 w1 (.cells #[.slice none 0 0, .int .i64 0] 45))
  clear hb1
  go_wp2_with fail
  refine (HC.out _ hB1).mono ?_
  rintro e w2 ⟨rfl, hb2⟩
  have kF2 := Aid.blk_alloc (o' := .cells #[.int .i64 2, .int .i64 x] 26) (Aid.blk hb2 kF)
  have kC := heap_alloc_new w2 (.cells #[.int .i64 2, .int .i64 x] 26)
  have hB2 := Aid.bt (Aid.bt hB1 hb2) (Aid.b1 w2 (.cells #[.int .i64 2, .int .i64 x] 26))
  clear hb2 hB1 kF
  go_wp2_with fail
  refine (Tryz.c_Bad_yes _ _).mono ?_
  rintro e w3 ⟨rfl, hb3⟩
  obtain ⟨r0, r1, g0, g1⟩ := Aid.two (Aid.blk hb3 kF2)
  obtain ⟨c0, c1, f0, f1⟩ := Aid.two (Aid.blk hb3 kC)
  have hB3 := Aid.bt hB2 hb3
  go_wp2_with fail
  go_region
  go_wp2
  exact bodyPost_ret (v := .tuple #[.string ⟨#[]⟩, .agg #[.int .i64 2, .int .i64 x]]) (by simp [results, Tryz.results8, go_sem, r0, r1]) rfl (by
    exact ⟨rfl, ((hB3.setCell (Nat.le_refl _) _).setCell (Nat.le_refl _) _).drew⟩)
set_option maxRecDepth 100000 in
set_option maxHeartbeats 1000000 in
theorem Tryz.c_cwr_bad (c x : Int) (s : ByteArray) (w : World) (hps : Dia.pts s.data.toList = ([], x)) (hx : 0 ≤ x) (hT : Tryz.Tabs w) (hs : s.size ≤ 100000) :
    Calls Tryz.prog 19 #[.int .i64 c, .string s] w fun e w' => e = .returned (.tuple #[.string ⟨#[]⟩, .agg #[.int .i64 2, .int .i64 x]]) ∧ Below w.heap.size w w' := by
  have HP : Aid.Hid2 (∀ w1, Below w.heap.size w w1 → Calls Tryz.prog 31 #[.string s] w1 fun e w' => ∃ (aa : Option Addr) (ca : Nat), e = .returned (.tuple #[.slice aa 0 ca, .agg #[.int .i64 2, .int .i64 x]]) ∧ Below w1.heap.size w1 w') :=
    ⟨fun w1 hb => (Tryz.c_Points s w1 (by omega) (hT.below hb)).mono fun e w' h => by
      unfold Dia.IsPoints at h
      rw [hps] at h
      obtain ⟨aa, ca, y, z, h1, h2, h3, h5⟩ := h
      unfold Dia.IsFault at h3
      obtain ⟨h3, h4⟩ := h3
      exact ⟨aa, ca, by rw [h1, h3, h4, if_neg (by omega), if_neg (by omega)]; rfl, h5⟩⟩
  clear hps hT
  go_enter Tryz.func19, Tryz.ntmps19
  go_wp2_with (first
    | (go_at_call 31; refine (HP.out _ (Aid.b1 _ _)).mono ?_; rintro e w1 ⟨aa, ca, rfl, hb1⟩)
    | (go_at_call 7; refine (Tryz.c_Bad_yes _ _).mono ?_; rintro e w2 ⟨rfl, hb2⟩))
  have kB := Aid.blk hb2 (Aid.blk_alloc (o' := .cells #[.int .i64 2, .int .i64 x] 26) (Aid.blk hb1 (heap_alloc_new w (.cells #[.int .i64 0, .int .i64 0] 26))))
  have kC := Aid.blk hb2 (heap_alloc_new w1 (.cells #[.int .i64 2, .int .i64 x] 26))
  have hB2 : Below w.heap.size w w2 := Aid.bt (Aid.bt (Aid.b1 _ _) hb1) (Aid.bt (Aid.b1 w1 _) hb2)
  clear hb1 hb2 HP
  obtain ⟨c0, c1, f0, f1⟩ := Aid.two kC
  obtain ⟨d0, d1, g0, g1⟩ := Aid.two kB
  go_region
  go_wp2
  exact bodyPost_ret (v := .tuple #[.string ⟨#[]⟩, .agg #[.int .i64 2, .int .i64 x]]) (by simp [results, Tryz.results19, go_sem, d0, d1]) rfl
    (by
      exact ⟨rfl, ((hB2.setCell (Nat.le_refl _) _).setCell (Nat.le_refl _) _).drew⟩)
theorem Dia.k_encO_cases (B : Int → Int) (ps : List Int) : (∃ m : Nat, Dia.encO B ps = ([], (m : Int))) ∨ ∃ R, Dia.encO B ps = (R, -1) := by
  unfold Dia.encO
  split
  · exact .inr ⟨_, rfl⟩
  · exact .inl ⟨_, rfl⟩
theorem Dia.str_of (t : ByteArray) : t = ⟨t.data.toList.toArray⟩ := by rfl
theorem Dia.cEnc_bad {c : Int} {t : List UInt8} (h : 0 ≤ (Dia.pts t).2) : Dia.cEnc c t = none := by unfold Dia.cEnc; rw [if_pos h]
/-- Encode, whatever the charset -/
theorem Tryz.c_cEncode (c : Int) (t : ByteArray) (w : World) (hT : Tryz.Tabs w) (hc : 0 ≤ c ∧ c ≤ 9) (hs : t.size ≤ 1000) :
    Calls Tryz.prog 6 #[.int .i64 c, .string t] w fun e w' => Dia.IsCE (Dia.cEnc c t.data.toList) w w' e := by
  rcases Dia.pts_cases t.data.toList with ⟨ps, p1, p2, hp⟩ | ⟨ps, r, p1, p2, p3, p4, hp⟩
  · have hn : ¬ 0 ≤ (Dia.pts t.data.toList).2 := by rw [hp]; show ¬ (0 : Int) ≤ -1; omega
    have hE : Dia.cEnc c t.data.toList = if c ≤ 3 then (if (Dia.encO (Dia.sinB c) ps).2 < 0 then some (Dia.encO (Dia.sinB c) ps).1 else none)
        else if c ≤ 6 then (Dia.wrt c ps.length ps).map fun us => (us.map Prod.fst).flatten
        else if c = 7 then some t.data.toList
        else some (Dia.wens (decide (c = 9)) ps) := by
      unfold Dia.cEnc
      rw [if_neg hn, hp]
    rw [hE]
    by_cases h1 : c ≤ 3
    · rw [if_pos h1]
      refine Tryz.c_cEnc_set c t w _ hT ⟨hc.1, h1⟩ fun w1 a cap ls hb ht => ?_
      refine (Tryz.c_sEncC c t ps w1 ⟨hc.1, h1⟩ hp ht (hT.below hb) (by omega)).mono fun e w' h => ?_
      unfold Dia.IsEnc at h
      by_cases h2 : (Dia.encO (Dia.sinB c) ps).2 < 0
      · rw [if_pos h2] at h ⊢
        rw [if_pos h2] at h
        exact Dia.ce_ok rfl h.1 h.2
      · rw [if_neg h2] at h ⊢
        rw [if_neg h2] at h
        have hb2 : (Dia.encO (Dia.sinB c) ps).1 = [] := by
          rcases Dia.k_encO_cases (Dia.sinB c) ps with ⟨m, hm⟩ | ⟨R, hR⟩
          · rw [hm]
          · rw [hR] at h2; exact absurd (show (-1 : Int) < 0 by omega) h2
        rw [hb2] at h
        exact Dia.ce_bad rfl (by decide) h.1 h.2
    · rw [if_neg h1]
      by_cases h2 : c ≤ 6
      · rw [if_pos h2]
        have h456 : c = 4 ∨ c = 5 ∨ c = 6 := by omega
        refine Tryz.c_cEnc_two c t w _ h456 fun w1 hb => ?_
        refine (Tryz.c_cwritten c t ps w1 h456 hp (hT.below hb) (by omega)).mono fun e w' ⟨a, b, x, g1, g2, g3, g4⟩ => ?_
        cases hw : Dia.wrt c ps.length ps with
        | none =>
          obtain ⟨rfl, rfl⟩ := g3 hw
          exact Dia.ce_bad rfl (by decide) g1 g4
        | some us =>
          obtain ⟨rfl, rfl, rfl⟩ := g2 us hw
          exact Dia.ce_ok rfl g1 g4
      · rw [if_neg h2]
        by_cases h3 : c = 7
        · subst h3
          rw [if_pos rfl]
          refine Tryz.c_cEnc_utf t w _ fun w1 hb => ?_
          exact (Tryz.c_cDec7_ok t ps w1 (hT.below hb) hp (by omega)).mono fun e w' ⟨g1, g2⟩ => Dia.ce_ok rfl g1 g2
        · rw [if_neg h3]
          refine Tryz.c_cEnc_wide c t w _ (by omega) fun w1 hb => ?_
          refine (Tryz.c_Encode t (decide (c = 9)) w1 (by omega) (hT.below hb)).mono fun e w' h => ?_
          unfold Dia.IsEncode at h
          rw [hp] at h
          obtain ⟨a, b, g1, ⟨g2, g3⟩, g4⟩ := h
          rw [g2, g3] at g1
          exact Dia.ce_ok rfl g1 g4
  · have hx : 0 ≤ (Dia.pts t.data.toList).2 := by rw [hp]; show (0 : Int) ≤ ((Dia.encs ps).length : Int); omega
    rw [Dia.cEnc_bad hx]
    by_cases h1 : c ≤ 3
    · refine Tryz.c_cEnc_set c t w _ hT ⟨hc.1, h1⟩ fun w1 a cap ls hb ht => ?_
      exact (Tryz.c_sEnc_bad c _ t w1 hp (by omega) (hT.below hb) (by omega)).mono fun e w' ⟨g1, g2⟩ => Dia.ce_bad rfl (by decide) g1 g2
    · by_cases h2 : c ≤ 6
      · refine Tryz.c_cEnc_two c t w _ (by omega) fun w1 hb => ?_
        exact (Tryz.c_cwr_bad c _ t w1 hp (by omega) (hT.below hb) (by omega)).mono fun e w' ⟨g1, g2⟩ => Dia.ce_bad rfl (by decide) g1 g2
      · by_cases h3 : c = 7
        · subst h3
          refine Tryz.c_cEnc_utf t w _ fun w1 hb => ?_
          exact (Tryz.c_cDec7_bad t _ w1 (hT.below hb) hp (by omega) (by omega)).mono fun e w' ⟨g1, g2⟩ => Dia.ce_bad rfl (by decide) g1 g2
        · refine Tryz.c_cEnc_wide c t w _ (by omega) fun w1 hb => ?_
          refine (Tryz.c_Encode t (decide (c = 9)) w1 (by omega) (hT.below hb)).mono fun e w' h => ?_
          unfold Dia.IsEncode at h
          rw [hp] at h
          obtain ⟨a, b, g1, ⟨g2, g3⟩, g4⟩ := h
          rw [g2, g3, if_neg (by omega), if_neg (by omega)] at g1
          exact Dia.ce_bad rfl (by decide) g1 g4
/-- Decode of what was written -/
theorem Tryz.c_cDecode (c : Int) (t : ByteArray) (x : List UInt8) (w : World) (hT : Tryz.Tabs w) (hT2 : Tryz.Tab32 w) (hc : 0 ≤ c ∧ c ≤ 9) (hs : t.size ≤ 1000) (hx : Dia.cEnc c t.data.toList = some x) :
    Calls Tryz.prog 8 #[.int .i64 c, .string ⟨x.toArray⟩] w fun e w' => Dia.IsCE (some t.data.toList) w w' e := by
  rcases Dia.pts_cases t.data.toList with ⟨ps, p1, p2, hp⟩ | ⟨ps, r, p1, p2, p3, p4, hp⟩
  · have hn : ¬ 0 ≤ (Dia.pts t.data.toList).2 := by rw [hp]; show ¬ (0 : Int) ≤ -1; omega
    have hpl : ps.length ≤ t.size := by
      have h1 := Dia.pts_len t.data.toList
      rw [hp] at h1
      exact h1
    unfold Dia.cEnc at hx
    rw [if_neg hn, hp] at hx
    simp only at hx
    by_cases h1 : c ≤ 3
    · rw [if_pos h1] at hx
      by_cases h2 : (Dia.encO (Dia.sinB c) ps).2 < 0
      · rw [if_pos h2] at hx
        cases hx
        have he : Dia.encO (Dia.sinB c) ps = ((Dia.encO (Dia.sinB c) ps).1, -1) := by
          rcases Dia.k_encO_cases (Dia.sinB c) ps with ⟨m, hm⟩ | ⟨R, hR⟩
          · rw [hm] at h2; exact absurd h2 (show ¬ (m : Int) < 0 by omega)
          · rw [hR]
        have hl := Dia.encO_len (Dia.sinB c) ps
        have hf := Dia.sin_forth ⟨hc.1, h1⟩ he
        refine Tryz.c_cDec_set c _ w _ hT ⟨hc.1, h1⟩ fun w1 a cap ls hb ht => ?_
        refine (Tryz.c_sDecC c _ w1 ⟨hc.1, h1⟩ ht (by simp only [ByteArray.size, List.size_toArray]; omega)).mono fun e w' ⟨g1, g2⟩ => ?_
        rw [show (⟨(Dia.encO (Dia.sinB c) ps).1.toArray⟩ : ByteArray).data.toList = (Dia.encO (Dia.sinB c) ps).1 from rfl, hf, ← p2] at g1
        exact Dia.ce_ok rfl g1 g2
      · rw [if_neg h2] at hx; cases hx
    · rw [if_neg h1] at hx
      by_cases h2 : c ≤ 6
      · rw [if_pos h2] at hx
        have h456 : c = 4 ∨ c = 5 ∨ c = 6 := by omega
        obtain ⟨us, hw, rfl⟩ := Option.map_eq_some_iff.1 hx
        obtain ⟨q1, q2, q3⟩ := Dia.wrt_ok h456 _ _ _ p1 hw
        have hl2 := Dia.flat_len2 us (fun u hu => (Dia.uOk_len (q1 u hu)).2)
        have hel := Dia.encs_le ps
        refine Tryz.c_cDec_two c _ w _ h456 fun w1 hb => ?_
        refine (Tryz.c_cdoubles c us _ w1 (hT.below hb) (hT2.below hb) q1 rfl (by simp only [ByteArray.size, List.size_toArray]; omega) (by rw [q2]; omega)).mono fun e w' ⟨g1, g2⟩ => ?_
        rw [q2, ← p2] at g1
        exact Dia.ce_ok rfl g1 g2
      · rw [if_neg h2] at hx
        by_cases h3 : c = 7
        · subst h3
          rw [if_pos rfl] at hx
          cases hx
          exact (Tryz.c_cDec7_ok t ps w hT hp (by omega)).mono fun e w' ⟨g1, g2⟩ => Dia.ce_ok rfl g1 g2
        · rw [if_neg h3] at hx
          cases hx
          have hwl := Dia.wens_len (decide (c = 9)) ps
          refine Tryz.c_cDec_wide c _ w _ (by omega) fun w1 hb => ?_
          refine (Tryz.c_Decode _ (decide (c = 9)) w1 (by simp only [ByteArray.size, List.size_toArray]; omega)).mono fun e w' h => ?_
          unfold Dia.IsDecode at h
          have hw : Dia.wpts (decide (c = 9)) (⟨(Dia.wens (decide (c = 9)) ps).toArray⟩ : ByteArray).data.toList = (ps, -1) := (Dia.wcoded (decide (c = 9))).ok ps p1
          rw [hw] at h
          obtain ⟨a, b, g1, ⟨g2, g3⟩, g4⟩ := h
          rw [g2, g3, ← p2] at g1
          exact Dia.ce_ok rfl g1 g4
  · exfalso
    have h0 : 0 ≤ (Dia.pts t.data.toList).2 := by rw [hp]; show (0 : Int) ≤ ((Dia.encs ps).length : Int); omega
    rw [Dia.cEnc_bad h0] at hx
    cases hx
end Go.Proofs
