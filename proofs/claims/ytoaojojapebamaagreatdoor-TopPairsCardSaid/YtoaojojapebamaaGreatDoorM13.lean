/- walks of run: New -/
import Derived.Test.YtoaojojapebamaaGreatDoorM12
import Derived.Deep.Heap
namespace Go.Proofs
open Go.RowKit

theorem Aid.blkB {B : Nat} {W w1 : World} {k : Nat} {o : Obj} (hb : Below B W w1) (hk : W.heap[k]? = some o) (hl : k < B) : w1.heap[k]? = some o := by
  rw [hb.block k hl, hk]
theorem Aid.one {w : World} {k : Nat} {a : Value} {T : TypeId} (h : w.heap[k]? = some (.cells #[a] T (0, 0))) : w.cell? ⟨k, 0, none⟩ = some a ∧ w.frozen? ⟨k, 0, none⟩ = false := by
  refine ⟨?_, ?_⟩ <;> simp [World.cell?, World.frozen?, h]
theorem Aid.two {w : World} {k : Nat} {a b : Value} {T : TypeId} (h : w.heap[k]? = some (.cells #[a, b] T (0, 0))) :
    w.cell? ⟨k, 0, none⟩ = some a ∧ w.cell? ⟨k, 1, none⟩ = some b ∧ w.frozen? ⟨k, 0, none⟩ = false ∧ w.frozen? ⟨k, 1, none⟩ = false := by
  refine ⟨?_, ?_, ?_, ?_⟩ <;> simp [World.cell?, World.frozen?, h]
theorem Aid.heap2 (w : World) (o1 o2 : Obj) : ((w.alloc o1).alloc o2).heap[w.heap.size]? = some o1 ∧ ((w.alloc o1).alloc o2).heap[w.heap.size + 1]? = some o2 := by
  have h2 := heap_alloc_new (w.alloc o1) o2
  simp only [World.size_alloc] at h2
  exact ⟨Aid.blk_alloc (heap_alloc_new w o1), h2⟩
theorem Aid.b2 (w : World) (o1 o2 : Obj) : Below w.heap.size w ((w.alloc o1).alloc o2) := ((Below.refl _ _).alloc (Nat.le_refl _) _).alloc (by simp) _
theorem Aid.b1 (w : World) (o1 : Obj) : Below w.heap.size w (w.alloc o1) := (Below.refl _ _).alloc (Nat.le_refl _) _
theorem Aid.b2w {w wr : World} {o1 o2 : Obj} (hb : Below (w.heap.size + 2) ((w.alloc o1).alloc o2) wr) : Below w.heap.size w wr ∧ w.heap.size + 2 ≤ wr.heap.size := by
  refine ⟨(Aid.b2 w o1 o2).trans (hb.mono (by omega)), ?_⟩
  have := hb.size
  simp at this; omega

theorem Tryz.Xs.set {w : World} {B k j : Nat} {T : TypeId} {v u : Value} {X : List Dia.XRow} (h : Tryz.Xs w B v X) (hk : Aid.Tag w k T) (h1 : T ≠ 96) (h2 : T ≠ 21) : Tryz.Xs (w.setCell ⟨k, j, none⟩ u) B v X :=
  ⟨Aid.own_set h.1 hk h1, fun x hx => Aid.own_set (h.2 x hx) hk h2⟩
def Tryz.IsNew (o : List Dia.Row × Int) (w w' : World) (e : Ending) : Prop :=
  ∃ (a : Option Addr) (cap : Nat) (A B : Int), e = .returned (.tuple #[Dia.tabv a (Dia.lv o).length cap, .agg #[.int .i64 A, .int .i64 B]]) ∧ (Dia.lv o).length ≤ cap ∧ (a = none → cap = 0) ∧ Dia.LevelsAt w' a (Dia.lv o) ∧
    (o.2 < 0 → A = 0 ∧ B = 0) ∧ (0 ≤ o.2 → A = 5 ∧ B = o.2) ∧ Below w.heap.size w w'
theorem Tryz.isNew_bad {o : List Dia.Row × Int} {k : Nat} (h : o = ([], (k : Int))) {w w' : World} (hb : Below w.heap.size w w') :
    Tryz.IsNew o w w' (.returned (.tuple #[.agg #[.slice none 0 0], .agg #[.int .i64 5, .int .i64 k]])) := by
  subst h
  have e : Dia.lv ([], (k : Int)) = [] := by unfold Dia.lv; rw [if_neg (by simp only; omega)]
  exact ⟨none, 0, 5, k, by rw [e]; rfl, by rw [e]; exact Nat.le_refl _, fun _ => rfl, by rw [e]; exact .inl rfl, fun h => by simp only at h; omega, fun _ => ⟨rfl, rfl⟩, hb⟩

set_option maxRecDepth 100000 in
set_option maxHeartbeats 2000000 in
theorem Tryz.c_New (a : Option Addr) (ps : List Dia.Piece) (cap : Nat) (w : World) (hps : Dia.PiecesAt w a ps) (hin : ∀ p ∈ ps, p.In) (hn : ps.length ≤ 1000000) (hT : Tryz.Tabs w) :
    Calls Tryz.prog 67 #[.slice a ps.length cap] w fun e w' => Tryz.IsNew (Dia.newL [] 0 ps) w w' e := by
  obtain ⟨i0, hi, hz0, hz1, hz2⟩ := info_parts (show (Tryz.prog.info? 96).map (fun i => (i.zero, i.size, i.bytes)) = some (some (.agg #[.int .i64 0, .int .i32 0, .int .i64 0, .slice none 0 0]), 4, 48) by kernel_rfl)
  go_enter Tryz.func67, Tryz.ntmps67
  go_wp2
  go_loopw [4, 5, 6, 7, 8, 10, 13] (fun v _ _ _ _ _ i wr => ∃ (k : Nat) (X : List Dia.XRow), k ≤ ps.length ∧ i = .int .i64 k ∧ Tryz.Xs wr (w.heap.size + 2) v X ∧ X.length ≤ k ∧
      Dia.newL [] 0 ps = Dia.newL (X.map (·.row)) k (ps.drop k) ∧ (∀ x ∈ X, x.row.Ok) ∧
      Below (w.heap.size + 2) ((w.alloc (.cells #[.slice none 0 0] 43)).alloc (.cells #[.int .i64 0, .int .i64 0] 26)) wr)
    (fun _ _ _ _ _ _ i _ => ps.length - (intOf i).toNat)
  case atStart => exact ⟨0, [], Nat.zero_le _, rfl, ⟨World.ownsRow_nil _ _ _ _, by simp⟩, Nat.le_refl _, rfl, by simp, Below.refl _ _⟩
  case round =>
    obtain ⟨k, X, hk, rfl, hX, hXk, hnew, hok, hb⟩ := hrel
    obtain ⟨wo, rfl⟩ : ∃ wo : World, wo = wr := ⟨_, rfl⟩
    obtain ⟨hbw, hs0⟩ := Aid.b2w hb
    have HNEW := Aid.Hid2.mk hnew
    clear hnew
    have HOK := Aid.Hid2.mk hok
    clear hok
    by_cases hlt : k < ps.length
    · obtain ⟨b, off, rfl, q0, q1, q2, q3⟩ := (hps.below hbw).get hlt
      have hinp := hin ps[k] (List.getElem_mem _)
      have HD := Aid.Hid2.mk (List.drop_eq_getElem_cons hlt)
      obtain ⟨va, vcap, rfl, hvc, hXat⟩ := hX.at
      cases ho : Dia.right ps[k] with
      | none =>
        have HR : Aid.Hid2 (∀ w, Tryz.Tabs w → Calls Tryz.prog 99 #[.agg #[.int .i64 ps[k].from', .int .i32 ps[k].to, .int .i64 ps[k].count, .string ⟨ps[k].text.toArray⟩]] w fun e w' => Tryz.IsRight none w w' e) := ⟨fun w hT => by have h := Tryz.c_right ps[k] w hinp hT; rw [ho] at h; exact h⟩
        have HN : Aid.Hid2 (Dia.newL [] 0 ps = ([], (k : Int))) := ⟨by
          rw [HNEW.out, HD.out]
          unfold Dia.newL
          rw [ho]⟩
        clear ho HD hinp
        generalize ps[k] = p at *
        obtain ⟨pf, pt, pc, ptx⟩ := p
        simp only at q0 q1 q2 q3 HR
        go_wp2_with (first
          | (go_at_call 99; refine (HR.out _ (hT.below (Aid.bt hbw (Aid.b1 _ _)))).mono ?_; rintro e w1 ⟨f, t, c, al, n, cl, rfl, hsome, hb1⟩))
        clear hsome
        have hbW : Below wo.heap.size wo w1 := (Aid.b1 _ _).trans (hb1.mono (by simp))
        go_loopw [8, 10, 25] (fun okv _ jv wr2 => ∃ j : Nat, j ≤ X.length ∧ jv = .int .i64 j ∧ okv = .bool false ∧ Below (w1.heap.size + 1) (w1.alloc (.cells #[.int .i64 f, .int .i32 t, .int .i64 c, .slice al n cl] 96)) wr2)
          (fun _ _ jv _ => X.length - (intOf jv).toNat)
        case atStart => exact ⟨0, Nat.zero_le _, rfl, rfl, Below.refl _ _⟩
        case round =>
          obtain ⟨j, hj, rfl, rfl, hb2⟩ := hrel
          have hb2' : Below w1.heap.size w1 wr := Aid.below_new hb2 (Nat.le_refl _)
          by_cases hlj : j < X.length
          · obtain ⟨xb, xoff, rfl, x0, x1, x2, x3⟩ := (hXat.below (Aid.bt hbW hb2')).get hlj
            generalize X[j] = x at *
            obtain ⟨⟨xf, xt, xc, xl⟩, xal, xcl⟩ := x
            simp only at x0 x1 x2 x3
            go_wp2
            go_roundw
            case rel => exact ⟨j + 1, by omega, by go_num, rfl, hb2.alloc (by have := hb2.size; simp at this; omega) _⟩
            case measure => simp [intOf]; omega
          · have hbA : Below (w.heap.size + 2) ((w.alloc (.cells #[.slice none 0 0] 43)).alloc (.cells #[.int .i64 0, .int .i64 0] 26)) wr := hb.trans ((Aid.bt hbW hb2').mono hs0)
            have k2 := Aid.blkB hbA (Aid.heap2 _ _ _).1 (by omega)
            have k3 := Aid.blkB hbA (Aid.heap2 _ _ _).2 (by omega)
            obtain ⟨p0, p0f⟩ := Aid.one k2
            obtain ⟨p1, p2, p1f, p2f⟩ := Aid.two k3
            go_wp2
            exact bodyPost_ret (v := .tuple #[.agg #[.slice none 0 0], .agg #[.int .i64 5, .int .i64 k]]) (by simp [results, Tryz.results67, go_sem, p0, p1, p2]) rfl
              (Tryz.isNew_bad HN.out ((((Aid.b2w hbA).1.setCell (Nat.le_refl _) _).setCell (by show w.heap.size ≤ w.heap.size + 1; omega) _).setCell (by show w.heap.size ≤ w.heap.size + 1; omega) _))
      | some r =>
        have HR : Aid.Hid2 (∀ w, Tryz.Tabs w → Calls Tryz.prog 99 #[.agg #[.int .i64 ps[k].from', .int .i32 ps[k].to, .int .i64 ps[k].count, .string ⟨ps[k].text.toArray⟩]] w fun e w' => Tryz.IsRight (some r) w w' e) := ⟨fun w hT => by have h := Tryz.c_right ps[k] w hinp hT; rw [ho] at h; exact h⟩
        have hRok := (Dia.right_some ho).1
        obtain ⟨ro1, ro2, ro3, ro4, ro5, ro6⟩ := hRok
        have HRok := Aid.Hid2.mk (Dia.right_some ho).1
        have HN : Aid.Hid2 (X.all (fun x => r.apart x.row) = false → Dia.newL [] 0 ps = ([], (k : Int))) := ⟨fun h => by
          rw [HNEW.out, HD.out]
          unfold Dia.newL
          rw [ho]
          simp only
          rw [List.all_map]
          rw [if_neg (by rw [show (X.all ((fun x => r.apart x) ∘ fun x => x.row)) = X.all (fun x => r.apart x.row) from rfl, h]; decide)]⟩
        have HY : Aid.Hid2 (X.all (fun x => r.apart x.row) = true → Dia.newL [] 0 ps = Dia.newL (X.map (·.row) ++ [r]) ((k : Int) + 1) (ps.drop (k + 1))) := ⟨fun h => by
          rw [HNEW.out, HD.out]
          conv => lhs; unfold Dia.newL
          rw [ho]
          simp only
          rw [List.all_map]
          rw [if_pos (show (X.all ((fun x => r.apart x) ∘ fun x => x.row)) = true from h)]⟩
        clear ho HD hinp
        generalize ps[k] = p at *
        obtain ⟨pf, pt, pc, ptx⟩ := p
        simp only at q0 q1 q2 q3 HR
        go_wp2_with (first
          | (go_at_call 99; refine (HR.out _ (hT.below (Aid.bt hbw (Aid.b1 _ _)))).mono ?_; rintro e w1 ⟨f, t, c, al, n, cl, rfl, hsome, hb1⟩))
        obtain ⟨rfl, rfl, rfl, rfl, hlist⟩ := hsome r rfl
        clear hsome
        have hbW : Below wo.heap.size wo w1 := (Aid.b1 _ _).trans (hb1.mono (by simp))
        obtain ⟨f, t, c, L⟩ := r
        simp only at *
        go_loopw [8, 10, 25] (fun okv _ jv wr2 => ∃ j : Nat, j ≤ X.length ∧ jv = .int .i64 j ∧ okv = .bool ((X.take j).all (fun x => Dia.Row.apart ⟨f, t, c, L⟩ x.row)) ∧ Below (w1.heap.size + 1) (w1.alloc (.cells #[.int .i64 f, .int .i32 t, .int .i64 c, .slice al L.length cl] 96)) wr2)
          (fun _ _ jv _ => X.length - (intOf jv).toNat)
        case atStart => exact ⟨0, Nat.zero_le _, rfl, rfl, Below.refl _ _⟩
        case round =>
          obtain ⟨j, hj, rfl, rfl, hb2⟩ := hrel
          have hb2' : Below w1.heap.size w1 wr := Aid.below_new hb2 (Nat.le_refl _)
          have k7 := Aid.blkB hb2 (heap_alloc_new w1 _) (by omega)
          obtain ⟨z0, z1, z2, z3, _, _, _, _⟩ := Aid.four k7
          by_cases hlj : j < X.length
          · obtain ⟨xb, xoff, rfl, x0, x1, x2, x3⟩ := (hXat.below (Aid.bt hbW hb2')).get hlj
            have hxo := HOK.out X[j] (List.getElem_mem _)
            have HT : Aid.Hid2 ((X.take (j + 1)).all (fun x => Dia.Row.apart ⟨f, t, c, L⟩ x.row) = ((X.take j).all (fun x => Dia.Row.apart ⟨f, t, c, L⟩ x.row) && Dia.Row.apart ⟨f, t, c, L⟩ X[j].row)) := ⟨by
              rw [Dia.take_snoc X j hlj, List.all_append]; simp only [List.all_cons, List.all_nil, Bool.and_true]⟩
            generalize X[j] = x at *
            obtain ⟨⟨xf, xt, xc, xl⟩, xal, xcl⟩ := x
            simp only at x0 x1 x2 x3
            obtain ⟨xo1, xo2, xo3, _, _, _⟩ := hxo
            simp only at xo1 xo2 xo3
            have k7' := Aid.blk_alloc (o' := .cells #[.int .i64 xf, .int .i32 xt, .int .i64 xc, .slice xal xl.length xcl] 96) k7
            obtain ⟨y0, y1, y2, y3, _, _, _, _⟩ := Aid.four k7'
            clear k7' k7 z0 z1 z2 z3
            cases hq : (X.take j).all (fun x => Dia.Row.apart ⟨f, t, c, L⟩ x.row) with
            | false =>
              rw [hq, Bool.false_and] at HT
              clear hq
              go_wp2
              go_roundw
              case rel => exact ⟨j + 1, by omega, by go_num, by rw [HT.out], hb2.alloc (by have := hb2.size; simp at this; omega) _⟩
              case measure => simp [intOf]; omega
            | true =>
              rw [hq, Bool.true_and] at HT
              clear hq
              have hxx : xf + xc ≤ 1048576 := xo2
              have hrr : f + c ≤ 1048576 := ro2
              have HT' : Aid.Hid2 ((X.take (j + 1)).all (fun x => Dia.Row.apart ⟨f, t, c, L⟩ x.row) = (decide (xf + xc ≤ f) || decide (f + c ≤ xf))) := ⟨HT.out⟩
              clear HT
              by_cases h1 : xf + xc ≤ f
              · have HT2 : Aid.Hid2 ((X.take (j + 1)).all (fun x => Dia.Row.apart ⟨f, t, c, L⟩ x.row) = true) := ⟨by rw [HT'.out, decide_eq_true h1]; rfl⟩
                go_wp2
                go_roundw
                case rel => exact ⟨j + 1, by omega, by go_num, by rw [HT2.out], hb2.alloc (by have := hb2.size; simp at this; omega) _⟩
                case measure => simp [intOf]; omega
              · by_cases h2 : f + c ≤ xf
                · have HT2 : Aid.Hid2 ((X.take (j + 1)).all (fun x => Dia.Row.apart ⟨f, t, c, L⟩ x.row) = true) := ⟨by rw [HT'.out, decide_eq_true h2, Bool.or_true]⟩
                  go_wp2
                  go_roundw
                  case rel => exact ⟨j + 1, by omega, by go_num, by rw [HT2.out], hb2.alloc (by have := hb2.size; simp at this; omega) _⟩
                  case measure => simp [intOf]; omega
                · have HT2 : Aid.Hid2 ((X.take (j + 1)).all (fun x => Dia.Row.apart ⟨f, t, c, L⟩ x.row) = false) := ⟨by rw [HT'.out, decide_eq_false h1, decide_eq_false h2]; rfl⟩
                  go_wp2
                  go_roundw
                  case rel => exact ⟨j + 1, by omega, by go_num, by rw [HT2.out], hb2.alloc (by have := hb2.size; simp at this; omega) _⟩
                  case measure => simp [intOf]; omega
          · have hbA : Below (w.heap.size + 2) ((w.alloc (.cells #[.slice none 0 0] 43)).alloc (.cells #[.int .i64 0, .int .i64 0] 26)) wr := hb.trans ((Aid.bt hbW hb2').mono hs0)
            have e : X.take j = X := List.take_of_length_le (by omega)
            rw [e]
            cases hq : X.all (fun x => Dia.Row.apart ⟨f, t, c, L⟩ x.row) with
            | false =>
              have HN2 := Aid.Hid2.mk (HN.out hq)
              clear hq e
              have k2 := Aid.blkB hbA (Aid.heap2 _ _ _).1 (by omega)
              have k3 := Aid.blkB hbA (Aid.heap2 _ _ _).2 (by omega)
              obtain ⟨p0, p0f⟩ := Aid.one k2
              obtain ⟨p1, p2, p1f, p2f⟩ := Aid.two k3
              go_wp2
              exact bodyPost_ret (v := .tuple #[.agg #[.slice none 0 0], .agg #[.int .i64 5, .int .i64 k]]) (by simp [results, Tryz.results67, go_sem, p0, p1, p2]) rfl
                (Tryz.isNew_bad HN2.out ((((Aid.b2w hbA).1.setCell (Nat.le_refl _) _).setCell (by show w.heap.size ≤ w.heap.size + 1; omega) _).setCell (by show w.heap.size ≤ w.heap.size + 1; omega) _))
            | true =>
              have HY2 := Aid.Hid2.mk (HY.out hq)
              clear hq e
              have hXw := hX.below (Aid.bt hbW hb2')
              have hlw := Aid.ownsRow_below hlist hb2'
              have hBr : w.heap.size + 2 ≤ wr.heap.size := (Aid.b2w hbA).2
              go_wp2_with (at_builtin; refine Aid.wpList_app1 (w0 := (w.alloc (.cells #[.slice none 0 0] 43)).alloc (.cells #[.int .i64 0, .int .i64 0] 26)) _ rfl _ _ 94 96 4 48 rfl Tryz.underlying94 i0 _ hi hz0 hz1 hz2 rfl (by decide) (w.heap.size + 2) _ _ _ #[.int .i64 f, .int .i32 t, .int .i64 c, .slice al L.length cl] _ rfl _ rfl hXw.1 hbA hBr rfl rfl ?_ ?_ ?_ ?_)
              · simp [Value.oneCell']
              · omega
              · omega
              · intro v' w2 hown2 hb3 hsz2 hg2
                have hX2 := Tryz.Xs.app (x := ⟨⟨f, t, c, L⟩, al, cl⟩) hXw hlw hown2 hg2
                have HOK2 : Aid.Hid2 (∀ x ∈ X ++ [⟨⟨f, t, c, L⟩, al, cl⟩], Dia.Row.Ok (Dia.XRow.row x)) := ⟨by
                  intro x hx
                  rcases List.mem_append.1 hx with hx | hx
                  · exact HOK.out x hx
                  · rw [List.mem_singleton.1 hx]; exact HRok.out⟩
                go_wp2
                go_roundw
                case rel => exact ⟨k + 1, X ++ [⟨⟨f, t, c, L⟩, al, cl⟩], by omega, by go_num, hX2, by simp; omega, by rw [HY2.out]; simp, HOK2.out, hb3⟩
                case measure => simp [intOf]; omega
    · have e : ps.drop k = [] := List.drop_eq_nil_of_le (by omega)
      have HE : Aid.Hid2 (Dia.newL [] 0 ps = (X.map (·.row), -1)) := ⟨by rw [HNEW.out, e]; rfl⟩
      clear e
      obtain ⟨va, vcap, rfl, hvc, hXat⟩ := hX.at
      have k2 := Aid.blk_alloc (o' := .cells #[.slice va X.length vcap] 94) (Aid.blkB hb (Aid.heap2 _ _ _).1 (by omega))
      have k3 := Aid.blk_alloc (o' := .cells #[.slice va X.length vcap] 94) (Aid.blkB hb (Aid.heap2 _ _ _).2 (by omega))
      obtain ⟨p0, p0f⟩ := Aid.one k2
      obtain ⟨p1, p2, p1f, p2f⟩ := Aid.two k3
      go_wp2
      exact bodyPost_ret (v := .tuple #[.agg #[.slice (some ⟨wo.heap.size, 0, none⟩) 1 1], .agg #[.int .i64 0, .int .i64 0]]) (by simp [results, Tryz.results67, go_sem, p0, p1, p2]) rfl (by
        have hbb : Below w.heap.size w ((((wo.alloc (.cells #[.slice va X.length vcap] 94)).setCell ⟨w.heap.size, 0, none⟩ (.slice (some ⟨wo.heap.size, 0, none⟩) 1 1)).setCell ⟨w.heap.size + 1, 0, none⟩ (.int .i64 0)).setCell ⟨w.heap.size + 1, 1, none⟩ (.int .i64 0)) :=
          (((hbw.alloc (by omega) _).setCell (Nat.le_refl _) _).setCell (by show w.heap.size ≤ w.heap.size + 1; omega) _).setCell (by show w.heap.size ≤ w.heap.size + 1; omega) _
        have e : Dia.lv (Dia.newL [] 0 ps) = [X.map (·.row)] := by rw [HE.out]; rfl
        refine ⟨some ⟨wo.heap.size, 0, none⟩, 1, 0, 0, by rw [e]; rfl, by rw [e]; exact Nat.le_refl _, (fun h => by cases h), ?_, fun _ => ⟨rfl, rfl⟩, fun h => ?_, hbb⟩
        · rw [e]
          refine .inr ⟨wo.heap.size, 0, rfl, ?_, fun k rs hk => ?_⟩
          · exact Aid.Tag.set (Aid.Tag.set (Aid.Tag.set ⟨_, _, heap_alloc_new wo _⟩))
          cases k with
          | succ k => simp at hk
          | zero =>
            simp at hk
            subst hk
            refine ⟨va, vcap, ?_, ⟨X, rfl, ?_⟩⟩
            · have hk3 : ((((wo.alloc (.cells #[.slice va X.length vcap] 94)).setCell ⟨w.heap.size, 0, none⟩ (.slice (some ⟨wo.heap.size, 0, none⟩) 1 1)).setCell ⟨w.heap.size + 1, 0, none⟩ (.int .i64 0)).setCell ⟨w.heap.size + 1, 1, none⟩ (.int .i64 0)).heap[wo.heap.size]? = some (.cells #[.slice va X.length vcap] 94 (0, 0)) := by
                rw [Go.Deep.blk_setCell_other _ _ _ _ (by show wo.heap.size ≠ w.heap.size + 1; omega), Go.Deep.blk_setCell_other _ _ _ _ (by show wo.heap.size ≠ w.heap.size + 1; omega), Go.Deep.blk_setCell_other _ _ _ _ (by show wo.heap.size ≠ w.heap.size; omega)]
                exact heap_alloc_new wo _
              have := (Aid.one hk3).1
              simpa using this
            · have h1 := hX.below (Aid.b1 wo (.cells #[.slice va X.length vcap] 94))
              have t2 : Aid.Tag (wo.alloc (.cells #[.slice va X.length vcap] 94)) w.heap.size 43 := ⟨_, _, k2⟩
              have t3 : Aid.Tag (wo.alloc (.cells #[.slice va X.length vcap] 94)) (w.heap.size + 1) 26 := ⟨_, _, k3⟩
              have h2 := ((h1.set t2 (by decide) (by decide) (j := 0) (u := .slice (some ⟨wo.heap.size, 0, none⟩) 1 1)).set t3.set (by decide) (by decide) (j := 0) (u := .int .i64 0)).set t3.set.set (by decide) (by decide) (j := 1) (u := .int .i64 0)
              obtain ⟨a', c', hv, _, hat⟩ := h2.at
              cases hv
              exact hat
        · rw [HE.out] at h
          simp only at h
          omega)
end Go.Proofs
