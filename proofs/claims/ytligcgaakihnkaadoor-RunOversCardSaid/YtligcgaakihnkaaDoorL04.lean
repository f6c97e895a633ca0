/- walks of the fourth layer's laws: what they share -/
import Derived.Test.YtligcgaakihnkaaDoorR4b
namespace Go.Proofs
open Go.RowKit

/-- pieces that aren't many, nor great -/
def Dia.good (p : Dia.Piece) : Bool := decide (p.count ≤ 100) && decide (p.text.length ≤ 300)
def Dia.light (ps : List Dia.Piece) : Bool := decide (ps.length ≤ 12) && ps.all Dia.good
/-- a piece's numbers are Go's, its text's length too -/
structure Dia.Piece.Big (p : Dia.Piece) : Prop where
  f0 : -9223372036854775808 ≤ p.from'
  f1 : p.from' ≤ 9223372036854775807
  t0 : -2147483648 ≤ p.to
  t1 : p.to ≤ 2147483647
  c0 : -9223372036854775808 ≤ p.count
  c1 : p.count ≤ 9223372036854775807
  s : p.text.length ≤ 9223372036854775807
theorem Dia.light_in {ps : List Dia.Piece} (hb : ∀ p ∈ ps, p.Big) (h : Dia.light ps = true) : ps.length ≤ 12 ∧ (∀ p ∈ ps, p.In) ∧ ∀ p ∈ ps, Dia.good p = true := by
  unfold Dia.light at h
  rw [Bool.and_eq_true, decide_eq_true_eq, List.all_eq_true] at h
  refine ⟨h.1, fun p hp => ?_, h.2⟩
  have h1 := h.2 p hp
  unfold Dia.good at h1
  rw [Bool.and_eq_true, decide_eq_true_eq, decide_eq_true_eq] at h1
  obtain ⟨f0, f1, t0, t1, c0, c1, s⟩ := hb p hp
  exact ⟨f0, f1, t0, t1, c0, c1, by omega⟩

set_option maxRecDepth 100000 in
set_option maxHeartbeats 1000000 in
theorem Tryd.c_Light (a : Option Addr) (ps : List Dia.Piece) (cap : Nat) (w : World) (hps : Dia.PiecesAt w a ps) (hbig : ∀ p ∈ ps, p.Big) (hmax : ps.length ≤ 9223372036854775807) :
    Calls Tryd.prog 7 #[.slice a ps.length cap] w fun e w' => e = .returned (.bool (Dia.light ps)) ∧ Below w.heap.size w w' := by
  by_cases h12 : ps.length ≤ 12
  · have HL : Aid.Hid2 (Dia.light ps = ps.all Dia.good) := ⟨by unfold Dia.light; rw [decide_eq_true h12]; rfl⟩
    have h12' : (ps.length : Int) ≤ 12 := by omega
    go_enter Tryd.func7, Tryd.ntmps7
    go_wp2
    go_loopw [4, 10] (fun _ i wr => ∃ k : Nat, k ≤ ps.length ∧ i = .int .i64 k ∧ (ps.take k).all Dia.good = true ∧ Below w.heap.size w wr) (fun _ i _ => ps.length - (intOf i).toNat)
    case atStart => exact ⟨0, Nat.zero_le _, rfl, rfl, Below.refl _ _⟩
    case round =>
      obtain ⟨k, hk, rfl, hall, hb⟩ := hrel
      have HALL := Aid.Hid2.mk hall
      clear hall
      by_cases hlt : k < ps.length
      · obtain ⟨b, off, rfl, q0, q1, q2, q3⟩ := (hps.below hb).get hlt
        obtain ⟨_, _, _, _, hc0, hc1, hs⟩ := hbig ps[k] (List.getElem_mem _)
        have HT : Aid.Hid2 ((ps.take (k + 1)).all Dia.good = Dia.good ps[k]) := ⟨by rw [Dia.take_snoc ps k hlt, List.all_append, HALL.out]; simp only [List.all_cons, List.all_nil, Bool.and_true, Bool.true_and]⟩
        have HF : Aid.Hid2 (Dia.good ps[k] = false → ps.all Dia.good = false) := ⟨fun h => List.all_eq_false.2 ⟨ps[k], List.getElem_mem _, by rw [h]; decide⟩⟩
        have hbb := hb.size
        generalize ps[k] = p at *
        obtain ⟨pf, pt, pc, ptx⟩ := p
        simp only at q0 q1 q2 q3 hc0 hc1 hs
        have hsz : (⟨ptx.toArray⟩ : ByteArray).size = ptx.length := rfl
        have HG : Aid.Hid2 (Dia.good ⟨pf, pt, pc, ptx⟩ = (decide (pc ≤ 100) && decide (ptx.length ≤ 300))) := ⟨rfl⟩
        by_cases hc : pc ≤ 100
        · by_cases ht : ptx.length ≤ 300
          · have HG2 : Aid.Hid2 (Dia.good ⟨pf, pt, pc, ptx⟩ = true) := ⟨by rw [HG.out, decide_eq_true hc, decide_eq_true ht]; rfl⟩
            have ht' : (ptx.length : Int) ≤ 300 := by omega
            clear ht
            go_wp2
            go_roundw
            case rel => exact ⟨k + 1, by omega, by go_num, by rw [HT.out, HG2.out], hb.alloc hbb _⟩
            case measure => simp [intOf]; omega
          · have HG2 : Aid.Hid2 (ps.all Dia.good = false) := ⟨HF.out (by rw [HG.out, decide_eq_false ht, Bool.and_false])⟩
            have ht' : (300 : Int) < (ptx.length : Int) := by omega
            clear ht
            go_wp2
            go_ret
            exact ⟨Dia.ret_b (by rw [HL.out, HG2.out]), hb.alloc hbb _⟩
        · have HG2 : Aid.Hid2 (ps.all Dia.good = false) := ⟨HF.out (by rw [HG.out, decide_eq_false hc]; rfl)⟩
          have hc' : 100 < pc := by omega
          clear hc
          go_wp2
          go_ret
          exact ⟨Dia.ret_b (by rw [HL.out, HG2.out]), hb.alloc hbb _⟩
      · have e : ps.take k = ps := List.take_of_length_le (by omega)
        have hall := HALL.out
        rw [e] at hall
        have HA := Aid.Hid2.mk hall
        clear e hall
        go_wp2
        go_ret
        exact ⟨Dia.ret_b (by rw [HL.out, HA.out]), hb⟩
  · have HL : Aid.Hid2 (Dia.light ps = false) := ⟨by unfold Dia.light; rw [decide_eq_false h12]; rfl⟩
    have h12' : (12 : Int) < (ps.length : Int) := by omega
    clear h12
    go_enter Tryd.func7, Tryd.ntmps7
    go_wp2
    go_ret
    exact ⟨Dia.ret_b HL.out.symm, Below.refl _ _⟩

/-- the document's pairs of pieces are handed back -/
def Dia.IsMade (o : List (Int × Int) × Int) (w w' : World) (e : Ending) : Prop :=
  ∃ (a : Option Addr) (cap : Nat), e = .returned (.tuple #[.slice a o.1.length cap, .int .i64 o.2]) ∧ Dia.PairsAt w' a o.1 ∧ Below w.heap.size w w'
theorem Dia.made_bad {o : List (Int × Int) × Int} {k : Nat} (h : o = ([], (k : Int))) {w w' : World} (hb : Below w.heap.size w w') : Dia.IsMade o w w' (.returned (.tuple #[.slice none 0 0, .int .i64 k])) := by
  subst h; exact ⟨none, 0, rfl, .inl rfl, hb⟩
theorem Dia.rpiece_len {p : Dia.Piece} {l : List (Int × Int)} (hg : Dia.good p = true) (h : Dia.rpiece p = some l) : l.length ≤ 300 := by
  unfold Dia.good at hg
  rw [Bool.and_eq_true, decide_eq_true_eq, decide_eq_true_eq] at hg
  unfold Dia.rpiece at h
  split at h
  · split at h
    · cases h
    · cases h
      have := Dia.pts_len p.text
      simp
      omega
  · split at h
    · cases h
    · split at h
      · cases h
      · cases h
        simp
        omega
theorem Dia.rjoin_len {l m j : List (Int × Int)} (h : Dia.rjoin l m = some j) : j.length = l.length + m.length := by
  unfold Dia.rjoin at h
  split at h
  · cases h
  · cases h; exact Dia.puts_len m l
theorem Dia.opt_val {o : Option (List (Int × Int))} {w w' : World} {e : Ending} (h : Dia.IsOpt o w w' e) :
    ∃ (a : Option Addr) (n cap : Nat), e = .returned (.tuple #[.slice a n cap, .bool o.isSome]) ∧ (∀ l, o = some l → n = l.length ∧ Dia.PairsAt w' a l) ∧ Below w.heap.size w w' := h

set_option maxRecDepth 100000 in
set_option maxHeartbeats 2000000 in
theorem Tryd.c_made (a : Option Addr) (ps : List Dia.Piece) (cap : Nat) (w : World) (hps : Dia.PiecesAt w a ps) (hin : ∀ p ∈ ps, p.In) (hg : ∀ p ∈ ps, Dia.good p = true) (hn : ps.length ≤ 12) :
    Calls Tryd.prog 10 #[.slice a ps.length cap] w fun e w' => Dia.IsMade (Dia.madeL [] 0 ps) w w' e := by
  go_enter Tryd.func10, Tryd.ntmps10
  go_wp2
  go_loopw [4, 5, 6, 7, 8, 11] (fun v _ _ _ _ i wr => ∃ (k : Nat) (S : List (Int × Int)) (aS : Option Addr) (cS : Nat), k ≤ ps.length ∧ i = .int .i64 k ∧ v = .slice aS S.length cS ∧ Dia.PairsAt wr aS S ∧ S.length ≤ 300 * k ∧
      Dia.madeL [] 0 ps = Dia.madeL S k (ps.drop k) ∧ Below w.heap.size w wr)
    (fun _ _ _ _ _ i _ => ps.length - (intOf i).toNat)
  case atStart => exact ⟨0, [], none, 0, Nat.zero_le _, rfl, rfl, .inl rfl, Nat.le_refl _, rfl, Below.refl _ _⟩
  case round =>
    obtain ⟨k, S, aS, cS, hk, rfl, rfl, hS, hSl, hmade, hb⟩ := hrel
    have HM := Aid.Hid2.mk hmade
    clear hmade
    have hbb := hb.size
    by_cases hlt : k < ps.length
    · obtain ⟨b, off, rfl, q0, q1, q2, q3⟩ := (hps.below hb).get hlt
      have hpi := hin ps[k] (List.getElem_mem _)
      have hpg := hg ps[k] (List.getElem_mem _)
      have HD := Aid.Hid2.mk (List.drop_eq_getElem_cons hlt)
      have HP : Aid.Hid2 (∀ w, Calls Tryd.prog 24 #[.int .i64 ps[k].from', .int .i32 ps[k].to, .int .i64 ps[k].count, .string ⟨ps[k].text.toArray⟩] w fun e w' => Dia.IsOpt (Dia.rpiece ps[k]) w w' e) := ⟨fun w => Tryd.c_rPiece ps[k] w hpi⟩
      cases ho : Dia.rpiece ps[k] with
      | none =>
        have HN : Aid.Hid2 (Dia.madeL [] 0 ps = ([], (k : Int))) := ⟨by
          rw [HM.out, HD.out]
          unfold Dia.madeL
          rw [ho]⟩
        rw [ho] at HP
        clear ho HD hpi hpg
        generalize ps[k] = p at *
        obtain ⟨pf, pt, pc, ptx⟩ := p
        simp only at q0 q1 q2 q3 HP
        go_wp2_with (go_at_call 24; refine (HP.out _).mono ?_; rintro e w1 ⟨a1, n1, c1, rfl, hsome, hb1⟩; clear hsome)
        go_ret2
        exact Dia.made_bad HN.out (Aid.bt hb (Aid.below_new (hb1.mono (by simp)) (Nat.le_refl _)))
      | some more =>
        have hml := Dia.rpiece_len hpg ho
        have HMM : Aid.Hid2 (∀ j, Dia.rjoin S more = j → Dia.madeL [] 0 ps = match j with | none => ([], (k : Int)) | some l' => Dia.madeL l' ((k : Int) + 1) (ps.drop (k + 1))) := ⟨fun j hj => by
          rw [HM.out, HD.out]
          conv => lhs; unfold Dia.madeL
          rw [ho]
          simp only
          rw [hj]
          cases j <;> rfl⟩
        rw [ho] at HP
        clear ho HD hpi hpg
        generalize ps[k] = p at *
        obtain ⟨pf, pt, pc, ptx⟩ := p
        simp only at q0 q1 q2 q3 HP
        have HJ : Aid.Hid2 (∀ w1 a1 c1, Below wr.heap.size wr w1 → Dia.PairsAt w1 a1 more → Calls Tryd.prog 25 #[.slice aS S.length cS, .slice a1 more.length c1] w1 fun e w' => Dia.IsOpt (Dia.rjoin S more) w1 w' e) :=
          ⟨fun w1 a1 c1 hb1 h1 => Tryd.c_rJoin aS a1 S more cS c1 w1 (hS.below hb1) h1 (by omega)⟩
        cases hj : Dia.rjoin S more with
        | none =>
          have HN := Aid.Hid2.mk (HMM.out none hj)
          rw [hj] at HJ
          clear hj
          go_wp2_with (first
            | (go_at_call 24; refine (HP.out _).mono ?_; rintro e w1 ⟨a1, n1, c1, rfl, hsome, hb1⟩; obtain ⟨rfl, hp1⟩ := hsome more rfl; clear hsome; have hb1' : Below wr.heap.size wr w1 := Aid.below_new (hb1.mono (by simp)) (Nat.le_refl _))
            | (go_at_call 25; refine (HJ.out _ _ _ hb1' hp1).mono ?_; rintro e w2 ⟨a2, n2, c2, rfl, hsome2, hb2⟩; clear hsome2))
          go_ret2
          exact Dia.made_bad HN.out (Aid.bt (Aid.bt hb hb1') hb2)
        | some l' =>
          have hll := Dia.rjoin_len hj
          have HN := Aid.Hid2.mk (HMM.out (some l') hj)
          rw [hj] at HJ
          have HLL : Aid.Hid2 (l'.length ≤ 300 * (k + 1)) := ⟨by omega⟩
          clear hj hll
          go_wp2_with (first
            | (go_at_call 24; refine (HP.out _).mono ?_; rintro e w1 ⟨a1, n1, c1, rfl, hsome, hb1⟩; obtain ⟨rfl, hp1⟩ := hsome more rfl; clear hsome; have hb1' : Below wr.heap.size wr w1 := Aid.below_new (hb1.mono (by simp)) (Nat.le_refl _))
            | (go_at_call 25; refine (HJ.out _ _ _ hb1' hp1).mono ?_; rintro e w2 ⟨a2, n2, c2, rfl, hsome2, hb2⟩; obtain ⟨rfl, hp2⟩ := hsome2 l' rfl; clear hsome2))
          go_roundw
          case rel => exact ⟨k + 1, l', a2, c2, by omega, by go_num, rfl, hp2, HLL.out, HN.out, Aid.bt (Aid.bt hb hb1') hb2⟩
          case measure => simp [intOf]; omega
    · have e : ps.drop k = [] := List.drop_eq_nil_of_le (by omega)
      have HE : Aid.Hid2 (Dia.madeL [] 0 ps = (S, -1)) := ⟨by rw [HM.out, e]; rfl⟩
      clear e
      go_wp2
      go_ret2
      exact ⟨aS, cS, by rw [HE.out]; rfl, by rw [HE.out]; exact hS, hb⟩
end Go.Proofs
