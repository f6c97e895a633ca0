/- walks of run: right, the last return -/
import Derived.Test.YtoaojojapebamaaGreatDoorM09
import Derived.Deep.RegionHeld3
namespace Go.Proofs
open Go.RowKit

set_option maxRecDepth 100000 in
set_option maxHeartbeats 1000000 in
theorem Tryz.c_right_s1 (f t c : Int) (w : World) (h1 : 0 ≤ f) (h2 : 1 ≤ c) (h3 : c ≤ 1048576) (h4 : f ≤ 1048576 - c) (t0 : 0 ≤ t) (t1 : t ≤ 1114111) 
   (H5 : Aid.Hid2 (∀ w, Calls Tryz.prog 55 #[.int .i32 t] w fun e w' => e = .returned (.bool true) ∧ w = w'))
   (H6 : Aid.Hid2 (∀ w, Calls Tryz.prog 55 #[.int .i32 (t + (c - 1))] w fun e w' => e = .returned (.bool false) ∧ w = w'))
   (FIN : Aid.Hid2 (∀ (w w' : World), Below w.heap.size w w' → Tryz.IsRight (Dia.right ⟨f, t, c, []⟩) w w' (.returned (.tuple #[.agg #[.int .i64 f, .int .i32 t, .int .i64 c, .slice none 0 0], .bool false])))) :
   Calls Tryz.prog 99 #[.agg #[.int .i64 f, .int .i32 t, .int .i64 c, .string ⟨#[]⟩]] w fun e w' => Tryz.IsRight (Dia.right ⟨f, t, c, []⟩) w w' e := by
  go_enter Tryz.func99, Tryz.ntmps99
  go_wp2_with (go_at_call 55; refine (H5.out _).mono ?_; rintro e w1 ⟨rfl, rfl⟩)
  refine wp_region_held_drew (S := (fun w' => w'.cell? ⟨w.heap.size + 1 + 1, 0, none⟩ = some (.int .i64 f) ∧ w'.cell? ⟨w.heap.size + 1 + 1, 1, none⟩ = some (.int .i32 t) ∧ w'.cell? ⟨w.heap.size + 1 + 1, 2, none⟩ = some (.int .i64 c) ∧ w'.cell? ⟨w.heap.size + 1 + 1, 3, none⟩ = some (.slice none 0 0))) (by kernel_rfl) ?_ (fun hHeld => ?_)
  · exact (by (refine ⟨?_, ?_, ?_, ?_⟩ <;> go_simp))
  refine wpAnyH_take (i := 0) (oi := ⟨_, _, _, _, _, _⟩) (v := ?_) rfl (by kernel_rfl) (by kernel_rfl) (by kernel_rfl) (fun _ _ _ h => h) (Or.inl ⟨by kernel_rfl, ?_⟩) (by assumption) ?_
  rotate_left
  · intro w hSw
    try dsimp only at hSw
    first | (go_simp; done) | (go_simp; with_reducible rfl)
  try simp only [Act.put, List.setIfInBounds_toArray, List.set_cons_zero, List.set_cons_succ]
  refine wpAnyH_take (i := 1) (oi := ⟨_, _, _, _, _, _⟩) (v := ?_) rfl (by kernel_rfl) (by kernel_rfl) (by kernel_rfl) (fun _ _ _ h => h) (Or.inl ⟨by kernel_rfl, ?_⟩) (by assumption) ?_
  rotate_left
  · intro w hSw
    try dsimp only at hSw
    first | (go_simp; done) | (go_simp; with_reducible rfl)
  try simp only [Act.put, List.setIfInBounds_toArray, List.set_cons_zero, List.set_cons_succ]
  refine wpAnyH_ready (rs := [2]) (by kernel_rfl) (by simp) ?_
  refine AllReadyH.cons (o := ⟨_, _, _, _, _, _⟩) rfl (fun K hK => ?_) AllReadyH.nil
  go_simp
  refine (H6.out _).mono ?_; rintro e wx ⟨rfl, rfl⟩
  go_wp2_with fail
  refine hK.out _ _ ?_ (fun hHeld => ?_)
  · (refine ⟨?_, ?_, ?_, ?_⟩ <;> go_simp)
  clear hK K
  try simp only [Act.put, List.setIfInBounds_toArray, List.set_cons_zero, List.set_cons_succ]
  refine wpAnyH_take (i := 3) (oi := ⟨_, _, _, _, _, _⟩) (v := ?_) rfl (by kernel_rfl) (by kernel_rfl) (by kernel_rfl) (fun _ _ _ h => h) (Or.inl ⟨by kernel_rfl, ?_⟩) (by assumption) ?_
  rotate_left
  · intro w hSw
    try dsimp only at hSw
    first | (go_simp; done) | (go_simp; with_reducible rfl)
  try simp only [Act.put, List.setIfInBounds_toArray, List.set_cons_zero, List.set_cons_succ]
  refine wpAnyH_take (i := 4) (oi := ⟨_, _, _, _, _, _⟩) (v := undef) rfl (by kernel_rfl) (by kernel_rfl) (by kernel_rfl) (fun _ _ _ h => h) (Or.inr ⟨by kernel_rfl, rfl⟩) (by assumption) ?_
  try simp only [Act.put, List.setIfInBounds_toArray, List.set_cons_zero, List.set_cons_succ]
  refine wpAnyH_take (i := 5) (oi := ⟨_, _, _, _, _, _⟩) (v := undef) rfl (by kernel_rfl) (by kernel_rfl) (by kernel_rfl) (fun _ _ _ h => h) (Or.inr ⟨by kernel_rfl, rfl⟩) (by assumption) ?_
  try simp only [Act.put, List.setIfInBounds_toArray, List.set_cons_zero, List.set_cons_succ]
  refine wpAnyH_take (i := 6) (oi := ⟨_, _, _, _, _, _⟩) (v := undef) rfl (by kernel_rfl) (by kernel_rfl) (by kernel_rfl) (fun _ _ _ h => h) (Or.inr ⟨by kernel_rfl, rfl⟩) (by assumption) ?_
  try simp only [Act.put, List.setIfInBounds_toArray, List.set_cons_zero, List.set_cons_succ]
  refine wpAnyH_take (i := 7) (oi := ⟨_, _, _, _, _, _⟩) (v := undef) rfl (by kernel_rfl) (by kernel_rfl) (by kernel_rfl) (fun _ _ _ h => h) (Or.inr ⟨by kernel_rfl, rfl⟩) (by assumption) ?_
  try simp only [Act.put, List.setIfInBounds_toArray, List.set_cons_zero, List.set_cons_succ]
  refine wpAnyH_take (i := 8) (oi := ⟨_, _, _, _, _, _⟩) (v := undef) rfl (by kernel_rfl) (by kernel_rfl) (by kernel_rfl) (fun _ _ _ h => h) (Or.inr ⟨by kernel_rfl, rfl⟩) (by assumption) ?_
  try simp only [Act.put, List.setIfInBounds_toArray, List.set_cons_zero, List.set_cons_succ]
  refine wpAnyH_take (i := 9) (oi := ⟨_, _, _, _, _, _⟩) (v := undef) rfl (by kernel_rfl) (by kernel_rfl) (by kernel_rfl) (fun _ _ _ h => h) (Or.inr ⟨by kernel_rfl, rfl⟩) (by assumption) ?_
  try simp only [Act.put, List.setIfInBounds_toArray, List.set_cons_zero, List.set_cons_succ]
  refine wpAnyH_take (i := 10) (oi := ⟨_, _, _, _, _, _⟩) (v := undef) rfl (by kernel_rfl) (by kernel_rfl) (by kernel_rfl) (fun _ _ _ h => h) (Or.inr ⟨by kernel_rfl, rfl⟩) (by assumption) ?_
  try simp only [Act.put, List.setIfInBounds_toArray, List.set_cons_zero, List.set_cons_succ]
  refine wpAnyH_take (i := 11) (oi := ⟨_, _, _, _, _, _⟩) (v := ?_) rfl (by kernel_rfl) (by kernel_rfl) (by kernel_rfl) (fun _ _ _ h => h) (Or.inl ⟨by kernel_rfl, ?_⟩) (by assumption) ?_
  rotate_left
  · intro w hSw
    try dsimp only at hSw
    first | (go_simp; done) | (go_simp; with_reducible rfl)
  try simp only [Act.put, List.setIfInBounds_toArray, List.set_cons_zero, List.set_cons_succ]
  refine wpAnyH_ready (rs := [12]) (by kernel_rfl) (by simp) ?_
  refine AllReadyH.cons (o := ⟨_, _, _, _, _, _⟩) rfl (fun K hK => ?_) AllReadyH.nil
  go_simp
  refine hK.out _ _ ?_ (fun hHeld => ?_)
  · (refine ⟨?_, ?_, ?_, ?_⟩ <;> go_simp)
  clear hK K
  try simp only [Act.put, List.setIfInBounds_toArray, List.set_cons_zero, List.set_cons_succ]
  refine wpAnyH_take (i := 13) (oi := ⟨_, _, _, _, _, _⟩) (v := ?_) rfl (by kernel_rfl) (by kernel_rfl) (by kernel_rfl) (fun _ _ _ h => h) (Or.inl ⟨by kernel_rfl, ?_⟩) (by assumption) ?_
  rotate_left
  · intro w hSw
    try dsimp only at hSw
    first | (go_simp; done) | (go_simp; with_reducible rfl)
  try simp only [Act.put, List.setIfInBounds_toArray, List.set_cons_zero, List.set_cons_succ]
  refine wpAnyH_done (by kernel_rfl) ?_ _
  go_wp2
  exact bodyPost_ret (v := .tuple #[.agg #[.int .i64 f, .int .i32 t, .int .i64 c, .slice none 0 0], .bool false]) (by simp [results, Tryz.results99, go_sem]) rfl
    (FIN.out _ _ (Aid.b3 _ _ _ _).drew)
set_option maxRecDepth 100000 in
set_option maxHeartbeats 1000000 in
theorem Tryz.c_right_s2 (f t c : Int) (w : World) (h1 : 0 ≤ f) (h2 : 1 ≤ c) (h3 : c ≤ 1048576) (h4 : f ≤ 1048576 - c) (t0 : 0 ≤ t) (t1 : t ≤ 1114111) (hd : decide (55296 ≤ t) = true)
   (H5 : Aid.Hid2 (∀ w, Calls Tryz.prog 55 #[.int .i32 t] w fun e w' => e = .returned (.bool true) ∧ w = w'))
   (H6 : Aid.Hid2 (∀ w, Calls Tryz.prog 55 #[.int .i32 (t + (c - 1))] w fun e w' => e = .returned (.bool true) ∧ w = w'))
   (FIN : Aid.Hid2 (∀ (w w' : World), Below w.heap.size w w' → Tryz.IsRight (Dia.right ⟨f, t, c, []⟩) w w' (.returned (.tuple #[.agg #[.int .i64 f, .int .i32 t, .int .i64 c, .slice none 0 0], .bool true])))) :
   Calls Tryz.prog 99 #[.agg #[.int .i64 f, .int .i32 t, .int .i64 c, .string ⟨#[]⟩]] w fun e w' => Tryz.IsRight (Dia.right ⟨f, t, c, []⟩) w w' e := by
  go_enter Tryz.func99, Tryz.ntmps99
  go_wp2_with (go_at_call 55; refine (H5.out _).mono ?_; rintro e w1 ⟨rfl, rfl⟩)
  refine wp_region_held_drew (S := (fun w' => w'.cell? ⟨w.heap.size + 1 + 1, 0, none⟩ = some (.int .i64 f) ∧ w'.cell? ⟨w.heap.size + 1 + 1, 1, none⟩ = some (.int .i32 t) ∧ w'.cell? ⟨w.heap.size + 1 + 1, 2, none⟩ = some (.int .i64 c) ∧ w'.cell? ⟨w.heap.size + 1 + 1, 3, none⟩ = some (.slice none 0 0))) (by kernel_rfl) ?_ (fun hHeld => ?_)
  · exact (by (refine ⟨?_, ?_, ?_, ?_⟩ <;> go_simp))
  refine wpAnyH_take (i := 0) (oi := ⟨_, _, _, _, _, _⟩) (v := ?_) rfl (by kernel_rfl) (by kernel_rfl) (by kernel_rfl) (fun _ _ _ h => h) (Or.inl ⟨by kernel_rfl, ?_⟩) (by assumption) ?_
  rotate_left
  · intro w hSw
    try dsimp only at hSw
    first | (go_simp; done) | (go_simp; with_reducible rfl)
  try simp only [Act.put, List.setIfInBounds_toArray, List.set_cons_zero, List.set_cons_succ]
  refine wpAnyH_take (i := 1) (oi := ⟨_, _, _, _, _, _⟩) (v := ?_) rfl (by kernel_rfl) (by kernel_rfl) (by kernel_rfl) (fun _ _ _ h => h) (Or.inl ⟨by kernel_rfl, ?_⟩) (by assumption) ?_
  rotate_left
  · intro w hSw
    try dsimp only at hSw
    first | (go_simp; done) | (go_simp; with_reducible rfl)
  try simp only [Act.put, List.setIfInBounds_toArray, List.set_cons_zero, List.set_cons_succ]
  refine wpAnyH_ready (rs := [2]) (by kernel_rfl) (by simp) ?_
  refine AllReadyH.cons (o := ⟨_, _, _, _, _, _⟩) rfl (fun K hK => ?_) AllReadyH.nil
  go_simp
  refine (H6.out _).mono ?_; rintro e wx ⟨rfl, rfl⟩
  go_wp2_with fail
  refine hK.out _ _ ?_ (fun hHeld => ?_)
  · (refine ⟨?_, ?_, ?_, ?_⟩ <;> go_simp)
  clear hK K
  try simp only [Act.put, List.setIfInBounds_toArray, List.set_cons_zero, List.set_cons_succ]
  refine wpAnyH_take (i := 3) (oi := ⟨_, _, _, _, _, _⟩) (v := ?_) rfl (by kernel_rfl) (by kernel_rfl) (by kernel_rfl) (fun _ _ _ h => h) (Or.inl ⟨by kernel_rfl, ?_⟩) (by assumption) ?_
  rotate_left
  · intro w hSw
    try dsimp only at hSw
    first | (go_simp; done) | (go_simp; with_reducible rfl)
  try simp only [Act.put, List.setIfInBounds_toArray, List.set_cons_zero, List.set_cons_succ]
  refine wpAnyH_take (i := 4) (oi := ⟨_, _, _, _, _, _⟩) (v := ?_) rfl (by kernel_rfl) (by kernel_rfl) (by kernel_rfl) (fun _ _ _ h => h) (Or.inl ⟨by kernel_rfl, ?_⟩) (by assumption) ?_
  rotate_left
  · intro w hSw
    try dsimp only at hSw
    first | (go_simp; done) | (go_simp; with_reducible rfl)
  try simp only [Act.put, List.setIfInBounds_toArray, List.set_cons_zero, List.set_cons_succ]
  refine wpAnyH_take (i := 5) (oi := ⟨_, _, _, _, _, _⟩) (v := ?_) rfl (by kernel_rfl) (by kernel_rfl) (by kernel_rfl) (fun _ _ _ h => h) (Or.inl ⟨by kernel_rfl, ?_⟩) (by assumption) ?_
  rotate_left
  · intro w hSw
    try dsimp only at hSw
    first | (go_simp; done) | (go_simp; with_reducible rfl)
  try simp only [Act.put, List.setIfInBounds_toArray, List.set_cons_zero, List.set_cons_succ]
  refine wpAnyH_take (i := 6) (oi := ⟨_, _, _, _, _, _⟩) (v := ?_) rfl (by kernel_rfl) (by kernel_rfl) (by kernel_rfl) (fun _ _ _ h => h) (Or.inl ⟨by kernel_rfl, ?_⟩) (by assumption) ?_
  rotate_left
  · intro w hSw
    try dsimp only at hSw
    first | (go_simp; done) | (go_simp; with_reducible rfl)
  try simp only [Act.put, List.setIfInBounds_toArray, List.set_cons_zero, List.set_cons_succ]
  refine wpAnyH_take (i := 7) (oi := ⟨_, _, _, _, _, _⟩) (v := ?_) rfl (by kernel_rfl) (by kernel_rfl) (by kernel_rfl) (fun _ _ _ h => h) (Or.inl ⟨by kernel_rfl, ?_⟩) (by assumption) ?_
  rotate_left
  · intro w hSw
    try dsimp only at hSw
    first | (go_simp; done) | (go_simp; with_reducible rfl)
  try simp only [Act.put, List.setIfInBounds_toArray, List.set_cons_zero, List.set_cons_succ]
  refine wpAnyH_take (i := 8) (oi := ⟨_, _, _, _, _, _⟩) (v := undef) rfl (by kernel_rfl) (by kernel_rfl) (by kernel_rfl) (fun _ _ _ h => h) (Or.inr ⟨by kernel_rfl, rfl⟩) (by assumption) ?_
  try simp only [Act.put, List.setIfInBounds_toArray, List.set_cons_zero, List.set_cons_succ]
  refine wpAnyH_take (i := 9) (oi := ⟨_, _, _, _, _, _⟩) (v := undef) rfl (by kernel_rfl) (by kernel_rfl) (by kernel_rfl) (fun _ _ _ h => h) (Or.inr ⟨by kernel_rfl, rfl⟩) (by assumption) ?_
  try simp only [Act.put, List.setIfInBounds_toArray, List.set_cons_zero, List.set_cons_succ]
  refine wpAnyH_take (i := 10) (oi := ⟨_, _, _, _, _, _⟩) (v := ?_) rfl (by kernel_rfl) (by kernel_rfl) (by kernel_rfl) (fun _ _ _ h => h) (Or.inl ⟨by kernel_rfl, ?_⟩) (by assumption) ?_
  rotate_left
  · intro w hSw
    try dsimp only at hSw
    first | (go_simp; done) | (go_simp; with_reducible rfl)
  try simp only [Act.put, List.setIfInBounds_toArray, List.set_cons_zero, List.set_cons_succ]
  refine wpAnyH_take (i := 11) (oi := ⟨_, _, _, _, _, _⟩) (v := ?_) rfl (by kernel_rfl) (by kernel_rfl) (by kernel_rfl) (fun _ _ _ h => h) (Or.inl ⟨by kernel_rfl, ?_⟩) (by assumption) ?_
  rotate_left
  · intro w hSw
    try dsimp only at hSw
    first | (go_simp; done) | (go_simp; with_reducible rfl)
  try simp only [Act.put, List.setIfInBounds_toArray, List.set_cons_zero, List.set_cons_succ]
  refine wpAnyH_ready (rs := [12]) (by kernel_rfl) (by simp) ?_
  refine AllReadyH.cons (o := ⟨_, _, _, _, _, _⟩) rfl (fun K hK => ?_) AllReadyH.nil
  go_simp
  refine hK.out _ _ ?_ (fun hHeld => ?_)
  · (refine ⟨?_, ?_, ?_, ?_⟩ <;> go_simp)
  clear hK K
  try simp only [Act.put, List.setIfInBounds_toArray, List.set_cons_zero, List.set_cons_succ]
  refine wpAnyH_take (i := 13) (oi := ⟨_, _, _, _, _, _⟩) (v := ?_) rfl (by kernel_rfl) (by kernel_rfl) (by kernel_rfl) (fun _ _ _ h => h) (Or.inl ⟨by kernel_rfl, ?_⟩) (by assumption) ?_
  rotate_left
  · intro w hSw
    try dsimp only at hSw
    first | (go_simp; done) | (go_simp; with_reducible rfl)
  try simp only [Act.put, List.setIfInBounds_toArray, List.set_cons_zero, List.set_cons_succ]
  refine wpAnyH_done (by kernel_rfl) ?_ _
  go_wp2
  exact bodyPost_ret (v := .tuple #[.agg #[.int .i64 f, .int .i32 t, .int .i64 c, .slice none 0 0], .bool true]) (by simp [results, Tryz.results99, go_sem]) rfl
    (FIN.out _ _ (Aid.b3 _ _ _ _).drew)
set_option maxRecDepth 100000 in
set_option maxHeartbeats 1000000 in
theorem Tryz.c_right_s3 (f t c : Int) (w : World) (h1 : 0 ≤ f) (h2 : 1 ≤ c) (h3 : c ≤ 1048576) (h4 : f ≤ 1048576 - c) (t0 : 0 ≤ t) (t1 : t ≤ 1114111) (hd : decide (55296 ≤ t) = false) (he : decide (t + (c - 1) ≤ 57343) = true)
   (H5 : Aid.Hid2 (∀ w, Calls Tryz.prog 55 #[.int .i32 t] w fun e w' => e = .returned (.bool true) ∧ w = w'))
   (H6 : Aid.Hid2 (∀ w, Calls Tryz.prog 55 #[.int .i32 (t + (c - 1))] w fun e w' => e = .returned (.bool true) ∧ w = w'))
   (FIN : Aid.Hid2 (∀ (w w' : World), Below w.heap.size w w' → Tryz.IsRight (Dia.right ⟨f, t, c, []⟩) w w' (.returned (.tuple #[.agg #[.int .i64 f, .int .i32 t, .int .i64 c, .slice none 0 0], .bool true])))) :
   Calls Tryz.prog 99 #[.agg #[.int .i64 f, .int .i32 t, .int .i64 c, .string ⟨#[]⟩]] w fun e w' => Tryz.IsRight (Dia.right ⟨f, t, c, []⟩) w w' e := by
  go_enter Tryz.func99, Tryz.ntmps99
  go_wp2_with (go_at_call 55; refine (H5.out _).mono ?_; rintro e w1 ⟨rfl, rfl⟩)
  refine wp_region_held_drew (S := (fun w' => w'.cell? ⟨w.heap.size + 1 + 1, 0, none⟩ = some (.int .i64 f) ∧ w'.cell? ⟨w.heap.size + 1 + 1, 1, none⟩ = some (.int .i32 t) ∧ w'.cell? ⟨w.heap.size + 1 + 1, 2, none⟩ = some (.int .i64 c) ∧ w'.cell? ⟨w.heap.size + 1 + 1, 3, none⟩ = some (.slice none 0 0))) (by kernel_rfl) ?_ (fun hHeld => ?_)
  · exact (by (refine ⟨?_, ?_, ?_, ?_⟩ <;> go_simp))
  refine wpAnyH_take (i := 0) (oi := ⟨_, _, _, _, _, _⟩) (v := ?_) rfl (by kernel_rfl) (by kernel_rfl) (by kernel_rfl) (fun _ _ _ h => h) (Or.inl ⟨by kernel_rfl, ?_⟩) (by assumption) ?_
  rotate_left
  · intro w hSw
    try dsimp only at hSw
    first | (go_simp; done) | (go_simp; with_reducible rfl)
  try simp only [Act.put, List.setIfInBounds_toArray, List.set_cons_zero, List.set_cons_succ]
  refine wpAnyH_take (i := 1) (oi := ⟨_, _, _, _, _, _⟩) (v := ?_) rfl (by kernel_rfl) (by kernel_rfl) (by kernel_rfl) (fun _ _ _ h => h) (Or.inl ⟨by kernel_rfl, ?_⟩) (by assumption) ?_
  rotate_left
  · intro w hSw
    try dsimp only at hSw
    first | (go_simp; done) | (go_simp; with_reducible rfl)
  try simp only [Act.put, List.setIfInBounds_toArray, List.set_cons_zero, List.set_cons_succ]
  refine wpAnyH_ready (rs := [2]) (by kernel_rfl) (by simp) ?_
  refine AllReadyH.cons (o := ⟨_, _, _, _, _, _⟩) rfl (fun K hK => ?_) AllReadyH.nil
  go_simp
  refine (H6.out _).mono ?_; rintro e wx ⟨rfl, rfl⟩
  go_wp2_with fail
  refine hK.out _ _ ?_ (fun hHeld => ?_)
  · (refine ⟨?_, ?_, ?_, ?_⟩ <;> go_simp)
  clear hK K
  try simp only [Act.put, List.setIfInBounds_toArray, List.set_cons_zero, List.set_cons_succ]
  refine wpAnyH_take (i := 3) (oi := ⟨_, _, _, _, _, _⟩) (v := ?_) rfl (by kernel_rfl) (by kernel_rfl) (by kernel_rfl) (fun _ _ _ h => h) (Or.inl ⟨by kernel_rfl, ?_⟩) (by assumption) ?_
  rotate_left
  · intro w hSw
    try dsimp only at hSw
    first | (go_simp; done) | (go_simp; with_reducible rfl)
  try simp only [Act.put, List.setIfInBounds_toArray, List.set_cons_zero, List.set_cons_succ]
  refine wpAnyH_take (i := 4) (oi := ⟨_, _, _, _, _, _⟩) (v := ?_) rfl (by kernel_rfl) (by kernel_rfl) (by kernel_rfl) (fun _ _ _ h => h) (Or.inl ⟨by kernel_rfl, ?_⟩) (by assumption) ?_
  rotate_left
  · intro w hSw
    try dsimp only at hSw
    first | (go_simp; done) | (go_simp; with_reducible rfl)
  try simp only [Act.put, List.setIfInBounds_toArray, List.set_cons_zero, List.set_cons_succ]
  refine wpAnyH_take (i := 5) (oi := ⟨_, _, _, _, _, _⟩) (v := ?_) rfl (by kernel_rfl) (by kernel_rfl) (by kernel_rfl) (fun _ _ _ h => h) (Or.inl ⟨by kernel_rfl, ?_⟩) (by assumption) ?_
  rotate_left
  · intro w hSw
    try dsimp only at hSw
    first | (go_simp; done) | (go_simp; with_reducible rfl)
  try simp only [Act.put, List.setIfInBounds_toArray, List.set_cons_zero, List.set_cons_succ]
  refine wpAnyH_take (i := 6) (oi := ⟨_, _, _, _, _, _⟩) (v := ?_) rfl (by kernel_rfl) (by kernel_rfl) (by kernel_rfl) (fun _ _ _ h => h) (Or.inl ⟨by kernel_rfl, ?_⟩) (by assumption) ?_
  rotate_left
  · intro w hSw
    try dsimp only at hSw
    first | (go_simp; done) | (go_simp; with_reducible rfl)
  try simp only [Act.put, List.setIfInBounds_toArray, List.set_cons_zero, List.set_cons_succ]
  refine wpAnyH_take (i := 7) (oi := ⟨_, _, _, _, _, _⟩) (v := ?_) rfl (by kernel_rfl) (by kernel_rfl) (by kernel_rfl) (fun _ _ _ h => h) (Or.inl ⟨by kernel_rfl, ?_⟩) (by assumption) ?_
  rotate_left
  · intro w hSw
    try dsimp only at hSw
    first | (go_simp; done) | (go_simp; with_reducible rfl)
  try simp only [Act.put, List.setIfInBounds_toArray, List.set_cons_zero, List.set_cons_succ]
  refine wpAnyH_take (i := 8) (oi := ⟨_, _, _, _, _, _⟩) (v := ?_) rfl (by kernel_rfl) (by kernel_rfl) (by kernel_rfl) (fun _ _ _ h => h) (Or.inl ⟨by kernel_rfl, ?_⟩) (by assumption) ?_
  rotate_left
  · intro w hSw
    try dsimp only at hSw
    first | (go_simp; done) | (go_simp; with_reducible rfl)
  try simp only [Act.put, List.setIfInBounds_toArray, List.set_cons_zero, List.set_cons_succ]
  refine wpAnyH_take (i := 9) (oi := ⟨_, _, _, _, _, _⟩) (v := ?_) rfl (by kernel_rfl) (by kernel_rfl) (by kernel_rfl) (fun _ _ _ h => h) (Or.inl ⟨by kernel_rfl, ?_⟩) (by assumption) ?_
  rotate_left
  · intro w hSw
    try dsimp only at hSw
    first | (go_simp; done) | (go_simp; with_reducible rfl)
  try simp only [Act.put, List.setIfInBounds_toArray, List.set_cons_zero, List.set_cons_succ]
  refine wpAnyH_take (i := 10) (oi := ⟨_, _, _, _, _, _⟩) (v := ?_) rfl (by kernel_rfl) (by kernel_rfl) (by kernel_rfl) (fun _ _ _ h => h) (Or.inl ⟨by kernel_rfl, ?_⟩) (by assumption) ?_
  rotate_left
  · intro w hSw
    try dsimp only at hSw
    first | (go_simp; done) | (go_simp; with_reducible rfl)
  try simp only [Act.put, List.setIfInBounds_toArray, List.set_cons_zero, List.set_cons_succ]
  refine wpAnyH_take (i := 11) (oi := ⟨_, _, _, _, _, _⟩) (v := ?_) rfl (by kernel_rfl) (by kernel_rfl) (by kernel_rfl) (fun _ _ _ h => h) (Or.inl ⟨by kernel_rfl, ?_⟩) (by assumption) ?_
  rotate_left
  · intro w hSw
    try dsimp only at hSw
    first | (go_simp; done) | (go_simp; with_reducible rfl)
  try simp only [Act.put, List.setIfInBounds_toArray, List.set_cons_zero, List.set_cons_succ]
  refine wpAnyH_ready (rs := [12]) (by kernel_rfl) (by simp) ?_
  refine AllReadyH.cons (o := ⟨_, _, _, _, _, _⟩) rfl (fun K hK => ?_) AllReadyH.nil
  go_simp
  refine hK.out _ _ ?_ (fun hHeld => ?_)
  · (refine ⟨?_, ?_, ?_, ?_⟩ <;> go_simp)
  clear hK K
  try simp only [Act.put, List.setIfInBounds_toArray, List.set_cons_zero, List.set_cons_succ]
  refine wpAnyH_take (i := 13) (oi := ⟨_, _, _, _, _, _⟩) (v := ?_) rfl (by kernel_rfl) (by kernel_rfl) (by kernel_rfl) (fun _ _ _ h => h) (Or.inl ⟨by kernel_rfl, ?_⟩) (by assumption) ?_
  rotate_left
  · intro w hSw
    try dsimp only at hSw
    first | (go_simp; done) | (go_simp; with_reducible rfl)
  try simp only [Act.put, List.setIfInBounds_toArray, List.set_cons_zero, List.set_cons_succ]
  refine wpAnyH_done (by kernel_rfl) ?_ _
  go_wp2
  exact bodyPost_ret (v := .tuple #[.agg #[.int .i64 f, .int .i32 t, .int .i64 c, .slice none 0 0], .bool true]) (by simp [results, Tryz.results99, go_sem]) rfl
    (FIN.out _ _ (Aid.b3 _ _ _ _).drew)
set_option maxRecDepth 100000 in
set_option maxHeartbeats 1000000 in
theorem Tryz.c_right_s4 (f t c : Int) (w : World) (h1 : 0 ≤ f) (h2 : 1 ≤ c) (h3 : c ≤ 1048576) (h4 : f ≤ 1048576 - c) (t0 : 0 ≤ t) (t1 : t ≤ 1114111) (hd : decide (55296 ≤ t) = false) (he : decide (t + (c - 1) ≤ 57343) = false)
   (H5 : Aid.Hid2 (∀ w, Calls Tryz.prog 55 #[.int .i32 t] w fun e w' => e = .returned (.bool true) ∧ w = w'))
   (H6 : Aid.Hid2 (∀ w, Calls Tryz.prog 55 #[.int .i32 (t + (c - 1))] w fun e w' => e = .returned (.bool true) ∧ w = w'))
   (FIN : Aid.Hid2 (∀ (w w' : World), Below w.heap.size w w' → Tryz.IsRight (Dia.right ⟨f, t, c, []⟩) w w' (.returned (.tuple #[.agg #[.int .i64 f, .int .i32 t, .int .i64 c, .slice none 0 0], .bool false])))) :
   Calls Tryz.prog 99 #[.agg #[.int .i64 f, .int .i32 t, .int .i64 c, .string ⟨#[]⟩]] w fun e w' => Tryz.IsRight (Dia.right ⟨f, t, c, []⟩) w w' e := by
  go_enter Tryz.func99, Tryz.ntmps99
  go_wp2_with (go_at_call 55; refine (H5.out _).mono ?_; rintro e w1 ⟨rfl, rfl⟩)
  refine wp_region_held_drew (S := (fun w' => w'.cell? ⟨w.heap.size + 1 + 1, 0, none⟩ = some (.int .i64 f) ∧ w'.cell? ⟨w.heap.size + 1 + 1, 1, none⟩ = some (.int .i32 t) ∧ w'.cell? ⟨w.heap.size + 1 + 1, 2, none⟩ = some (.int .i64 c) ∧ w'.cell? ⟨w.heap.size + 1 + 1, 3, none⟩ = some (.slice none 0 0))) (by kernel_rfl) ?_ (fun hHeld => ?_)
  · exact (by (refine ⟨?_, ?_, ?_, ?_⟩ <;> go_simp))
  refine wpAnyH_take (i := 0) (oi := ⟨_, _, _, _, _, _⟩) (v := ?_) rfl (by kernel_rfl) (by kernel_rfl) (by kernel_rfl) (fun _ _ _ h => h) (Or.inl ⟨by kernel_rfl, ?_⟩) (by assumption) ?_
  rotate_left
  · intro w hSw
    try dsimp only at hSw
    first | (go_simp; done) | (go_simp; with_reducible rfl)
  try simp only [Act.put, List.setIfInBounds_toArray, List.set_cons_zero, List.set_cons_succ]
  refine wpAnyH_take (i := 1) (oi := ⟨_, _, _, _, _, _⟩) (v := ?_) rfl (by kernel_rfl) (by kernel_rfl) (by kernel_rfl) (fun _ _ _ h => h) (Or.inl ⟨by kernel_rfl, ?_⟩) (by assumption) ?_
  rotate_left
  · intro w hSw
    try dsimp only at hSw
    first | (go_simp; done) | (go_simp; with_reducible rfl)
  try simp only [Act.put, List.setIfInBounds_toArray, List.set_cons_zero, List.set_cons_succ]
  refine wpAnyH_ready (rs := [2]) (by kernel_rfl) (by simp) ?_
  refine AllReadyH.cons (o := ⟨_, _, _, _, _, _⟩) rfl (fun K hK => ?_) AllReadyH.nil
  go_simp
  refine (H6.out _).mono ?_; rintro e wx ⟨rfl, rfl⟩
  go_wp2_with fail
  refine hK.out _ _ ?_ (fun hHeld => ?_)
  · (refine ⟨?_, ?_, ?_, ?_⟩ <;> go_simp)
  clear hK K
  try simp only [Act.put, List.setIfInBounds_toArray, List.set_cons_zero, List.set_cons_succ]
  refine wpAnyH_take (i := 3) (oi := ⟨_, _, _, _, _, _⟩) (v := ?_) rfl (by kernel_rfl) (by kernel_rfl) (by kernel_rfl) (fun _ _ _ h => h) (Or.inl ⟨by kernel_rfl, ?_⟩) (by assumption) ?_
  rotate_left
  · intro w hSw
    try dsimp only at hSw
    first | (go_simp; done) | (go_simp; with_reducible rfl)
  try simp only [Act.put, List.setIfInBounds_toArray, List.set_cons_zero, List.set_cons_succ]
  refine wpAnyH_take (i := 4) (oi := ⟨_, _, _, _, _, _⟩) (v := ?_) rfl (by kernel_rfl) (by kernel_rfl) (by kernel_rfl) (fun _ _ _ h => h) (Or.inl ⟨by kernel_rfl, ?_⟩) (by assumption) ?_
  rotate_left
  · intro w hSw
    try dsimp only at hSw
    first | (go_simp; done) | (go_simp; with_reducible rfl)
  try simp only [Act.put, List.setIfInBounds_toArray, List.set_cons_zero, List.set_cons_succ]
  refine wpAnyH_take (i := 5) (oi := ⟨_, _, _, _, _, _⟩) (v := ?_) rfl (by kernel_rfl) (by kernel_rfl) (by kernel_rfl) (fun _ _ _ h => h) (Or.inl ⟨by kernel_rfl, ?_⟩) (by assumption) ?_
  rotate_left
  · intro w hSw
    try dsimp only at hSw
    first | (go_simp; done) | (go_simp; with_reducible rfl)
  try simp only [Act.put, List.setIfInBounds_toArray, List.set_cons_zero, List.set_cons_succ]
  refine wpAnyH_take (i := 6) (oi := ⟨_, _, _, _, _, _⟩) (v := ?_) rfl (by kernel_rfl) (by kernel_rfl) (by kernel_rfl) (fun _ _ _ h => h) (Or.inl ⟨by kernel_rfl, ?_⟩) (by assumption) ?_
  rotate_left
  · intro w hSw
    try dsimp only at hSw
    first | (go_simp; done) | (go_simp; with_reducible rfl)
  try simp only [Act.put, List.setIfInBounds_toArray, List.set_cons_zero, List.set_cons_succ]
  refine wpAnyH_take (i := 7) (oi := ⟨_, _, _, _, _, _⟩) (v := ?_) rfl (by kernel_rfl) (by kernel_rfl) (by kernel_rfl) (fun _ _ _ h => h) (Or.inl ⟨by kernel_rfl, ?_⟩) (by assumption) ?_
  rotate_left
  · intro w hSw
    try dsimp only at hSw
    first | (go_simp; done) | (go_simp; with_reducible rfl)
  try simp only [Act.put, List.setIfInBounds_toArray, List.set_cons_zero, List.set_cons_succ]
  refine wpAnyH_take (i := 8) (oi := ⟨_, _, _, _, _, _⟩) (v := ?_) rfl (by kernel_rfl) (by kernel_rfl) (by kernel_rfl) (fun _ _ _ h => h) (Or.inl ⟨by kernel_rfl, ?_⟩) (by assumption) ?_
  rotate_left
  · intro w hSw
    try dsimp only at hSw
    first | (go_simp; done) | (go_simp; with_reducible rfl)
  try simp only [Act.put, List.setIfInBounds_toArray, List.set_cons_zero, List.set_cons_succ]
  refine wpAnyH_take (i := 9) (oi := ⟨_, _, _, _, _, _⟩) (v := ?_) rfl (by kernel_rfl) (by kernel_rfl) (by kernel_rfl) (fun _ _ _ h => h) (Or.inl ⟨by kernel_rfl, ?_⟩) (by assumption) ?_
  rotate_left
  · intro w hSw
    try dsimp only at hSw
    first | (go_simp; done) | (go_simp; with_reducible rfl)
  try simp only [Act.put, List.setIfInBounds_toArray, List.set_cons_zero, List.set_cons_succ]
  refine wpAnyH_take (i := 10) (oi := ⟨_, _, _, _, _, _⟩) (v := ?_) rfl (by kernel_rfl) (by kernel_rfl) (by kernel_rfl) (fun _ _ _ h => h) (Or.inl ⟨by kernel_rfl, ?_⟩) (by assumption) ?_
  rotate_left
  · intro w hSw
    try dsimp only at hSw
    first | (go_simp; done) | (go_simp; with_reducible rfl)
  try simp only [Act.put, List.setIfInBounds_toArray, List.set_cons_zero, List.set_cons_succ]
  refine wpAnyH_take (i := 11) (oi := ⟨_, _, _, _, _, _⟩) (v := ?_) rfl (by kernel_rfl) (by kernel_rfl) (by kernel_rfl) (fun _ _ _ h => h) (Or.inl ⟨by kernel_rfl, ?_⟩) (by assumption) ?_
  rotate_left
  · intro w hSw
    try dsimp only at hSw
    first | (go_simp; done) | (go_simp; with_reducible rfl)
  try simp only [Act.put, List.setIfInBounds_toArray, List.set_cons_zero, List.set_cons_succ]
  refine wpAnyH_ready (rs := [12]) (by kernel_rfl) (by simp) ?_
  refine AllReadyH.cons (o := ⟨_, _, _, _, _, _⟩) rfl (fun K hK => ?_) AllReadyH.nil
  go_simp
  refine hK.out _ _ ?_ (fun hHeld => ?_)
  · (refine ⟨?_, ?_, ?_, ?_⟩ <;> go_simp)
  clear hK K
  try simp only [Act.put, List.setIfInBounds_toArray, List.set_cons_zero, List.set_cons_succ]
  refine wpAnyH_take (i := 13) (oi := ⟨_, _, _, _, _, _⟩) (v := ?_) rfl (by kernel_rfl) (by kernel_rfl) (by kernel_rfl) (fun _ _ _ h => h) (Or.inl ⟨by kernel_rfl, ?_⟩) (by assumption) ?_
  rotate_left
  · intro w hSw
    try dsimp only at hSw
    first | (go_simp; done) | (go_simp; with_reducible rfl)
  try simp only [Act.put, List.setIfInBounds_toArray, List.set_cons_zero, List.set_cons_succ]
  refine wpAnyH_done (by kernel_rfl) ?_ _
  go_wp2
  exact bodyPost_ret (v := .tuple #[.agg #[.int .i64 f, .int .i32 t, .int .i64 c, .slice none 0 0], .bool false]) (by simp [results, Tryz.results99, go_sem]) rfl
    (FIN.out _ _ (Aid.b3 _ _ _ _).drew)
end Go.Proofs
