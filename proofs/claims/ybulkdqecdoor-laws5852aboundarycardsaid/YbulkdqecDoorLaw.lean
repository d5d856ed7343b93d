import Derived.Test.YbulkdqecDoorWalks
namespace Go.Proofs.YbulkdqecDoor
open Go.RowKit
set_option linter.unusedSimpArgs false
set_option maxHeartbeats 400000 in
theorem limit_0 (w : World) : Calls Ybad.prog 6 #[.int .i64 0] w fun e w' => e = .returned (.int .i64 10026) ∧ w' = w := by
  go_enter Ybad.func6, Ybad.ntmps6
  go_wp2
  go_ret
  exact ⟨rfl, rfl⟩
set_option maxHeartbeats 400000 in
theorem limit_1 (w : World) : Calls Ybad.prog 6 #[.int .i64 1] w fun e w' => e = .returned (.int .i64 130701) ∧ w' = w := by
  go_enter Ybad.func6, Ybad.ntmps6
  go_wp2
  go_ret
  exact ⟨rfl, rfl⟩
set_option maxHeartbeats 400000 in
theorem limit_2 (w : World) : Calls Ybad.prog 6 #[.int .i64 2] w fun e w' => e = .returned (.int .i64 3659634) ∧ w' = w := by
  go_enter Ybad.func6, Ybad.ntmps6
  go_wp2
  go_ret
  exact ⟨rfl, rfl⟩
set_option maxHeartbeats 400000 in
theorem limit_3 (w : World) : Calls Ybad.prog 6 #[.int .i64 3] w fun e w' => e = .returned (.int .i64 316192377600) ∧ w' = w := by
  go_enter Ybad.func6, Ybad.ntmps6
  go_wp2
  go_ret
  exact ⟨rfl, rfl⟩

set_option maxHeartbeats 400000 in
theorem in_any (n lim : Int) (w : World) (h0 : 0 ≤ lim) (h1 : lim ≤ 1000000000000) : Calls Ybad.prog 5 #[.int .i64 n, .int .i64 lim] w fun e w' => e = .returned (.bool (inB n lim)) ∧ w' = w := by
  by_cases g1 : n < -lim
  · rw [inB_lo g1]
    go_enter Ybad.func5, Ybad.ntmps5
    go_wp2
    go_ret
    exact ⟨rfl, rfl⟩
  by_cases g2 : lim < n
  · rw [inB_hi g2]
    have g3 : decide (n ≤ lim) = false := by simp; omega
    go_enter Ybad.func5, Ybad.ntmps5
    go_wp2
    go_ret
    exact ⟨rfl, rfl⟩
  have g3 : -lim ≤ n := by omega
  have g4 : n ≤ lim := by omega
  rw [inB_yes g3 g4]
  go_enter Ybad.func5, Ybad.ntmps5
  go_wp2
  go_ret
  exact ⟨rfl, rfl⟩

theorem five {w w' : World} {x0 x1 x2 x3 x4 : Value} (hb : Below (w.alloc (.cells #[x0, x1, x2, x3, x4] 23)).heap.size (w.alloc (.cells #[x0, x1, x2, x3, x4] 23)) w') (o : Obj) :
    (w'.alloc o).cell? ⟨w.heap.size, 0, none⟩ = some x0 ∧ (w'.alloc o).cell? ⟨w.heap.size, 1, none⟩ = some x1 ∧ (w'.alloc o).cell? ⟨w.heap.size, 2, none⟩ = some x2 ∧
    (w'.alloc o).cell? ⟨w.heap.size, 3, none⟩ = some x3 ∧ (w'.alloc o).cell? ⟨w.heap.size, 4, none⟩ = some x4 := by
  have h1 := hb.alloc hb.size o
  refine ⟨(h1.cell (p := ⟨w.heap.size, 0, none⟩) (by simp)).trans ?_, (h1.cell (p := ⟨w.heap.size, 1, none⟩) (by simp)).trans ?_, (h1.cell (p := ⟨w.heap.size, 2, none⟩) (by simp)).trans ?_, (h1.cell (p := ⟨w.heap.size, 3, none⟩) (by simp)).trans ?_, (h1.cell (p := ⟨w.heap.size, 4, none⟩) (by simp)).trans ?_⟩ <;> simp

set_option maxRecDepth 100000 in
set_option maxHeartbeats 1000000 in
theorem whole_any (y m d s n : Int) (w : World) (U : Units w) :
    Calls Ybad.prog 3 #[.int .i64 y, .int .i64 m, .int .i64 d, .int .i64 s, .int .i64 n] w fun e w' => e = .returned (.bool true) ∧ Below w.heap.size w w' := by
  have HU : Hid (Units w) := U
  have F5y : Hid (∀ w, Calls Ybad.prog 5 #[.int .i64 y, .int .i64 10026] w fun e w' => e = .returned (.bool (inB y 10026)) ∧ w' = w) := fun w => in_any y 10026 w (by omega) (by omega)
  have F5m : Hid (∀ w, Calls Ybad.prog 5 #[.int .i64 m, .int .i64 130701] w fun e w' => e = .returned (.bool (inB m 130701)) ∧ w' = w) := fun w => in_any m 130701 w (by omega) (by omega)
  have F5d : Hid (∀ w, Calls Ybad.prog 5 #[.int .i64 d, .int .i64 3659634] w fun e w' => e = .returned (.bool (inB d 3659634)) ∧ w' = w) := fun w => in_any d 3659634 w (by omega) (by omega)
  have F5s : Hid (∀ w, Calls Ybad.prog 5 #[.int .i64 s, .int .i64 316192377600] w fun e w' => e = .returned (.bool (inB s 316192377600)) ∧ w' = w) := fun w => in_any s 316192377600 w (by omega) (by omega)
  have F7 : Hid (∀ w, Units w → Calls Ybad.prog 7 #[.agg #[.int .i64 y, .int .i64 m, .int .i64 d, .int .i64 s, .int .i64 n]] w fun e w' => e = .returned (.bool (inB y 10026 && (inB m 130701 && (inB d 3659634 && inB s 316192377600)))) ∧ Below w.heap.size w w') := fun w U => bounded_any y m d s n w U
  clear U
  generalize inB y 10026 = B1 at *
  generalize inB m 130701 = B2 at *
  generalize inB d 3659634 = B3 at *
  generalize inB s 316192377600 = B4 at *
  cases B1
  · simp only [Bool.and_false, Bool.false_and, Bool.and_true, Bool.true_and] at F7
    go_enter Ybad.func3, Ybad.ntmps3
    go_wp2_with fail
    refine (limit_0 _).mono ?_
    rintro e w' ⟨rfl, rfl⟩
    go_wp2_with fail
    refine (F5y.out _).mono ?_
    rintro e w' ⟨rfl, rfl⟩
    go_wp2_with fail
    refine (F7.out _ (HU.out.below ((Below.refl _ _).alloc (Nat.le_refl _) _))).mono ?_
    rintro e w' ⟨rfl, hb⟩
    obtain ⟨k0, k1, k2, k3, k4⟩ := five hb (.cells #[.int .i64 y, .int .i64 m, .int .i64 d, .int .i64 s, .int .i64 n] 23)
    have hz := hb.size
    rw [World.size_alloc] at hz
    go_wp2
    go_ret
    exact ⟨rfl, ((((Below.refl _ _).alloc (Nat.le_refl _) _).trans (hb.mono (by simp))).alloc (by omega) _)⟩
  cases B2
  · simp only [Bool.and_false, Bool.false_and, Bool.and_true, Bool.true_and] at F7
    go_enter Ybad.func3, Ybad.ntmps3
    go_wp2_with fail
    refine (limit_0 _).mono ?_
    rintro e w' ⟨rfl, rfl⟩
    go_wp2_with fail
    refine (F5y.out _).mono ?_
    rintro e w' ⟨rfl, rfl⟩
    go_wp2_with fail
    refine (limit_1 _).mono ?_
    rintro e w' ⟨rfl, rfl⟩
    go_wp2_with fail
    refine (F5m.out _).mono ?_
    rintro e w' ⟨rfl, rfl⟩
    go_wp2_with fail
    refine (F7.out _ (HU.out.below ((Below.refl _ _).alloc (Nat.le_refl _) _))).mono ?_
    rintro e w' ⟨rfl, hb⟩
    obtain ⟨k0, k1, k2, k3, k4⟩ := five hb (.cells #[.int .i64 y, .int .i64 m, .int .i64 d, .int .i64 s, .int .i64 n] 23)
    have hz := hb.size
    rw [World.size_alloc] at hz
    go_wp2
    go_ret
    exact ⟨rfl, ((((Below.refl _ _).alloc (Nat.le_refl _) _).trans (hb.mono (by simp))).alloc (by omega) _)⟩
  cases B3
  · simp only [Bool.and_false, Bool.false_and, Bool.and_true, Bool.true_and] at F7
    go_enter Ybad.func3, Ybad.ntmps3
    go_wp2_with fail
    refine (limit_0 _).mono ?_
    rintro e w' ⟨rfl, rfl⟩
    go_wp2_with fail
    refine (F5y.out _).mono ?_
    rintro e w' ⟨rfl, rfl⟩
    go_wp2_with fail
    refine (limit_1 _).mono ?_
    rintro e w' ⟨rfl, rfl⟩
    go_wp2_with fail
    refine (F5m.out _).mono ?_
    rintro e w' ⟨rfl, rfl⟩
    go_wp2_with fail
    refine (limit_2 _).mono ?_
    rintro e w' ⟨rfl, rfl⟩
    go_wp2_with fail
    refine (F5d.out _).mono ?_
    rintro e w' ⟨rfl, rfl⟩
    go_wp2_with fail
    refine (F7.out _ (HU.out.below ((Below.refl _ _).alloc (Nat.le_refl _) _))).mono ?_
    rintro e w' ⟨rfl, hb⟩
    obtain ⟨k0, k1, k2, k3, k4⟩ := five hb (.cells #[.int .i64 y, .int .i64 m, .int .i64 d, .int .i64 s, .int .i64 n] 23)
    have hz := hb.size
    rw [World.size_alloc] at hz
    go_wp2
    go_ret
    exact ⟨rfl, ((((Below.refl _ _).alloc (Nat.le_refl _) _).trans (hb.mono (by simp))).alloc (by omega) _)⟩
  cases B4
  · simp only [Bool.and_false, Bool.false_and, Bool.and_true, Bool.true_and] at F7
    go_enter Ybad.func3, Ybad.ntmps3
    go_wp2_with fail
    refine (limit_0 _).mono ?_
    rintro e w' ⟨rfl, rfl⟩
    go_wp2_with fail
    refine (F5y.out _).mono ?_
    rintro e w' ⟨rfl, rfl⟩
    go_wp2_with fail
    refine (limit_1 _).mono ?_
    rintro e w' ⟨rfl, rfl⟩
    go_wp2_with fail
    refine (F5m.out _).mono ?_
    rintro e w' ⟨rfl, rfl⟩
    go_wp2_with fail
    refine (limit_2 _).mono ?_
    rintro e w' ⟨rfl, rfl⟩
    go_wp2_with fail
    refine (F5d.out _).mono ?_
    rintro e w' ⟨rfl, rfl⟩
    go_wp2_with fail
    refine (limit_3 _).mono ?_
    rintro e w' ⟨rfl, rfl⟩
    go_wp2_with fail
    refine (F5s.out _).mono ?_
    rintro e w' ⟨rfl, rfl⟩
    go_wp2_with fail
    refine (F7.out _ (HU.out.below ((Below.refl _ _).alloc (Nat.le_refl _) _))).mono ?_
    rintro e w' ⟨rfl, hb⟩
    obtain ⟨k0, k1, k2, k3, k4⟩ := five hb (.cells #[.int .i64 y, .int .i64 m, .int .i64 d, .int .i64 s, .int .i64 n] 23)
    have hz := hb.size
    rw [World.size_alloc] at hz
    go_wp2
    go_ret
    exact ⟨rfl, ((((Below.refl _ _).alloc (Nat.le_refl _) _).trans (hb.mono (by simp))).alloc (by omega) _)⟩
  simp only [Bool.and_false, Bool.false_and, Bool.and_true, Bool.true_and] at F7
  go_enter Ybad.func3, Ybad.ntmps3
  go_wp2_with fail
  refine (limit_0 _).mono ?_
  rintro e w' ⟨rfl, rfl⟩
  go_wp2_with fail
  refine (F5y.out _).mono ?_
  rintro e w' ⟨rfl, rfl⟩
  go_wp2_with fail
  refine (limit_1 _).mono ?_
  rintro e w' ⟨rfl, rfl⟩
  go_wp2_with fail
  refine (F5m.out _).mono ?_
  rintro e w' ⟨rfl, rfl⟩
  go_wp2_with fail
  refine (limit_2 _).mono ?_
  rintro e w' ⟨rfl, rfl⟩
  go_wp2_with fail
  refine (F5d.out _).mono ?_
  rintro e w' ⟨rfl, rfl⟩
  go_wp2_with fail
  refine (limit_3 _).mono ?_
  rintro e w' ⟨rfl, rfl⟩
  go_wp2_with fail
  refine (F5s.out _).mono ?_
  rintro e w' ⟨rfl, rfl⟩
  go_wp2_with fail
  refine (F7.out _ (HU.out.below ((Below.refl _ _).alloc (Nat.le_refl _) _))).mono ?_
  rintro e w' ⟨rfl, hb⟩
  obtain ⟨k0, k1, k2, k3, k4⟩ := five hb (.cells #[.int .i64 y, .int .i64 m, .int .i64 d, .int .i64 s, .int .i64 n] 23)
  have hz := hb.size
  rw [World.size_alloc] at hz
  go_wp2
  go_ret
  exact ⟨rfl, ((((Below.refl _ _).alloc (Nat.le_refl _) _).trans (hb.mono (by simp))).alloc (by omega) _)⟩
end Go.Proofs.YbulkdqecDoor
