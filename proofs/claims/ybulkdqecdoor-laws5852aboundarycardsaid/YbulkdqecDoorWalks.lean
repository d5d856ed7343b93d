import Derived.Test.YbulkdqecDoorProg
import Derived.WalkKit
import Derived.WalkSpells
import Derived.WalkLawsBesides
import Derived.Outline
import Derived.Below
import Derived.LoopN
namespace Go.Proofs.YbulkdqecDoor
open Go.RowKit

/-- What the walks ask of the table 'units': the seconds of a second, a day, a month, a year. -/
structure Units (w : World) : Prop where
  c1 : w.cell? ⟨0, 1, none⟩ = some (.int .i64 1)
  c7 : w.cell? ⟨0, 7, none⟩ = some (.int .i64 86400)
  c11 : w.cell? ⟨0, 11, none⟩ = some (.int .i64 2419200)
  c13 : w.cell? ⟨0, 13, none⟩ = some (.int .i64 31536000)
  sz : 0 < w.heap.size

theorem Units.below {w w' : World} (h : Units w) (hb : Below w.heap.size w w') : Units w' where
  c1 := (hb.cell (p := ⟨0, 1, none⟩) h.sz).trans h.c1
  c7 := (hb.cell (p := ⟨0, 7, none⟩) h.sz).trans h.c7
  c11 := (hb.cell (p := ⟨0, 11, none⟩) h.sz).trans h.c11
  c13 := (hb.cell (p := ⟨0, 13, none⟩) h.sz).trans h.c13
  sz := Nat.lt_of_lt_of_le h.sz hb.size

set_option maxRecDepth 100000 in
set_option maxHeartbeats 1000000 in
theorem bounded_yes (y m d s n : Int) (w : World) (U : Units w) (y1 : -10026 ≤ y) (y2 : y ≤ 10026) (m1 : -130701 ≤ m) (m2 : m ≤ 130701) (d1 : -3659634 ≤ d) (d2 : d ≤ 3659634) (s1 : -316192377600 ≤ s) (s2 : s ≤ 316192377600) :
    Calls Ybad.prog 7 #[.agg #[.int .i64 y, .int .i64 m, .int .i64 d, .int .i64 s, .int .i64 n]] w fun e w' => e = .returned (.bool true) ∧ Below w.heap.size w w' := by
  obtain ⟨c1, c7, c11, c13, sz⟩ := U
  have hne : w.heap.size ≠ 0 := by omega
  go_enter Ybad.func7, Ybad.ntmps7
  go_wp2
  refine wp_loop_rounds 5 ?_
  rw [rounds_succ]
  go_wp2
  rw [rounds_succ]
  go_wp2
  rw [rounds_succ]
  go_wp2
  rw [rounds_succ]
  go_wp2
  rw [rounds_succ]
  go_wp2
  go_ret
  exact ⟨rfl, by repeat' (first | exact Below.refl _ _ | refine Below.alloc ?_ ?_ _ | (simp; done) | (simp; omega))⟩
set_option maxRecDepth 100000 in
set_option maxHeartbeats 1000000 in
theorem bounded_lo_y (y m d s n : Int) (w : World) (U : Units w)  (y1 : y < -10026) :
    Calls Ybad.prog 7 #[.agg #[.int .i64 y, .int .i64 m, .int .i64 d, .int .i64 s, .int .i64 n]] w fun e w' => e = .returned (.bool false) ∧ Below w.heap.size w w' := by
  obtain ⟨c1, c7, c11, c13, sz⟩ := U
  have hne : w.heap.size ≠ 0 := by omega
  go_enter Ybad.func7, Ybad.ntmps7
  go_wp2
  refine wp_loop_rounds 5 ?_
  rw [rounds_succ]
  go_wp2
  go_ret
  exact ⟨rfl, by repeat' (first | exact Below.refl _ _ | refine Below.alloc ?_ ?_ _ | (simp; done) | (simp; omega))⟩
set_option maxRecDepth 100000 in
set_option maxHeartbeats 1000000 in
theorem bounded_hi_y (y m d s n : Int) (w : World) (U : Units w)  (y1 : 10026 < y) :
    Calls Ybad.prog 7 #[.agg #[.int .i64 y, .int .i64 m, .int .i64 d, .int .i64 s, .int .i64 n]] w fun e w' => e = .returned (.bool false) ∧ Below w.heap.size w w' := by
  obtain ⟨c1, c7, c11, c13, sz⟩ := U
  have hne : w.heap.size ≠ 0 := by omega
  go_enter Ybad.func7, Ybad.ntmps7
  go_wp2
  refine wp_loop_rounds 5 ?_
  rw [rounds_succ]
  go_wp2
  go_ret
  exact ⟨rfl, by repeat' (first | exact Below.refl _ _ | refine Below.alloc ?_ ?_ _ | (simp; done) | (simp; omega))⟩
set_option maxRecDepth 100000 in
set_option maxHeartbeats 1000000 in
theorem bounded_lo_m (y m d s n : Int) (w : World) (U : Units w) (y1 : -10026 ≤ y) (y2 : y ≤ 10026) (m1 : m < -130701) :
    Calls Ybad.prog 7 #[.agg #[.int .i64 y, .int .i64 m, .int .i64 d, .int .i64 s, .int .i64 n]] w fun e w' => e = .returned (.bool false) ∧ Below w.heap.size w w' := by
  obtain ⟨c1, c7, c11, c13, sz⟩ := U
  have hne : w.heap.size ≠ 0 := by omega
  go_enter Ybad.func7, Ybad.ntmps7
  go_wp2
  refine wp_loop_rounds 5 ?_
  rw [rounds_succ]
  go_wp2
  rw [rounds_succ]
  go_wp2
  go_ret
  exact ⟨rfl, by repeat' (first | exact Below.refl _ _ | refine Below.alloc ?_ ?_ _ | (simp; done) | (simp; omega))⟩
set_option maxRecDepth 100000 in
set_option maxHeartbeats 1000000 in
theorem bounded_hi_m (y m d s n : Int) (w : World) (U : Units w) (y1 : -10026 ≤ y) (y2 : y ≤ 10026) (m1 : 130701 < m) :
    Calls Ybad.prog 7 #[.agg #[.int .i64 y, .int .i64 m, .int .i64 d, .int .i64 s, .int .i64 n]] w fun e w' => e = .returned (.bool false) ∧ Below w.heap.size w w' := by
  obtain ⟨c1, c7, c11, c13, sz⟩ := U
  have hne : w.heap.size ≠ 0 := by omega
  go_enter Ybad.func7, Ybad.ntmps7
  go_wp2
  refine wp_loop_rounds 5 ?_
  rw [rounds_succ]
  go_wp2
  rw [rounds_succ]
  go_wp2
  go_ret
  exact ⟨rfl, by repeat' (first | exact Below.refl _ _ | refine Below.alloc ?_ ?_ _ | (simp; done) | (simp; omega))⟩
set_option maxRecDepth 100000 in
set_option maxHeartbeats 1000000 in
theorem bounded_lo_d (y m d s n : Int) (w : World) (U : Units w) (y1 : -10026 ≤ y) (y2 : y ≤ 10026) (m1 : -130701 ≤ m) (m2 : m ≤ 130701) (d1 : d < -3659634) :
    Calls Ybad.prog 7 #[.agg #[.int .i64 y, .int .i64 m, .int .i64 d, .int .i64 s, .int .i64 n]] w fun e w' => e = .returned (.bool false) ∧ Below w.heap.size w w' := by
  obtain ⟨c1, c7, c11, c13, sz⟩ := U
  have hne : w.heap.size ≠ 0 := by omega
  go_enter Ybad.func7, Ybad.ntmps7
  go_wp2
  refine wp_loop_rounds 5 ?_
  rw [rounds_succ]
  go_wp2
  rw [rounds_succ]
  go_wp2
  rw [rounds_succ]
  go_wp2
  go_ret
  exact ⟨rfl, by repeat' (first | exact Below.refl _ _ | refine Below.alloc ?_ ?_ _ | (simp; done) | (simp; omega))⟩
set_option maxRecDepth 100000 in
set_option maxHeartbeats 1000000 in
theorem bounded_hi_d (y m d s n : Int) (w : World) (U : Units w) (y1 : -10026 ≤ y) (y2 : y ≤ 10026) (m1 : -130701 ≤ m) (m2 : m ≤ 130701) (d1 : 3659634 < d) :
    Calls Ybad.prog 7 #[.agg #[.int .i64 y, .int .i64 m, .int .i64 d, .int .i64 s, .int .i64 n]] w fun e w' => e = .returned (.bool false) ∧ Below w.heap.size w w' := by
  obtain ⟨c1, c7, c11, c13, sz⟩ := U
  have hne : w.heap.size ≠ 0 := by omega
  go_enter Ybad.func7, Ybad.ntmps7
  go_wp2
  refine wp_loop_rounds 5 ?_
  rw [rounds_succ]
  go_wp2
  rw [rounds_succ]
  go_wp2
  rw [rounds_succ]
  go_wp2
  go_ret
  exact ⟨rfl, by repeat' (first | exact Below.refl _ _ | refine Below.alloc ?_ ?_ _ | (simp; done) | (simp; omega))⟩
set_option maxRecDepth 100000 in
set_option maxHeartbeats 1000000 in
theorem bounded_lo_s (y m d s n : Int) (w : World) (U : Units w) (y1 : -10026 ≤ y) (y2 : y ≤ 10026) (m1 : -130701 ≤ m) (m2 : m ≤ 130701) (d1 : -3659634 ≤ d) (d2 : d ≤ 3659634) (s1 : s < -316192377600) :
    Calls Ybad.prog 7 #[.agg #[.int .i64 y, .int .i64 m, .int .i64 d, .int .i64 s, .int .i64 n]] w fun e w' => e = .returned (.bool false) ∧ Below w.heap.size w w' := by
  obtain ⟨c1, c7, c11, c13, sz⟩ := U
  have hne : w.heap.size ≠ 0 := by omega
  go_enter Ybad.func7, Ybad.ntmps7
  go_wp2
  refine wp_loop_rounds 5 ?_
  rw [rounds_succ]
  go_wp2
  rw [rounds_succ]
  go_wp2
  rw [rounds_succ]
  go_wp2
  rw [rounds_succ]
  go_wp2
  go_ret
  exact ⟨rfl, by repeat' (first | exact Below.refl _ _ | refine Below.alloc ?_ ?_ _ | (simp; done) | (simp; omega))⟩
set_option maxRecDepth 100000 in
set_option maxHeartbeats 1000000 in
theorem bounded_hi_s (y m d s n : Int) (w : World) (U : Units w) (y1 : -10026 ≤ y) (y2 : y ≤ 10026) (m1 : -130701 ≤ m) (m2 : m ≤ 130701) (d1 : -3659634 ≤ d) (d2 : d ≤ 3659634) (s1 : 316192377600 < s) :
    Calls Ybad.prog 7 #[.agg #[.int .i64 y, .int .i64 m, .int .i64 d, .int .i64 s, .int .i64 n]] w fun e w' => e = .returned (.bool false) ∧ Below w.heap.size w w' := by
  obtain ⟨c1, c7, c11, c13, sz⟩ := U
  have hne : w.heap.size ≠ 0 := by omega
  go_enter Ybad.func7, Ybad.ntmps7
  go_wp2
  refine wp_loop_rounds 5 ?_
  rw [rounds_succ]
  go_wp2
  rw [rounds_succ]
  go_wp2
  rw [rounds_succ]
  go_wp2
  rw [rounds_succ]
  go_wp2
  go_ret
  exact ⟨rfl, by repeat' (first | exact Below.refl _ _ | refine Below.alloc ?_ ?_ _ | (simp; done) | (simp; omega))⟩

/-- 'within [-lim, lim]'. -/
def inB (n lim : Int) : Bool := decide (-lim ≤ n ∧ n ≤ lim)
theorem inB_yes {n lim : Int} (h1 : -lim ≤ n) (h2 : n ≤ lim) : inB n lim = true := by simp [inB, h1, h2]
theorem inB_lo {n lim : Int} (h1 : n < -lim) : inB n lim = false := by simp [inB]; omega
theorem inB_hi {n lim : Int} (h1 : lim < n) : inB n lim = false := by simp [inB]; omega

theorem bounded_any (y m d s n : Int) (w : World) (U : Units w) :
    Calls Ybad.prog 7 #[.agg #[.int .i64 y, .int .i64 m, .int .i64 d, .int .i64 s, .int .i64 n]] w fun e w' => e = .returned (.bool (inB y 10026 && (inB m 130701 && (inB d 3659634 && inB s 316192377600)))) ∧ Below w.heap.size w w' := by
  by_cases y1 : y < -10026
  · rw [inB_lo y1]; exact bounded_lo_y y m d s n w U y1
  by_cases y2 : 10026 < y
  · rw [inB_hi y2]; exact bounded_hi_y y m d s n w U y2
  have y3 : -10026 ≤ y := by omega
  have y4 : y ≤ 10026 := by omega
  rw [inB_yes y3 y4]
  by_cases m1 : m < -130701
  · rw [inB_lo m1]; exact bounded_lo_m y m d s n w U y3 y4 m1
  by_cases m2 : 130701 < m
  · rw [inB_hi m2]; exact bounded_hi_m y m d s n w U y3 y4 m2
  have m3 : -130701 ≤ m := by omega
  have m4 : m ≤ 130701 := by omega
  rw [inB_yes m3 m4]
  by_cases d1 : d < -3659634
  · rw [inB_lo d1]; exact bounded_lo_d y m d s n w U y3 y4 m3 m4 d1
  by_cases d2 : 3659634 < d
  · rw [inB_hi d2]; exact bounded_hi_d y m d s n w U y3 y4 m3 m4 d2
  have d3 : -3659634 ≤ d := by omega
  have d4 : d ≤ 3659634 := by omega
  rw [inB_yes d3 d4]
  by_cases s1 : s < -316192377600
  · rw [inB_lo s1]; exact bounded_lo_s y m d s n w U y3 y4 m3 m4 d3 d4 s1
  by_cases s2 : 316192377600 < s
  · rw [inB_hi s2]; exact bounded_hi_s y m d s n w U y3 y4 m3 m4 d3 d4 s2
  have s3 : -316192377600 ≤ s := by omega
  have s4 : s ≤ 316192377600 := by omega
  rw [inB_yes s3 s4]
  exact bounded_yes y m d s n w U y3 y4 m3 m4 d3 d4 s3 s4

end Go.Proofs.YbulkdqecDoor
