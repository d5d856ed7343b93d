import Derived.Test.YbulkdqecDoorLaw
namespace Go.Proofs.YbulkdqecDoor
open Go.RowKit
theorem bounded_is (y m d s n : Int) (w : World) (U : Units w) (b : Bool) (h : (inB y 10026 && (inB m 130701 && (inB d 3659634 && inB s 316192377600))) = b) :
    Calls Ybad.prog 7 #[.agg #[.int .i64 y, .int .i64 m, .int .i64 d, .int .i64 s, .int .i64 n]] w fun e w' => e = .returned (.bool b) ∧ Below w.heap.size w w' := by
  subst h
  exact bounded_any y m d s n w U
theorem near {lim off : Int} (h0 : 1000 ≤ lim) (o1 : -128 ≤ off) (o2 : off ≤ 127) : inB (lim + off) lim = decide (off ≤ 0) := by
  by_cases h : off ≤ 0
  · rw [inB_yes (by omega) (by omega)]; simp [h]
  · rw [inB_hi (by omega)]; simp [h]
theorem near_neg {lim off : Int} (h0 : 1000 ≤ lim) (o1 : -128 ≤ off) (o2 : off ≤ 127) : inB (-(lim + off)) lim = decide (off ≤ 0) := by
  by_cases h : off ≤ 0
  · rw [inB_yes (by omega) (by omega)]; simp [h]
  · rw [inB_lo (by omega)]; simp [h]
theorem zero_in {lim : Int} (h : 0 ≤ lim) : inB 0 lim = true := inB_yes (by omega) h

set_option maxRecDepth 100000 in
set_option maxHeartbeats 1000000 in
theorem bound_0_pos (sel off nanos : Int) (w : World) (U : Hid (Units w)) (s0 : 0 ≤ sel) (s1 : sel ≤ 255) (o1 : -128 ≤ off) (o2 : off ≤ 127) (hi : sel % 4 = 0) (b : Bool) (hb : decide (off ≤ 0) = b) :
    Calls Ybad.prog 4 #[.int .u8 sel, .int .i8 off, .bool false, .int .i64 nanos] w fun e w' => e = .returned (.bool true) ∧ Below w.heap.size w w' := by
  have F7 : Hid (∀ w, Units w → Calls Ybad.prog 7 #[.agg #[.int .i64 (10026 + off), .int .i64 (0), .int .i64 (0), .int .i64 (0), .int .i64 nanos]] w fun e w' => e = .returned (.bool b) ∧ Below w.heap.size w w') :=
    fun w U => bounded_is (10026 + off) 0 0 0 nanos w U b (by rw [near (by omega) o1 o2]; rw [zero_in (lim := 130701) (by omega)]; rw [zero_in (lim := 3659634) (by omega)]; rw [zero_in (lim := 316192377600) (by omega)]; simp [hb])
  go_enter Ybad.func4, Ybad.ntmps4
  go_wp2_with fail
  refine (limit_0 _).mono ?_
  rintro e w' ⟨rfl, rfl⟩
  go_wp2_with fail
  refine (F7.out _ (U.out.below ?hU)).mono ?_
  case hU => repeat' (first | exact Below.refl _ _ | refine Below.alloc ?_ ?_ _ | refine Below.setCell ?_ ?_ _ | exact Nat.le_refl _ | (simp; done) | (simp; omega))
  rintro e w' ⟨rfl, hb⟩
  go_wp2
  go_ret
  exact ⟨rfl, Below.trans (by repeat' (first | exact Below.refl _ _ | refine Below.alloc ?_ ?_ _ | refine Below.setCell ?_ ?_ _ | exact Nat.le_refl _ | (simp; done) | (simp; omega))) (hb.mono (by simp))⟩
set_option maxRecDepth 100000 in
set_option maxHeartbeats 1000000 in
theorem bound_0_neg (sel off nanos : Int) (w : World) (U : Hid (Units w)) (s0 : 0 ≤ sel) (s1 : sel ≤ 255) (o1 : -128 ≤ off) (o2 : off ≤ 127) (hi : sel % 4 = 0) (b : Bool) (hb : decide (off ≤ 0) = b) :
    Calls Ybad.prog 4 #[.int .u8 sel, .int .i8 off, .bool true, .int .i64 nanos] w fun e w' => e = .returned (.bool true) ∧ Below w.heap.size w w' := by
  have F7 : Hid (∀ w, Units w → Calls Ybad.prog 7 #[.agg #[.int .i64 (-(10026 + off)), .int .i64 (0), .int .i64 (0), .int .i64 (0), .int .i64 nanos]] w fun e w' => e = .returned (.bool b) ∧ Below w.heap.size w w') :=
    fun w U => bounded_is (-(10026 + off)) 0 0 0 nanos w U b (by rw [near_neg (by omega) o1 o2]; rw [zero_in (lim := 130701) (by omega)]; rw [zero_in (lim := 3659634) (by omega)]; rw [zero_in (lim := 316192377600) (by omega)]; simp [hb])
  go_enter Ybad.func4, Ybad.ntmps4
  go_wp2_with fail
  refine (limit_0 _).mono ?_
  rintro e w' ⟨rfl, rfl⟩
  go_wp2_with fail
  refine (F7.out _ (U.out.below ?hU)).mono ?_
  case hU => repeat' (first | exact Below.refl _ _ | refine Below.alloc ?_ ?_ _ | refine Below.setCell ?_ ?_ _ | exact Nat.le_refl _ | (simp; done) | (simp; omega))
  rintro e w' ⟨rfl, hb⟩
  go_wp2
  go_ret
  exact ⟨rfl, Below.trans (by repeat' (first | exact Below.refl _ _ | refine Below.alloc ?_ ?_ _ | refine Below.setCell ?_ ?_ _ | exact Nat.le_refl _ | (simp; done) | (simp; omega))) (hb.mono (by simp))⟩
set_option maxRecDepth 100000 in
set_option maxHeartbeats 1000000 in
theorem bound_1_pos (sel off nanos : Int) (w : World) (U : Hid (Units w)) (s0 : 0 ≤ sel) (s1 : sel ≤ 255) (o1 : -128 ≤ off) (o2 : off ≤ 127) (hi : sel % 4 = 1) (b : Bool) (hb : decide (off ≤ 0) = b) :
    Calls Ybad.prog 4 #[.int .u8 sel, .int .i8 off, .bool false, .int .i64 nanos] w fun e w' => e = .returned (.bool true) ∧ Below w.heap.size w w' := by
  have F7 : Hid (∀ w, Units w → Calls Ybad.prog 7 #[.agg #[.int .i64 (0), .int .i64 (130701 + off), .int .i64 (0), .int .i64 (0), .int .i64 nanos]] w fun e w' => e = .returned (.bool b) ∧ Below w.heap.size w w') :=
    fun w U => bounded_is 0 (130701 + off) 0 0 nanos w U b (by rw [zero_in (lim := 10026) (by omega)]; rw [near (by omega) o1 o2]; rw [zero_in (lim := 3659634) (by omega)]; rw [zero_in (lim := 316192377600) (by omega)]; simp [hb])
  go_enter Ybad.func4, Ybad.ntmps4
  go_wp2_with fail
  refine (limit_1 _).mono ?_
  rintro e w' ⟨rfl, rfl⟩
  go_wp2_with fail
  refine (F7.out _ (U.out.below ?hU)).mono ?_
  case hU => repeat' (first | exact Below.refl _ _ | refine Below.alloc ?_ ?_ _ | refine Below.setCell ?_ ?_ _ | exact Nat.le_refl _ | (simp; done) | (simp; omega))
  rintro e w' ⟨rfl, hb⟩
  go_wp2
  go_ret
  exact ⟨rfl, Below.trans (by repeat' (first | exact Below.refl _ _ | refine Below.alloc ?_ ?_ _ | refine Below.setCell ?_ ?_ _ | exact Nat.le_refl _ | (simp; done) | (simp; omega))) (hb.mono (by simp))⟩
set_option maxRecDepth 100000 in
set_option maxHeartbeats 1000000 in
theorem bound_1_neg (sel off nanos : Int) (w : World) (U : Hid (Units w)) (s0 : 0 ≤ sel) (s1 : sel ≤ 255) (o1 : -128 ≤ off) (o2 : off ≤ 127) (hi : sel % 4 = 1) (b : Bool) (hb : decide (off ≤ 0) = b) :
    Calls Ybad.prog 4 #[.int .u8 sel, .int .i8 off, .bool true, .int .i64 nanos] w fun e w' => e = .returned (.bool true) ∧ Below w.heap.size w w' := by
  have F7 : Hid (∀ w, Units w → Calls Ybad.prog 7 #[.agg #[.int .i64 (0), .int .i64 (-(130701 + off)), .int .i64 (0), .int .i64 (0), .int .i64 nanos]] w fun e w' => e = .returned (.bool b) ∧ Below w.heap.size w w') :=
    fun w U => bounded_is 0 (-(130701 + off)) 0 0 nanos w U b (by rw [zero_in (lim := 10026) (by omega)]; rw [near_neg (by omega) o1 o2]; rw [zero_in (lim := 3659634) (by omega)]; rw [zero_in (lim := 316192377600) (by omega)]; simp [hb])
  go_enter Ybad.func4, Ybad.ntmps4
  go_wp2_with fail
  refine (limit_1 _).mono ?_
  rintro e w' ⟨rfl, rfl⟩
  go_wp2_with fail
  refine (F7.out _ (U.out.below ?hU)).mono ?_
  case hU => repeat' (first | exact Below.refl _ _ | refine Below.alloc ?_ ?_ _ | refine Below.setCell ?_ ?_ _ | exact Nat.le_refl _ | (simp; done) | (simp; omega))
  rintro e w' ⟨rfl, hb⟩
  go_wp2
  go_ret
  exact ⟨rfl, Below.trans (by repeat' (first | exact Below.refl _ _ | refine Below.alloc ?_ ?_ _ | refine Below.setCell ?_ ?_ _ | exact Nat.le_refl _ | (simp; done) | (simp; omega))) (hb.mono (by simp))⟩
set_option maxRecDepth 100000 in
set_option maxHeartbeats 1000000 in
theorem bound_2_pos (sel off nanos : Int) (w : World) (U : Hid (Units w)) (s0 : 0 ≤ sel) (s1 : sel ≤ 255) (o1 : -128 ≤ off) (o2 : off ≤ 127) (hi : sel % 4 = 2) (b : Bool) (hb : decide (off ≤ 0) = b) :
    Calls Ybad.prog 4 #[.int .u8 sel, .int .i8 off, .bool false, .int .i64 nanos] w fun e w' => e = .returned (.bool true) ∧ Below w.heap.size w w' := by
  have F7 : Hid (∀ w, Units w → Calls Ybad.prog 7 #[.agg #[.int .i64 (0), .int .i64 (0), .int .i64 (3659634 + off), .int .i64 (0), .int .i64 nanos]] w fun e w' => e = .returned (.bool b) ∧ Below w.heap.size w w') :=
    fun w U => bounded_is 0 0 (3659634 + off) 0 nanos w U b (by rw [zero_in (lim := 10026) (by omega)]; rw [zero_in (lim := 130701) (by omega)]; rw [near (by omega) o1 o2]; rw [zero_in (lim := 316192377600) (by omega)]; simp [hb])
  go_enter Ybad.func4, Ybad.ntmps4
  go_wp2_with fail
  refine (limit_2 _).mono ?_
  rintro e w' ⟨rfl, rfl⟩
  go_wp2_with fail
  refine (F7.out _ (U.out.below ?hU)).mono ?_
  case hU => repeat' (first | exact Below.refl _ _ | refine Below.alloc ?_ ?_ _ | refine Below.setCell ?_ ?_ _ | exact Nat.le_refl _ | (simp; done) | (simp; omega))
  rintro e w' ⟨rfl, hb⟩
  go_wp2
  go_ret
  exact ⟨rfl, Below.trans (by repeat' (first | exact Below.refl _ _ | refine Below.alloc ?_ ?_ _ | refine Below.setCell ?_ ?_ _ | exact Nat.le_refl _ | (simp; done) | (simp; omega))) (hb.mono (by simp))⟩
set_option maxRecDepth 100000 in
set_option maxHeartbeats 1000000 in
theorem bound_2_neg (sel off nanos : Int) (w : World) (U : Hid (Units w)) (s0 : 0 ≤ sel) (s1 : sel ≤ 255) (o1 : -128 ≤ off) (o2 : off ≤ 127) (hi : sel % 4 = 2) (b : Bool) (hb : decide (off ≤ 0) = b) :
    Calls Ybad.prog 4 #[.int .u8 sel, .int .i8 off, .bool true, .int .i64 nanos] w fun e w' => e = .returned (.bool true) ∧ Below w.heap.size w w' := by
  have F7 : Hid (∀ w, Units w → Calls Ybad.prog 7 #[.agg #[.int .i64 (0), .int .i64 (0), .int .i64 (-(3659634 + off)), .int .i64 (0), .int .i64 nanos]] w fun e w' => e = .returned (.bool b) ∧ Below w.heap.size w w') :=
    fun w U => bounded_is 0 0 (-(3659634 + off)) 0 nanos w U b (by rw [zero_in (lim := 10026) (by omega)]; rw [zero_in (lim := 130701) (by omega)]; rw [near_neg (by omega) o1 o2]; rw [zero_in (lim := 316192377600) (by omega)]; simp [hb])
  go_enter Ybad.func4, Ybad.ntmps4
  go_wp2_with fail
  refine (limit_2 _).mono ?_
  rintro e w' ⟨rfl, rfl⟩
  go_wp2_with fail
  refine (F7.out _ (U.out.below ?hU)).mono ?_
  case hU => repeat' (first | exact Below.refl _ _ | refine Below.alloc ?_ ?_ _ | refine Below.setCell ?_ ?_ _ | exact Nat.le_refl _ | (simp; done) | (simp; omega))
  rintro e w' ⟨rfl, hb⟩
  go_wp2
  go_ret
  exact ⟨rfl, Below.trans (by repeat' (first | exact Below.refl _ _ | refine Below.alloc ?_ ?_ _ | refine Below.setCell ?_ ?_ _ | exact Nat.le_refl _ | (simp; done) | (simp; omega))) (hb.mono (by simp))⟩
set_option maxRecDepth 100000 in
set_option maxHeartbeats 1000000 in
theorem bound_3_pos (sel off nanos : Int) (w : World) (U : Hid (Units w)) (s0 : 0 ≤ sel) (s1 : sel ≤ 255) (o1 : -128 ≤ off) (o2 : off ≤ 127) (hi : sel % 4 = 3) (b : Bool) (hb : decide (off ≤ 0) = b) :
    Calls Ybad.prog 4 #[.int .u8 sel, .int .i8 off, .bool false, .int .i64 nanos] w fun e w' => e = .returned (.bool true) ∧ Below w.heap.size w w' := by
  have F7 : Hid (∀ w, Units w → Calls Ybad.prog 7 #[.agg #[.int .i64 (0), .int .i64 (0), .int .i64 (0), .int .i64 (316192377600 + off), .int .i64 nanos]] w fun e w' => e = .returned (.bool b) ∧ Below w.heap.size w w') :=
    fun w U => bounded_is 0 0 0 (316192377600 + off) nanos w U b (by rw [zero_in (lim := 10026) (by omega)]; rw [zero_in (lim := 130701) (by omega)]; rw [zero_in (lim := 3659634) (by omega)]; rw [near (by omega) o1 o2]; simp [hb])
  go_enter Ybad.func4, Ybad.ntmps4
  go_wp2_with fail
  refine (limit_3 _).mono ?_
  rintro e w' ⟨rfl, rfl⟩
  go_wp2_with fail
  refine (F7.out _ (U.out.below ?hU)).mono ?_
  case hU => repeat' (first | exact Below.refl _ _ | refine Below.alloc ?_ ?_ _ | refine Below.setCell ?_ ?_ _ | exact Nat.le_refl _ | (simp; done) | (simp; omega))
  rintro e w' ⟨rfl, hb⟩
  go_wp2
  go_ret
  exact ⟨rfl, Below.trans (by repeat' (first | exact Below.refl _ _ | refine Below.alloc ?_ ?_ _ | refine Below.setCell ?_ ?_ _ | exact Nat.le_refl _ | (simp; done) | (simp; omega))) (hb.mono (by simp))⟩
set_option maxRecDepth 100000 in
set_option maxHeartbeats 1000000 in
theorem bound_3_neg (sel off nanos : Int) (w : World) (U : Hid (Units w)) (s0 : 0 ≤ sel) (s1 : sel ≤ 255) (o1 : -128 ≤ off) (o2 : off ≤ 127) (hi : sel % 4 = 3) (b : Bool) (hb : decide (off ≤ 0) = b) :
    Calls Ybad.prog 4 #[.int .u8 sel, .int .i8 off, .bool true, .int .i64 nanos] w fun e w' => e = .returned (.bool true) ∧ Below w.heap.size w w' := by
  have F7 : Hid (∀ w, Units w → Calls Ybad.prog 7 #[.agg #[.int .i64 (0), .int .i64 (0), .int .i64 (0), .int .i64 (-(316192377600 + off)), .int .i64 nanos]] w fun e w' => e = .returned (.bool b) ∧ Below w.heap.size w w') :=
    fun w U => bounded_is 0 0 0 (-(316192377600 + off)) nanos w U b (by rw [zero_in (lim := 10026) (by omega)]; rw [zero_in (lim := 130701) (by omega)]; rw [zero_in (lim := 3659634) (by omega)]; rw [near_neg (by omega) o1 o2]; simp [hb])
  go_enter Ybad.func4, Ybad.ntmps4
  go_wp2_with fail
  refine (limit_3 _).mono ?_
  rintro e w' ⟨rfl, rfl⟩
  go_wp2_with fail
  refine (F7.out _ (U.out.below ?hU)).mono ?_
  case hU => repeat' (first | exact Below.refl _ _ | refine Below.alloc ?_ ?_ _ | refine Below.setCell ?_ ?_ _ | exact Nat.le_refl _ | (simp; done) | (simp; omega))
  rintro e w' ⟨rfl, hb⟩
  go_wp2
  go_ret
  exact ⟨rfl, Below.trans (by repeat' (first | exact Below.refl _ _ | refine Below.alloc ?_ ?_ _ | refine Below.setCell ?_ ?_ _ | exact Nat.le_refl _ | (simp; done) | (simp; omega))) (hb.mono (by simp))⟩
end Go.Proofs.YbulkdqecDoor
