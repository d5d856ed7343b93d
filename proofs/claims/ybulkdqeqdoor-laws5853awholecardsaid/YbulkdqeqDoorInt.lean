import Derived.Test.YbulkdqeqDoorAppend
namespace Go.Proofs.YbulkdqeqDoor
open Go.RowKit
set_option maxRecDepth 100000 in
set_option maxHeartbeats 400000 in
theorem small_1 (w : World) : Calls Ybad.prog 31 #[.int .i64 1] w fun e w' => e = .returned (.string ⟨#[49]⟩) ∧ w' = w := by
  go_enter Ybad.func31, Ybad.ntmps31
  go_wp2
  go_ret
  exact ⟨rfl, rfl⟩
set_option maxRecDepth 100000 in
set_option maxHeartbeats 400000 in
theorem auint_1 (w : World) (g n cap : Nat) (xs : List UInt8) (hn : Hid (n = xs.length)) (hB : Hid (Buf w g cap xs)) (hb : Hid (xs.length ≤ 2097152)) :
    Calls Ybad.prog 29 #[.slice (some ⟨g, 0, none⟩) n cap, .int .u64 1, .int .i64 10] w fun e w' => AP w g (xs ++ [49]) e w' := by
  go_enter Ybad.func29, Ybad.ntmps29
  go_wp2_with (first | (go_at_call 31; refine (small_1 _).mono ?_; rintro e w' ⟨rfl, rfl⟩) | (at_builtin; refine wpList_ap rfl (.tmp 13) (.tmp 16) 9 rfl g cap xs [49] n hn.out rfl hB.out (SrcB.string _ ⟨#[49]⟩) (by have := hb.out; simp; omega) ?_; intro g1 n1 c1 w1 hn1 hB1 hS1))
  go_ret
  exact ⟨g1, n1, c1, hn1, rfl, hB1, hS1⟩
set_option maxRecDepth 100000 in
set_option maxHeartbeats 400000 in
theorem aint_1 (w : World) (g n cap : Nat) (xs : List UInt8) (hn : Hid (n = xs.length)) (hB : Hid (Buf w g cap xs)) (hb : Hid (xs.length ≤ 2097152)) :
    Calls Ybad.prog 25 #[.slice (some ⟨g, 0, none⟩) n cap, .int .i64 1, .int .i64 10] w fun e w' => AP w g (xs ++ [49]) e w' := by
  go_enter Ybad.func25, Ybad.ntmps25
  go_wp2_with (go_at_call 29; refine (auint_1 _ g n cap xs hn hB hb).mono ?_; rintro e w' ⟨g1, n1, c1, hn1, rfl, hB1, hS1⟩)
  go_ret
  exact ⟨g1, n1, c1, hn1, rfl, hB1, hS1⟩
set_option maxRecDepth 100000 in
set_option maxHeartbeats 400000 in
theorem sint_1 (w : World) (g n cap : Nat) (xs : List UInt8) (hn : Hid (n = xs.length)) (hB : Hid (Buf w g cap xs)) (hb : Hid (xs.length ≤ 2097152)) :
    Calls Ybad.prog 18 #[.slice (some ⟨g, 0, none⟩) n cap, .int .i64 1, .int .i64 10] w fun e w' => AP w g (xs ++ [49]) e w' := by
  go_enter Ybad.func18, Ybad.ntmps18
  go_wp2_with (go_at_call 25; refine (aint_1 _ g n cap xs hn hB hb).mono ?_; rintro e w' ⟨g1, n1, c1, hn1, rfl, hB1, hS1⟩)
  go_ret
  exact ⟨g1, n1, c1, hn1, rfl, hB1, hS1⟩
set_option maxRecDepth 100000 in
set_option maxHeartbeats 400000 in
theorem small_2 (w : World) : Calls Ybad.prog 31 #[.int .i64 2] w fun e w' => e = .returned (.string ⟨#[50]⟩) ∧ w' = w := by
  go_enter Ybad.func31, Ybad.ntmps31
  go_wp2
  go_ret
  exact ⟨rfl, rfl⟩
set_option maxRecDepth 100000 in
set_option maxHeartbeats 400000 in
theorem auint_2 (w : World) (g n cap : Nat) (xs : List UInt8) (hn : Hid (n = xs.length)) (hB : Hid (Buf w g cap xs)) (hb : Hid (xs.length ≤ 2097152)) :
    Calls Ybad.prog 29 #[.slice (some ⟨g, 0, none⟩) n cap, .int .u64 2, .int .i64 10] w fun e w' => AP w g (xs ++ [50]) e w' := by
  go_enter Ybad.func29, Ybad.ntmps29
  go_wp2_with (first | (go_at_call 31; refine (small_2 _).mono ?_; rintro e w' ⟨rfl, rfl⟩) | (at_builtin; refine wpList_ap rfl (.tmp 13) (.tmp 16) 9 rfl g cap xs [50] n hn.out rfl hB.out (SrcB.string _ ⟨#[50]⟩) (by have := hb.out; simp; omega) ?_; intro g1 n1 c1 w1 hn1 hB1 hS1))
  go_ret
  exact ⟨g1, n1, c1, hn1, rfl, hB1, hS1⟩
set_option maxRecDepth 100000 in
set_option maxHeartbeats 400000 in
theorem aint_2 (w : World) (g n cap : Nat) (xs : List UInt8) (hn : Hid (n = xs.length)) (hB : Hid (Buf w g cap xs)) (hb : Hid (xs.length ≤ 2097152)) :
    Calls Ybad.prog 25 #[.slice (some ⟨g, 0, none⟩) n cap, .int .i64 2, .int .i64 10] w fun e w' => AP w g (xs ++ [50]) e w' := by
  go_enter Ybad.func25, Ybad.ntmps25
  go_wp2_with (go_at_call 29; refine (auint_2 _ g n cap xs hn hB hb).mono ?_; rintro e w' ⟨g1, n1, c1, hn1, rfl, hB1, hS1⟩)
  go_ret
  exact ⟨g1, n1, c1, hn1, rfl, hB1, hS1⟩
set_option maxRecDepth 100000 in
set_option maxHeartbeats 400000 in
theorem sint_2 (w : World) (g n cap : Nat) (xs : List UInt8) (hn : Hid (n = xs.length)) (hB : Hid (Buf w g cap xs)) (hb : Hid (xs.length ≤ 2097152)) :
    Calls Ybad.prog 18 #[.slice (some ⟨g, 0, none⟩) n cap, .int .i64 2, .int .i64 10] w fun e w' => AP w g (xs ++ [50]) e w' := by
  go_enter Ybad.func18, Ybad.ntmps18
  go_wp2_with (go_at_call 25; refine (aint_2 _ g n cap xs hn hB hb).mono ?_; rintro e w' ⟨g1, n1, c1, hn1, rfl, hB1, hS1⟩)
  go_ret
  exact ⟨g1, n1, c1, hn1, rfl, hB1, hS1⟩
set_option maxRecDepth 100000 in
set_option maxHeartbeats 400000 in
theorem small_6 (w : World) : Calls Ybad.prog 31 #[.int .i64 6] w fun e w' => e = .returned (.string ⟨#[54]⟩) ∧ w' = w := by
  go_enter Ybad.func31, Ybad.ntmps31
  go_wp2
  go_ret
  exact ⟨rfl, rfl⟩
set_option maxRecDepth 100000 in
set_option maxHeartbeats 400000 in
theorem auint_6 (w : World) (g n cap : Nat) (xs : List UInt8) (hn : Hid (n = xs.length)) (hB : Hid (Buf w g cap xs)) (hb : Hid (xs.length ≤ 2097152)) :
    Calls Ybad.prog 29 #[.slice (some ⟨g, 0, none⟩) n cap, .int .u64 6, .int .i64 10] w fun e w' => AP w g (xs ++ [54]) e w' := by
  go_enter Ybad.func29, Ybad.ntmps29
  go_wp2_with (first | (go_at_call 31; refine (small_6 _).mono ?_; rintro e w' ⟨rfl, rfl⟩) | (at_builtin; refine wpList_ap rfl (.tmp 13) (.tmp 16) 9 rfl g cap xs [54] n hn.out rfl hB.out (SrcB.string _ ⟨#[54]⟩) (by have := hb.out; simp; omega) ?_; intro g1 n1 c1 w1 hn1 hB1 hS1))
  go_ret
  exact ⟨g1, n1, c1, hn1, rfl, hB1, hS1⟩
set_option maxRecDepth 100000 in
set_option maxHeartbeats 400000 in
theorem aint_6 (w : World) (g n cap : Nat) (xs : List UInt8) (hn : Hid (n = xs.length)) (hB : Hid (Buf w g cap xs)) (hb : Hid (xs.length ≤ 2097152)) :
    Calls Ybad.prog 25 #[.slice (some ⟨g, 0, none⟩) n cap, .int .i64 6, .int .i64 10] w fun e w' => AP w g (xs ++ [54]) e w' := by
  go_enter Ybad.func25, Ybad.ntmps25
  go_wp2_with (go_at_call 29; refine (auint_6 _ g n cap xs hn hB hb).mono ?_; rintro e w' ⟨g1, n1, c1, hn1, rfl, hB1, hS1⟩)
  go_ret
  exact ⟨g1, n1, c1, hn1, rfl, hB1, hS1⟩
set_option maxRecDepth 100000 in
set_option maxHeartbeats 400000 in
theorem sint_6 (w : World) (g n cap : Nat) (xs : List UInt8) (hn : Hid (n = xs.length)) (hB : Hid (Buf w g cap xs)) (hb : Hid (xs.length ≤ 2097152)) :
    Calls Ybad.prog 18 #[.slice (some ⟨g, 0, none⟩) n cap, .int .i64 6, .int .i64 10] w fun e w' => AP w g (xs ++ [54]) e w' := by
  go_enter Ybad.func18, Ybad.ntmps18
  go_wp2_with (go_at_call 25; refine (aint_6 _ g n cap xs hn hB hb).mono ?_; rintro e w' ⟨g1, n1, c1, hn1, rfl, hB1, hS1⟩)
  go_ret
  exact ⟨g1, n1, c1, hn1, rfl, hB1, hS1⟩
set_option maxRecDepth 100000 in
set_option maxHeartbeats 400000 in
theorem small_18 (w : World) : Calls Ybad.prog 31 #[.int .i64 18] w fun e w' => e = .returned (.string ⟨#[49, 56]⟩) ∧ w' = w := by
  go_enter Ybad.func31, Ybad.ntmps31
  go_wp2
  go_ret
  exact ⟨rfl, rfl⟩
set_option maxRecDepth 100000 in
set_option maxHeartbeats 400000 in
theorem auint_18 (w : World) (g n cap : Nat) (xs : List UInt8) (hn : Hid (n = xs.length)) (hB : Hid (Buf w g cap xs)) (hb : Hid (xs.length ≤ 2097152)) :
    Calls Ybad.prog 29 #[.slice (some ⟨g, 0, none⟩) n cap, .int .u64 18, .int .i64 10] w fun e w' => AP w g (xs ++ [49, 56]) e w' := by
  go_enter Ybad.func29, Ybad.ntmps29
  go_wp2_with (first | (go_at_call 31; refine (small_18 _).mono ?_; rintro e w' ⟨rfl, rfl⟩) | (at_builtin; refine wpList_ap rfl (.tmp 13) (.tmp 16) 9 rfl g cap xs [49, 56] n hn.out rfl hB.out (SrcB.string _ ⟨#[49, 56]⟩) (by have := hb.out; simp; omega) ?_; intro g1 n1 c1 w1 hn1 hB1 hS1))
  go_ret
  exact ⟨g1, n1, c1, hn1, rfl, hB1, hS1⟩
set_option maxRecDepth 100000 in
set_option maxHeartbeats 400000 in
theorem aint_18 (w : World) (g n cap : Nat) (xs : List UInt8) (hn : Hid (n = xs.length)) (hB : Hid (Buf w g cap xs)) (hb : Hid (xs.length ≤ 2097152)) :
    Calls Ybad.prog 25 #[.slice (some ⟨g, 0, none⟩) n cap, .int .i64 18, .int .i64 10] w fun e w' => AP w g (xs ++ [49, 56]) e w' := by
  go_enter Ybad.func25, Ybad.ntmps25
  go_wp2_with (go_at_call 29; refine (auint_18 _ g n cap xs hn hB hb).mono ?_; rintro e w' ⟨g1, n1, c1, hn1, rfl, hB1, hS1⟩)
  go_ret
  exact ⟨g1, n1, c1, hn1, rfl, hB1, hS1⟩
set_option maxRecDepth 100000 in
set_option maxHeartbeats 400000 in
theorem sint_18 (w : World) (g n cap : Nat) (xs : List UInt8) (hn : Hid (n = xs.length)) (hB : Hid (Buf w g cap xs)) (hb : Hid (xs.length ≤ 2097152)) :
    Calls Ybad.prog 18 #[.slice (some ⟨g, 0, none⟩) n cap, .int .i64 18, .int .i64 10] w fun e w' => AP w g (xs ++ [49, 56]) e w' := by
  go_enter Ybad.func18, Ybad.ntmps18
  go_wp2_with (go_at_call 25; refine (aint_18 _ g n cap xs hn hB hb).mono ?_; rintro e w' ⟨g1, n1, c1, hn1, rfl, hB1, hS1⟩)
  go_ret
  exact ⟨g1, n1, c1, hn1, rfl, hB1, hS1⟩
set_option maxRecDepth 100000 in
set_option maxHeartbeats 400000 in
theorem small_20 (w : World) : Calls Ybad.prog 31 #[.int .i64 20] w fun e w' => e = .returned (.string ⟨#[50, 48]⟩) ∧ w' = w := by
  go_enter Ybad.func31, Ybad.ntmps31
  go_wp2
  go_ret
  exact ⟨rfl, rfl⟩
set_option maxRecDepth 100000 in
set_option maxHeartbeats 400000 in
theorem auint_20 (w : World) (g n cap : Nat) (xs : List UInt8) (hn : Hid (n = xs.length)) (hB : Hid (Buf w g cap xs)) (hb : Hid (xs.length ≤ 2097152)) :
    Calls Ybad.prog 29 #[.slice (some ⟨g, 0, none⟩) n cap, .int .u64 20, .int .i64 10] w fun e w' => AP w g (xs ++ [50, 48]) e w' := by
  go_enter Ybad.func29, Ybad.ntmps29
  go_wp2_with (first | (go_at_call 31; refine (small_20 _).mono ?_; rintro e w' ⟨rfl, rfl⟩) | (at_builtin; refine wpList_ap rfl (.tmp 13) (.tmp 16) 9 rfl g cap xs [50, 48] n hn.out rfl hB.out (SrcB.string _ ⟨#[50, 48]⟩) (by have := hb.out; simp; omega) ?_; intro g1 n1 c1 w1 hn1 hB1 hS1))
  go_ret
  exact ⟨g1, n1, c1, hn1, rfl, hB1, hS1⟩
set_option maxRecDepth 100000 in
set_option maxHeartbeats 400000 in
theorem aint_20 (w : World) (g n cap : Nat) (xs : List UInt8) (hn : Hid (n = xs.length)) (hB : Hid (Buf w g cap xs)) (hb : Hid (xs.length ≤ 2097152)) :
    Calls Ybad.prog 25 #[.slice (some ⟨g, 0, none⟩) n cap, .int .i64 20, .int .i64 10] w fun e w' => AP w g (xs ++ [50, 48]) e w' := by
  go_enter Ybad.func25, Ybad.ntmps25
  go_wp2_with (go_at_call 29; refine (auint_20 _ g n cap xs hn hB hb).mono ?_; rintro e w' ⟨g1, n1, c1, hn1, rfl, hB1, hS1⟩)
  go_ret
  exact ⟨g1, n1, c1, hn1, rfl, hB1, hS1⟩
set_option maxRecDepth 100000 in
set_option maxHeartbeats 400000 in
theorem sint_20 (w : World) (g n cap : Nat) (xs : List UInt8) (hn : Hid (n = xs.length)) (hB : Hid (Buf w g cap xs)) (hb : Hid (xs.length ≤ 2097152)) :
    Calls Ybad.prog 18 #[.slice (some ⟨g, 0, none⟩) n cap, .int .i64 20, .int .i64 10] w fun e w' => AP w g (xs ++ [50, 48]) e w' := by
  go_enter Ybad.func18, Ybad.ntmps18
  go_wp2_with (go_at_call 25; refine (aint_20 _ g n cap xs hn hB hb).mono ?_; rintro e w' ⟨g1, n1, c1, hn1, rfl, hB1, hS1⟩)
  go_ret
  exact ⟨g1, n1, c1, hn1, rfl, hB1, hS1⟩
end Go.Proofs.YbulkdqeqDoor
