import Derived.Test.YbulkdqeqDoorInt
namespace Go.Proofs.YbulkdqeqDoor
open Go.RowKit
theorem src_one (w : World) (c : UInt8) : SrcB 22 (.slice (some ⟨w.heap.size, 0, none⟩) 1 1) [c] (w.alloc (.cells #[bv c] 5)) :=
  SrcB.slice _ _ 0 1 1 [c] rfl (fun i hi => by
    have : i = 0 := by simp at hi; exact hi
    subst this
    simp)
theorem src_two (w : World) (c d : UInt8) : SrcB 22 (.slice (some ⟨w.heap.size, 0, none⟩) 2 2) [c, d] (w.alloc (.cells #[bv c, bv d] 5)) :=
  SrcB.slice _ _ 0 2 2 [c, d] rfl (fun i hi => by
    match i, hi with
    | 0, _ => simp
    | 1, _ => simp)
/-- an append behind a new block of what is appended -/
theorem AP.more {w w1 w' : World} {g g1 : Nat} {zs : List UInt8} {e : Ending} {o : Obj} (hS : Step w w1 g g1) (h : AP (w1.alloc o) g1 zs e w') : AP w g zs e w' := by
  obtain ⟨g', n', cap', h1, h2, h3, h4⟩ := h
  refine ⟨g', n', cap', h1, h2, h3, ?_⟩
  exact (hS.alloc o).trans h4.out
theorem AP.then {w w1 w' : World} {g g1 : Nat} {zs : List UInt8} {e : Ending} (hS : Step w w1 g g1) (h : AP w1 g1 zs e w') : AP w g zs e w' := by
  obtain ⟨g', n', cap', h1, h2, h3, h4⟩ := h
  exact ⟨g', n', cap', h1, h2, h3, hS.trans h4.out⟩
set_option maxRecDepth 100000 in
set_option maxHeartbeats 400000 in
theorem head_1 (w : World) (g n cap : Nat) (xs : List UInt8) (hn : Hid (n = xs.length)) (hB : Hid (Buf w g cap xs)) (hb : Hid (xs.length ≤ 2097100)) :
    Calls Ybad.prog 14 #[.slice (some ⟨g, 0, none⟩) n cap, .int .i64 1] w fun e w' => AP w g (xs ++ [49] ++ [58]) e w' := by
  have hb2 : Hid (xs.length ≤ 2097152) := Nat.le_trans hb.out (by omega)
  go_enter Ybad.func14, Ybad.ntmps14
  go_wp2_with (first
    | (go_at_call 18; refine (sint_1 _ g n cap xs hn hB hb2).mono ?_; rintro e w' ⟨g1, n1, c1, hn1, rfl, hB1, hS1⟩)
    | (at_builtin; refine wpList_ap rfl (.tmp 8) (.tmp 9) 22 rfl g1 c1 (xs ++ [49]) [58] n1 hn1.out rfl (hB1.out.alloc _) (src_one _ 58) (by have := hb.out; simp; omega) ?_; intro g2 n2 c2 w2 hn2 hB2 hS2))
  go_ret
  exact AP.more hS1.out ⟨g2, n2, c2, hn2, rfl, hB2, hS2⟩
set_option maxRecDepth 100000 in
set_option maxHeartbeats 400000 in
theorem head_2 (w : World) (g n cap : Nat) (xs : List UInt8) (hn : Hid (n = xs.length)) (hB : Hid (Buf w g cap xs)) (hb : Hid (xs.length ≤ 2097100)) :
    Calls Ybad.prog 14 #[.slice (some ⟨g, 0, none⟩) n cap, .int .i64 2] w fun e w' => AP w g (xs ++ [50] ++ [58]) e w' := by
  have hb2 : Hid (xs.length ≤ 2097152) := Nat.le_trans hb.out (by omega)
  go_enter Ybad.func14, Ybad.ntmps14
  go_wp2_with (first
    | (go_at_call 18; refine (sint_2 _ g n cap xs hn hB hb2).mono ?_; rintro e w' ⟨g1, n1, c1, hn1, rfl, hB1, hS1⟩)
    | (at_builtin; refine wpList_ap rfl (.tmp 8) (.tmp 9) 22 rfl g1 c1 (xs ++ [50]) [58] n1 hn1.out rfl (hB1.out.alloc _) (src_one _ 58) (by have := hb.out; simp; omega) ?_; intro g2 n2 c2 w2 hn2 hB2 hS2))
  go_ret
  exact AP.more hS1.out ⟨g2, n2, c2, hn2, rfl, hB2, hS2⟩
set_option maxRecDepth 100000 in
set_option maxHeartbeats 400000 in
theorem head_6 (w : World) (g n cap : Nat) (xs : List UInt8) (hn : Hid (n = xs.length)) (hB : Hid (Buf w g cap xs)) (hb : Hid (xs.length ≤ 2097100)) :
    Calls Ybad.prog 14 #[.slice (some ⟨g, 0, none⟩) n cap, .int .i64 6] w fun e w' => AP w g (xs ++ [54] ++ [58]) e w' := by
  have hb2 : Hid (xs.length ≤ 2097152) := Nat.le_trans hb.out (by omega)
  go_enter Ybad.func14, Ybad.ntmps14
  go_wp2_with (first
    | (go_at_call 18; refine (sint_6 _ g n cap xs hn hB hb2).mono ?_; rintro e w' ⟨g1, n1, c1, hn1, rfl, hB1, hS1⟩)
    | (at_builtin; refine wpList_ap rfl (.tmp 8) (.tmp 9) 22 rfl g1 c1 (xs ++ [54]) [58] n1 hn1.out rfl (hB1.out.alloc _) (src_one _ 58) (by have := hb.out; simp; omega) ?_; intro g2 n2 c2 w2 hn2 hB2 hS2))
  go_ret
  exact AP.more hS1.out ⟨g2, n2, c2, hn2, rfl, hB2, hS2⟩
set_option maxRecDepth 100000 in
set_option maxHeartbeats 400000 in
theorem head_18 (w : World) (g n cap : Nat) (xs : List UInt8) (hn : Hid (n = xs.length)) (hB : Hid (Buf w g cap xs)) (hb : Hid (xs.length ≤ 2097100)) :
    Calls Ybad.prog 14 #[.slice (some ⟨g, 0, none⟩) n cap, .int .i64 18] w fun e w' => AP w g (xs ++ [49, 56] ++ [58]) e w' := by
  have hb2 : Hid (xs.length ≤ 2097152) := Nat.le_trans hb.out (by omega)
  go_enter Ybad.func14, Ybad.ntmps14
  go_wp2_with (first
    | (go_at_call 18; refine (sint_18 _ g n cap xs hn hB hb2).mono ?_; rintro e w' ⟨g1, n1, c1, hn1, rfl, hB1, hS1⟩)
    | (at_builtin; refine wpList_ap rfl (.tmp 8) (.tmp 9) 22 rfl g1 c1 (xs ++ [49, 56]) [58] n1 hn1.out rfl (hB1.out.alloc _) (src_one _ 58) (by have := hb.out; simp; omega) ?_; intro g2 n2 c2 w2 hn2 hB2 hS2))
  go_ret
  exact AP.more hS1.out ⟨g2, n2, c2, hn2, rfl, hB2, hS2⟩
set_option maxRecDepth 100000 in
set_option maxHeartbeats 400000 in
theorem head_20 (w : World) (g n cap : Nat) (xs : List UInt8) (hn : Hid (n = xs.length)) (hB : Hid (Buf w g cap xs)) (hb : Hid (xs.length ≤ 2097100)) :
    Calls Ybad.prog 14 #[.slice (some ⟨g, 0, none⟩) n cap, .int .i64 20] w fun e w' => AP w g (xs ++ [50, 48] ++ [58]) e w' := by
  have hb2 : Hid (xs.length ≤ 2097152) := Nat.le_trans hb.out (by omega)
  go_enter Ybad.func14, Ybad.ntmps14
  go_wp2_with (first
    | (go_at_call 18; refine (sint_20 _ g n cap xs hn hB hb2).mono ?_; rintro e w' ⟨g1, n1, c1, hn1, rfl, hB1, hS1⟩)
    | (at_builtin; refine wpList_ap rfl (.tmp 8) (.tmp 9) 22 rfl g1 c1 (xs ++ [50, 48]) [58] n1 hn1.out rfl (hB1.out.alloc _) (src_one _ 58) (by have := hb.out; simp; omega) ?_; intro g2 n2 c2 w2 hn2 hB2 hS2))
  go_ret
  exact AP.more hS1.out ⟨g2, n2, c2, hn2, rfl, hB2, hS2⟩
set_option maxRecDepth 100000 in
set_option maxHeartbeats 400000 in
theorem str_ip (w : World) (g n cap : Nat) (xs : List UInt8) (hn : Hid (n = xs.length)) (hB : Hid (Buf w g cap xs)) (hb : Hid (xs.length ≤ 2097000)) :
    Calls Ybad.prog 13 #[.slice (some ⟨g, 0, none⟩) n cap, .string ⟨#[105, 112]⟩] w fun e w' => AP w g (xs ++ [50] ++ [58] ++ [105, 112]) e w' := by
  have hb2 : Hid (xs.length ≤ 2097100) := Nat.le_trans hb.out (by omega)
  go_enter Ybad.func13, Ybad.ntmps13
  go_wp2_with (first
    | (go_at_call 14; refine (head_2 _ g n cap xs hn hB hb2).mono ?_; rintro e w' ⟨g1, n1, c1, hn1, rfl, hB1, hS1⟩)
    | (at_builtin; refine wpList_ap rfl (.tmp 8) (.tmp 9) 9 rfl g1 c1 (xs ++ [50] ++ [58]) [105, 112] n1 hn1.out rfl hB1.out (SrcB.string _ ⟨#[105, 112]⟩) (by have := hb.out; simp; omega) ?_; intro g2 n2 c2 w2 hn2 hB2 hS2))
  go_ret
  exact AP.then hS1.out ⟨g2, n2, c2, hn2, rfl, hB2, hS2⟩
set_option maxRecDepth 100000 in
set_option maxHeartbeats 400000 in
theorem str_r (w : World) (g n cap : Nat) (xs : List UInt8) (hn : Hid (n = xs.length)) (hB : Hid (Buf w g cap xs)) (hb : Hid (xs.length ≤ 2097000)) :
    Calls Ybad.prog 13 #[.slice (some ⟨g, 0, none⟩) n cap, .string ⟨#[114]⟩] w fun e w' => AP w g (xs ++ [49] ++ [58] ++ [114]) e w' := by
  have hb2 : Hid (xs.length ≤ 2097100) := Nat.le_trans hb.out (by omega)
  go_enter Ybad.func13, Ybad.ntmps13
  go_wp2_with (first
    | (go_at_call 14; refine (head_1 _ g n cap xs hn hB hb2).mono ?_; rintro e w' ⟨g1, n1, c1, hn1, rfl, hB1, hS1⟩)
    | (at_builtin; refine wpList_ap rfl (.tmp 8) (.tmp 9) 9 rfl g1 c1 (xs ++ [49] ++ [58]) [114] n1 hn1.out rfl hB1.out (SrcB.string _ ⟨#[114]⟩) (by have := hb.out; simp; omega) ?_; intro g2 n2 c2 w2 hn2 hB2 hS2))
  go_ret
  exact AP.then hS1.out ⟨g2, n2, c2, hn2, rfl, hB2, hS2⟩
set_option maxRecDepth 100000 in
set_option maxHeartbeats 400000 in
theorem str_id (w : World) (g n cap : Nat) (xs : List UInt8) (hn : Hid (n = xs.length)) (hB : Hid (Buf w g cap xs)) (hb : Hid (xs.length ≤ 2097000)) :
    Calls Ybad.prog 13 #[.slice (some ⟨g, 0, none⟩) n cap, .string ⟨#[105, 100]⟩] w fun e w' => AP w g (xs ++ [50] ++ [58] ++ [105, 100]) e w' := by
  have hb2 : Hid (xs.length ≤ 2097100) := Nat.le_trans hb.out (by omega)
  go_enter Ybad.func13, Ybad.ntmps13
  go_wp2_with (first
    | (go_at_call 14; refine (head_2 _ g n cap xs hn hB hb2).mono ?_; rintro e w' ⟨g1, n1, c1, hn1, rfl, hB1, hS1⟩)
    | (at_builtin; refine wpList_ap rfl (.tmp 8) (.tmp 9) 9 rfl g1 c1 (xs ++ [50] ++ [58]) [105, 100] n1 hn1.out rfl hB1.out (SrcB.string _ ⟨#[105, 100]⟩) (by have := hb.out; simp; omega) ?_; intro g2 n2 c2 w2 hn2 hB2 hS2))
  go_ret
  exact AP.then hS1.out ⟨g2, n2, c2, hn2, rfl, hB2, hS2⟩
end Go.Proofs.YbulkdqeqDoor
