import Derived.Test.YbulkdqeqDoorNet
namespace Go.Proofs.YbulkdqeqDoor
open Go.RowKit
set_option maxRecDepth 100000 in
set_option maxHeartbeats 400000 in
theorem clen_any (hi lo p : Int) (z : Option Addr) (b : Bool) (a4 : Addr) (w : World) (hc : Hid (w.cell? ⟨0, 0, none⟩ = some (.pointer (some a4)))) (hz : 0 < w.heap.size) (hI : Hid (Is z b a4 w)) :
    Calls Ybad.prog 16 #[.agg #[.int .u64 hi, .int .u64 lo, .pointer z, .int .u16 p]] w fun e w' => e = .returned (.int .i64 (if b then 6 else 18)) ∧ Below w.heap.size w w' := by
  have b0 := (Below.refl w.heap.size w).alloc (Nat.le_refl _) (.cells #[.int .u64 hi, .int .u64 lo, .pointer z, .int .u16 p] 38)
  have B0 : Hid (Below w.heap.size w (w.alloc (.cells #[.int .u64 hi, .int .u64 lo, .pointer z, .int .u16 p] 38))) := b0
  clear b0
  go_enter Ybad.func16, Ybad.ntmps16
  go_wp2_with fail
  refine (addr_any hi lo p z _).mono ?_
  rintro e w1 ⟨rfl, h1⟩
  have b1 : Below w.heap.size w w1 := B0.out.trans (h1.mono (by simp))
  have hs1 := b1.size
  have hz1 : 0 < w1.heap.size := by omega
  have hI1 : Hid (Is z b a4 w1) := hI.out.below b1
  have hc1 : Hid (w1.cell? ⟨0, 0, none⟩ = some (.pointer (some a4))) := (b1.cell (p := ⟨0, 0, none⟩) hz).trans hc.out
  have B1 : Hid (Below w.heap.size w w1) := b1
  clear b1 h1 B0
  go_wp2_with fail
  refine (is4_any hi lo z b a4 w1 hc1 hz1 hI1).mono ?_
  rintro e w2 ⟨rfl, h2⟩
  have B2 : Hid (Below w.heap.size w w2) := B1.out.trans (h2.mono hs1)
  clear h2
  cases b
  all_goals
    go_wp2
    go_ret
    exact ⟨rfl, B2.out⟩

set_option maxRecDepth 100000 in
set_option maxHeartbeats 400000 in
theorem u16_any (w : World) (g n cap : Nat) (xs : List UInt8) (p : Nat) (c d : UInt8) (hp : p < 65536) (h0 : Hid ((p : Int) / 256 = c.toNat)) (h1 : Hid ((p : Int) % 256 = d.toNat)) (hn : Hid (n = xs.length)) (hB : Hid (Buf w g cap xs)) (hb : Hid (xs.length ≤ 2097152)) :
    Calls Ybad.prog 23 #[.agg #[], .slice (some ⟨g, 0, none⟩) n cap, .int .u16 p] w fun e w' => AP w g (xs ++ [c, d]) e w' := by
  have hs : ∀ (W : World) (N : Nat), N = W.heap.size → SrcB 22 (.slice (some ⟨N, 0, none⟩) 2 2) [c, d] (W.alloc (.cells #[.int .u8 ((p : Int) / 256), .int .u8 ((p : Int) % 256)] 5)) := fun W N e => by rw [h0.out, h1.out, e]; exact src_two W c d
  have HS : Hid (∀ (W : World) (N : Nat), N = W.heap.size → SrcB 22 (.slice (some ⟨N, 0, none⟩) 2 2) [c, d] (W.alloc (.cells #[.int .u8 ((p : Int) / 256), .int .u8 ((p : Int) % 256)] 5))) := hs
  clear hs
  go_enter Ybad.func23, Ybad.ntmps23
  go_wp2_with (at_builtin; refine wpList_ap rfl (.tmp 7) (.tmp 13) 22 rfl g cap xs [c, d] n hn.out rfl ((hB.out.alloc _).alloc _) (HS.out (w.alloc (.cells #[] 61)) _ (by simp)) (by have := hb.out; simp; omega) ?_; intro g1 n1 c1 w1 hn1 hB1 hS1)
  go_ret
  exact AP.more (Step.refl w g) (AP.more (Step.refl _ g) ⟨g1, n1, c1, hn1, rfl, hB1, hS1⟩)
end Go.Proofs.YbulkdqeqDoor
