import Derived.Test.YbulkdqeqDoorAs
namespace Go.Proofs.YbulkdqeqDoor
open Go.RowKit
/-- whether the handle z is z4, in every world grown out of w -/
def Is (z : Option Addr) (b : Bool) (a4 : Addr) (w : World) : Prop := ∀ w', Below w.heap.size w w' → ∀ d, (Op.equalIn (d + 1) 29 (.pointer z) (.pointer (some a4))).run Ybad.prog w' = .ok b w'
theorem Z.is4 {N : Nat} {a4 a6 : Addr} {w : World} (_h : Z N a4 a6 w) : Is (some a4) true a4 w := fun _ _ d => eqp_same _ a4 d
theorem Z.is0 {N : Nat} {a4 a6 : Addr} {w : World} (_h : Z N a4 a6 w) : Is none false a4 w := fun _ _ d => eqp_nil _ a4 d
theorem Z.is6 {N : Nat} {a4 a6 : Addr} {w : World} (h : Z N a4 a6 w) : Is (some a6) false a4 w := fun _ hb d => eqp_other (Ne.symm h.ne) (h.below hb).h6 (h.below hb).h4 d
theorem Is.below {z : Option Addr} {b : Bool} {a4 : Addr} {w w' : World} (h : Is z b a4 w) (hb : Below w.heap.size w w') : Is z b a4 w' := fun w2 h2 => h w2 (hb.trans (h2.mono hb.size))

set_option maxRecDepth 100000 in
set_option maxHeartbeats 400000 in
theorem is4_any (hi lo : Int) (z : Option Addr) (b : Bool) (a4 : Addr) (w : World) (hc : Hid (w.cell? ⟨0, 0, none⟩ = some (.pointer (some a4)))) (hz : 0 < w.heap.size) (hI : Hid (Is z b a4 w)) :
    Calls Ybad.prog 20 #[.agg #[.int .u64 hi, .int .u64 lo, .pointer z]] w fun e w' => e = .returned (.bool b) ∧ Below w.heap.size w w' := by
  have hb := (Below.refl w.heap.size w).alloc (Nat.le_refl _) (.cells #[.int .u64 hi, .int .u64 lo, .pointer z] 33)
  have hr := hI.out _ hb
  have hc' := (hb.cell (p := ⟨0, 0, none⟩) hz).trans hc.out
  have HB : Hid (Below w.heap.size w (w.alloc (.cells #[.int .u64 hi, .int .u64 lo, .pointer z] 33))) := hb
  clear hb
  cases b
  all_goals
    go_enter Ybad.func20, Ybad.ntmps20
    go_wp2
    go_ret
    exact ⟨rfl, HB.out⟩

set_option maxRecDepth 100000 in
set_option maxHeartbeats 400000 in
theorem addr_any (hi lo p : Int) (z : Option Addr) (w : World) :
    Calls Ybad.prog 19 #[.agg #[.int .u64 hi, .int .u64 lo, .pointer z, .int .u16 p]] w fun e w' => e = .returned (.agg #[.int .u64 hi, .int .u64 lo, .pointer z]) ∧ Below w.heap.size w w' := by
  go_enter Ybad.func19, Ybad.ntmps19
  go_wp2
  refine bodyPost_ret (v := .agg #[.int .u64 hi, .int .u64 lo, .pointer z]) (by simp [results, Ybad.results19, go_sem]) rfl ⟨rfl, ?_⟩
  repeat' (first | exact Below.refl _ _ | refine Below.alloc ?_ ?_ _ | refine Below.setCell ?_ ?_ _ | exact Nat.le_refl _ | (simp; done) | (simp; omega))

set_option maxRecDepth 100000 in
set_option maxHeartbeats 400000 in
theorem apfrom_any (hi lo p : Int) (z : Option Addr) (w : World) :
    Calls Ybad.prog 6 #[.agg #[.int .u64 hi, .int .u64 lo, .pointer z], .int .u16 p] w fun e w' => e = .returned (.agg #[.int .u64 hi, .int .u64 lo, .pointer z, .int .u16 p]) ∧ Below w.heap.size w w' := by
  go_enter Ybad.func6, Ybad.ntmps6
  go_wp2
  refine bodyPost_ret (v := .agg #[.int .u64 hi, .int .u64 lo, .pointer z, .int .u16 p]) (by simp [results, Ybad.results6, go_sem]) rfl ⟨rfl, ?_⟩
  repeat' (first | exact Below.refl _ _ | refine Below.alloc ?_ ?_ _ | refine Below.setCell ?_ ?_ _ | exact Nat.le_refl _ | (simp; done) | (simp; omega))

set_option maxRecDepth 100000 in
set_option maxHeartbeats 400000 in
theorem port_any (hi lo p : Int) (z : Option Addr) (w : World) :
    Calls Ybad.prog 24 #[.agg #[.int .u64 hi, .int .u64 lo, .pointer z, .int .u16 p]] w fun e w' => e = .returned (.int .u16 p) ∧ w' = w.alloc (.cells #[.int .u64 hi, .int .u64 lo, .pointer z, .int .u16 p] 38) := by
  go_enter Ybad.func24, Ybad.ntmps24
  go_wp2
  go_ret
  exact ⟨rfl, rfl⟩
end Go.Proofs.YbulkdqeqDoor
