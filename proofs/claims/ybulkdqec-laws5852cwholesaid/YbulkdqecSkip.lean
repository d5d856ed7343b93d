import Derived.Test.YbulkdqecProg
import Derived.WalkKit
import Derived.WalkSpells
import Derived.WalkLawsBesides
import Derived.Outline
import Derived.Below
import Derived.LoopN
import Derived.BigRegion
namespace Go.Proofs.Ybulkdqec
open Go.RowKit

set_option maxRecDepth 100000 in
set_option maxHeartbeats 1000000 in
theorem skip_any (b : Nat) (src : ByteArray) (off pos n : Int) (w : World) (hb : w.heap[b]? = some (.cells #[.string src, .int .i64 off, .int .i64 pos] 26)) :
    Calls Yba.prog 6 #[.pointer (some ⟨b, 0, none⟩), .int .i64 n] w fun e w' => e = .returned (.tuple #[]) ∧ w' = ((w.setCell ⟨b, 1, none⟩ (.int .i64 (wrap64 (off + n)))).setCell ⟨b, 2, none⟩ (.int .i64 (wrap64 (pos + n)))).drew := by
  have c1 : w.cell? ⟨b, 1, none⟩ = some (.int .i64 off) := by simp [World.cell?, hb]
  have c2 : w.cell? ⟨b, 2, none⟩ = some (.int .i64 pos) := by simp [World.cell?, hb]
  have f1 : w.frozen? ⟨b, 1, none⟩ = false := by simp [World.frozen?, hb]
  have f2 : w.frozen? ⟨b, 2, none⟩ = false := by simp [World.frozen?, hb]
  clear hb
  go_enter Yba.func6, Yba.ntmps6
  go_wp2
  go_region
  go_end0
  exact ⟨rfl, rfl⟩

/-- What became of the heap: one block is other than it was. -/
structure Only (b : Nat) (o : Obj) (w w' : World) : Prop where
  os : w'.os = w.os
  tape : w'.tape = w.tape
  output : w'.output = w.output
  size : w'.heap.size = w.heap.size
  here : w'.heap[b]? = some o
  block : ∀ k, k ≠ b → w'.heap[k]? = w.heap[k]?

theorem skip_only (b : Nat) (src : ByteArray) (off pos n : Int) (w : World) (hb : w.heap[b]? = some (.cells #[.string src, .int .i64 off, .int .i64 pos] 26)) :
    Calls Yba.prog 6 #[.pointer (some ⟨b, 0, none⟩), .int .i64 n] w fun e w' => e = .returned (.tuple #[]) ∧ Only b (.cells #[.string src, .int .i64 (wrap64 (off + n)), .int .i64 (wrap64 (pos + n))] 26) w w' := by
  refine (skip_any b src off pos n w hb).mono ?_
  rintro e w' ⟨rfl, rfl⟩
  refine ⟨rfl, rfl, rfl, rfl, by simp [World.setCell, World.drew], ?_, fun k hk => ?_⟩
  · simp [World.drew, World.setCell, Array.getElem?_modify, hb]
  · simp [World.drew, World.setCell, Array.getElem?_modify, Ne.symm hk]
end Go.Proofs.Ybulkdqec
