import Derived.Test.YbulkdqeqDoorAddr
import Derived.Deep.RegionWith
import Derived.BigRegion
namespace Go.Proofs.YbulkdqeqDoor
open Go.RowKit
/-- one block is other than it was -/
structure Only (b : Nat) (o : Obj) (w w' : World) : Prop where
  os : w'.os = w.os
  tape : w'.tape = w.tape
  output : w'.output = w.output
  size : w'.heap.size = w.heap.size
  here : w'.heap[b]? = some o
  block : ∀ k, k ≠ b → w'.heap[k]? = w.heap[k]?
theorem Only.set {w : World} {b : Nat} {cs : Array Value} {t : TypeId} (h : w.heap[b]? = some (.cells cs t)) (i : Nat) (v : Value) : Only b (.cells (cs.setIfInBounds i v) t) w (w.setCell ⟨b, i, none⟩ v) :=
  ⟨rfl, rfl, rfl, by simp [World.setCell], by simp [World.setCell, Array.getElem?_modify, h], fun k hk => by simp [World.setCell, Array.getElem?_modify, Ne.symm hk]⟩
theorem Only.next {w w1 : World} {b : Nat} {cs : Array Value} {t : TypeId} (h : Only b (.cells cs t) w w1) (i : Nat) (v : Value) : Only b (.cells (cs.setIfInBounds i v) t) w (w1.setCell ⟨b, i, none⟩ v) := by
  have k := Only.set h.here i v
  exact ⟨k.os.trans h.os, k.tape.trans h.tape, k.output.trans h.output, k.size.trans h.size, k.here, fun j hj => (k.block j hj).trans (h.block j hj)⟩
theorem Only.below {b : Nat} {o : Obj} {w w' : World} (h : Only b o w w') {B : Nat} (hb : B ≤ b) : Below B w w' :=
  ⟨h.os, h.tape, h.output, by rw [h.size]; exact Nat.le_refl _, fun k hk => h.block k (by omega)⟩
set_option maxRecDepth 100000 in
theorem put8_lo (w : World) (b : Nat) (t : TypeId) (x0 x1 x2 x3 x4 x5 x6 x7 x8 x9 x10 x11 x12 x13 x14 x15 y0 y1 y2 y3 y4 y5 y6 y7 : Value) (hb : w.heap[b]? = some (.cells #[x0, x1, x2, x3, x4, x5, x6, x7, x8, x9, x10, x11, x12, x13, x14, x15] t)) : Only b (.cells #[y0, y1, y2, y3, y4, y5, y6, y7, x8, x9, x10, x11, x12, x13, x14, x15] t) w ((((((((w.setCell ⟨b, 0, none⟩ y0).setCell ⟨b, 1, none⟩ y1).setCell ⟨b, 2, none⟩ y2).setCell ⟨b, 3, none⟩ y3).setCell ⟨b, 4, none⟩ y4).setCell ⟨b, 5, none⟩ y5).setCell ⟨b, 6, none⟩ y6).setCell ⟨b, 7, none⟩ y7) := by
  have h := ((((((((Only.set hb 0 y0).next 1 y1).next 2 y2).next 3 y3).next 4 y4).next 5 y5).next 6 y6).next 7 y7)
  simpa using h
set_option maxRecDepth 100000 in
set_option maxHeartbeats 1000000 in
theorem put64_lo (b v : Nat) (w : World) (t : TypeId) (x0 x1 x2 x3 x4 x5 x6 x7 x8 x9 x10 x11 x12 x13 x14 x15 : Value) (hb : w.heap[b]? = some (.cells #[x0, x1, x2, x3, x4, x5, x6, x7, x8, x9, x10, x11, x12, x13, x14, x15] t)) :
    Calls Ybad.prog 28 #[.slice (some ⟨b, 0, none⟩) 8 16, .int .u64 v] w fun e w' => e = .returned (.tuple #[]) ∧ Only b (.cells #[.int .u8 (((v : Nat) : Int) / 72057594037927936 % 256), .int .u8 (((v : Nat) : Int) / 281474976710656 % 256), .int .u8 (((v : Nat) : Int) / 1099511627776 % 256), .int .u8 (((v : Nat) : Int) / 4294967296 % 256), .int .u8 (((v : Nat) : Int) / 16777216 % 256), .int .u8 (((v : Nat) : Int) / 65536 % 256), .int .u8 (((v : Nat) : Int) / 256 % 256), .int .u8 (((v : Nat) : Int) % 256), x8, x9, x10, x11, x12, x13, x14, x15] t) w w' := by
  have c0 : w.cell? ⟨b, 0, none⟩ = some x0 := by simp [World.cell?, hb]
  have c1 : w.cell? ⟨b, 1, none⟩ = some x1 := by simp [World.cell?, hb]
  have c2 : w.cell? ⟨b, 2, none⟩ = some x2 := by simp [World.cell?, hb]
  have c3 : w.cell? ⟨b, 3, none⟩ = some x3 := by simp [World.cell?, hb]
  have c4 : w.cell? ⟨b, 4, none⟩ = some x4 := by simp [World.cell?, hb]
  have c5 : w.cell? ⟨b, 5, none⟩ = some x5 := by simp [World.cell?, hb]
  have c6 : w.cell? ⟨b, 6, none⟩ = some x6 := by simp [World.cell?, hb]
  have c7 : w.cell? ⟨b, 7, none⟩ = some x7 := by simp [World.cell?, hb]
  have f : ∀ i, w.frozen? ⟨b, i, none⟩ = false := fun i => by simp [World.frozen?, hb]
  have HB : Hid (w.heap[b]? = some (.cells #[x0, x1, x2, x3, x4, x5, x6, x7, x8, x9, x10, x11, x12, x13, x14, x15] t)) := hb
  clear hb
  go_enter Ybad.func28, Ybad.ntmps28
  go_wp2
  go_end0
  exact ⟨rfl, put8_lo w b t x0 x1 x2 x3 x4 x5 x6 x7 x8 x9 x10 x11 x12 x13 x14 x15 _ _ _ _ _ _ _ _ HB.out⟩
set_option maxRecDepth 100000 in
theorem put8_hi (w : World) (b : Nat) (t : TypeId) (x0 x1 x2 x3 x4 x5 x6 x7 x8 x9 x10 x11 x12 x13 x14 x15 y0 y1 y2 y3 y4 y5 y6 y7 : Value) (hb : w.heap[b]? = some (.cells #[x0, x1, x2, x3, x4, x5, x6, x7, x8, x9, x10, x11, x12, x13, x14, x15] t)) : Only b (.cells #[x0, x1, x2, x3, x4, x5, x6, x7, y0, y1, y2, y3, y4, y5, y6, y7] t) w ((((((((w.setCell ⟨b, 8, none⟩ y0).setCell ⟨b, 9, none⟩ y1).setCell ⟨b, 10, none⟩ y2).setCell ⟨b, 11, none⟩ y3).setCell ⟨b, 12, none⟩ y4).setCell ⟨b, 13, none⟩ y5).setCell ⟨b, 14, none⟩ y6).setCell ⟨b, 15, none⟩ y7) := by
  have h := ((((((((Only.set hb 8 y0).next 9 y1).next 10 y2).next 11 y3).next 12 y4).next 13 y5).next 14 y6).next 15 y7)
  simpa using h
set_option maxRecDepth 100000 in
set_option maxHeartbeats 1000000 in
theorem put64_hi (b v : Nat) (w : World) (t : TypeId) (x0 x1 x2 x3 x4 x5 x6 x7 x8 x9 x10 x11 x12 x13 x14 x15 : Value) (hb : w.heap[b]? = some (.cells #[x0, x1, x2, x3, x4, x5, x6, x7, x8, x9, x10, x11, x12, x13, x14, x15] t)) :
    Calls Ybad.prog 28 #[.slice (some ⟨b, 8, none⟩) 8 8, .int .u64 v] w fun e w' => e = .returned (.tuple #[]) ∧ Only b (.cells #[x0, x1, x2, x3, x4, x5, x6, x7, .int .u8 (((v : Nat) : Int) / 72057594037927936 % 256), .int .u8 (((v : Nat) : Int) / 281474976710656 % 256), .int .u8 (((v : Nat) : Int) / 1099511627776 % 256), .int .u8 (((v : Nat) : Int) / 4294967296 % 256), .int .u8 (((v : Nat) : Int) / 16777216 % 256), .int .u8 (((v : Nat) : Int) / 65536 % 256), .int .u8 (((v : Nat) : Int) / 256 % 256), .int .u8 (((v : Nat) : Int) % 256)] t) w w' := by
  have c0 : w.cell? ⟨b, 8, none⟩ = some x8 := by simp [World.cell?, hb]
  have c1 : w.cell? ⟨b, 9, none⟩ = some x9 := by simp [World.cell?, hb]
  have c2 : w.cell? ⟨b, 10, none⟩ = some x10 := by simp [World.cell?, hb]
  have c3 : w.cell? ⟨b, 11, none⟩ = some x11 := by simp [World.cell?, hb]
  have c4 : w.cell? ⟨b, 12, none⟩ = some x12 := by simp [World.cell?, hb]
  have c5 : w.cell? ⟨b, 13, none⟩ = some x13 := by simp [World.cell?, hb]
  have c6 : w.cell? ⟨b, 14, none⟩ = some x14 := by simp [World.cell?, hb]
  have c7 : w.cell? ⟨b, 15, none⟩ = some x15 := by simp [World.cell?, hb]
  have f : ∀ i, w.frozen? ⟨b, i, none⟩ = false := fun i => by simp [World.frozen?, hb]
  have HB : Hid (w.heap[b]? = some (.cells #[x0, x1, x2, x3, x4, x5, x6, x7, x8, x9, x10, x11, x12, x13, x14, x15] t)) := hb
  clear hb
  go_enter Ybad.func28, Ybad.ntmps28
  go_wp2
  go_end0
  exact ⟨rfl, put8_hi w b t x0 x1 x2 x3 x4 x5 x6 x7 x8 x9 x10 x11 x12 x13 x14 x15 _ _ _ _ _ _ _ _ HB.out⟩
set_option maxRecDepth 100000 in
theorem put4 (w : World) (b : Nat) (t : TypeId) (x0 x1 x2 x3 y0 y1 y2 y3 : Value) (hb : w.heap[b]? = some (.cells #[x0, x1, x2, x3] t)) : Only b (.cells #[y0, y1, y2, y3] t) w ((((w.setCell ⟨b, 0, none⟩ y0).setCell ⟨b, 1, none⟩ y1).setCell ⟨b, 2, none⟩ y2).setCell ⟨b, 3, none⟩ y3) := by
  exact (((Only.set hb 0 y0).next 1 y1).next 2 y2).next 3 y3
set_option maxRecDepth 100000 in
set_option maxHeartbeats 400000 in
theorem put32_any (b : Nat) (v : Int) (hv0 : 0 ≤ v) (hv : v < 4294967296) (w : World) (t : TypeId) (x0 x1 x2 x3 : Value) (hb : w.heap[b]? = some (.cells #[x0, x1, x2, x3] t)) :
    Calls Ybad.prog 27 #[.slice (some ⟨b, 0, none⟩) 4 4, .int .u32 v] w fun e w' => e = .returned (.tuple #[]) ∧ Only b (.cells #[.int .u8 (v / 16777216), .int .u8 (v / 65536 % 256), .int .u8 ((v : Int) / 256 % 256), .int .u8 ((v : Int) % 256)] t) w w' := by
  have c0 : w.cell? ⟨b, 0, none⟩ = some x0 := by simp [World.cell?, hb]
  have c1 : w.cell? ⟨b, 1, none⟩ = some x1 := by simp [World.cell?, hb]
  have c2 : w.cell? ⟨b, 2, none⟩ = some x2 := by simp [World.cell?, hb]
  have c3 : w.cell? ⟨b, 3, none⟩ = some x3 := by simp [World.cell?, hb]
  have f : ∀ i, w.frozen? ⟨b, i, none⟩ = false := fun i => by simp [World.frozen?, hb]
  have HB : Hid (w.heap[b]? = some (.cells #[x0, x1, x2, x3] t)) := hb
  clear hb
  go_enter Ybad.func27, Ybad.ntmps27
  go_wp2
  go_end0
  exact ⟨rfl, put4 w b t x0 x1 x2 x3 _ _ _ _ HB.out⟩
end Go.Proofs.YbulkdqeqDoor
