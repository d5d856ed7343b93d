import Derived.Test.YbulkdqeqDoorProg
import Derived.WalkKit
import Derived.WalkSpells
import Derived.WalkLawsBesides
import Derived.Outline
import Derived.Below
import Derived.LoopN
import Derived.Deep.AppendSrc
import Derived.Deep.AppendLies
namespace Go.Proofs.YbulkdqeqDoor
open Go.RowKit

/-! ### a row of bytes in memory -/
def bv (c : UInt8) : Value := .int .u8 c.toNat
def bvs (l : List UInt8) : List Value := l.map bv
theorem bvs_append (a b : List UInt8) : bvs (a ++ b) = bvs a ++ bvs b := List.map_append
theorem bvs_length (a : List UInt8) : (bvs a).length = a.length := List.length_map ..
theorem bvs_one (a : List UInt8) : ∀ u ∈ bvs a, u.oneCell' = true := fun u hu => by
  obtain ⟨c, _, rfl⟩ := List.mem_map.1 hu
  rfl

/-- the slice that begins at block g, with room for cap bytes, holds xs; the block is the slice's own. -/
structure Buf (w : World) (g cap : Nat) (xs : List UInt8) : Prop where
  row : ∃ cur : Array Value, w.heap[g]? = some (.cells cur 5 (0, 0)) ∧ cur.size = cap ∧ cur.toList.take xs.length = bvs xs
  le : xs.length ≤ cap
  max : cap ≤ maxLen
abbrev Buf.val (g cap : Nat) (xs : List UInt8) : Value := .slice (some ⟨g, 0, none⟩) xs.length cap

theorem Buf.lt {w : World} {g cap : Nat} {xs : List UInt8} (h : Buf w g cap xs) : g < w.heap.size := by
  obtain ⟨cur, h1, _⟩ := h.row
  rcases Nat.lt_or_ge g w.heap.size with hlt | hge
  · exact hlt
  · rw [Array.getElem?_eq_none hge] at h1; cases h1
theorem Buf.own {w : World} {g cap : Nat} {xs : List UInt8} (h : Buf w g cap xs) : w.ownsRow 0 5 1 (.slice (some ⟨g, 0, none⟩) xs.length cap) xs.length (bvs xs) := by
  obtain ⟨cur, h1, h2, h3⟩ := h.row
  exact ⟨by rw [bvs_length, Nat.mul_one], .inr ⟨g, cap, cur, rfl, Nat.zero_le _, h1, h.le, h.max, by rw [h2, Nat.mul_one], by rw [Nat.mul_one]; exact h3⟩⟩
theorem Buf.ofOwn {w : World} {v : Value} {xs : List UInt8} {n : Nat} (hn : n = xs.length) (h : w.ownsRow 0 5 1 v n (bvs xs)) (h0 : 0 < n) : ∃ g cap, v = .slice (some ⟨g, 0, none⟩) xs.length cap ∧ Buf w g cap xs := by
  subst hn
  rcases h.2 with ⟨_, h0'⟩ | ⟨g, cap, cur, rfl, _, h1, h2, h3, h4, h5⟩
  · omega
  · exact ⟨g, cap, rfl, ⟨⟨cur, h1, by rw [h4, Nat.mul_one], by rw [Nat.mul_one] at h5; exact h5⟩, h2, h3⟩⟩

/-- what an append to the row at g has done: the row lies there still, or in a new block; nothing else has turned. -/
structure Step (w w' : World) (g g' : Nat) : Prop where
  os : w'.os = w.os
  tape : w'.tape = w.tape
  output : w'.output = w.output
  size : w.heap.size ≤ w'.heap.size
  at_ : g' = g ∨ w.heap.size ≤ g'
  block : ∀ k, k < w.heap.size → k ≠ g → w'.heap[k]? = w.heap[k]?
theorem Step.refl (w : World) (g : Nat) : Step w w g g := ⟨rfl, rfl, rfl, Nat.le_refl _, .inl rfl, fun _ _ _ => rfl⟩
theorem Step.trans {a b c : World} {g h k : Nat} (s : Step a b g h) (t : Step b c h k) : Step a c g k :=
  ⟨t.os.trans s.os, t.tape.trans s.tape, t.output.trans s.output, Nat.le_trans s.size t.size, by
    have := s.size
    rcases t.at_ with e | e
    · rw [e]; exact s.at_
    · right; omega, fun i hi hg => by
    have := s.size
    rw [t.block i (by omega) (by rcases s.at_ with e | e <;> omega)]
    exact s.block i hi hg⟩
theorem Step.alloc {a b : World} {g h : Nat} (s : Step a b g h) (o : Obj) : Step a (b.alloc o) g h :=
  ⟨s.os, s.tape, s.output, Nat.le_trans s.size (by simp), s.at_, fun k hk hg => (Below.heap_alloc b o k (Nat.lt_of_lt_of_le hk s.size)).trans (s.block k hk hg)⟩
theorem Step.drew {a b : World} {g h : Nat} (s : Step a b g h) : Step a b.drew g h := ⟨s.os, s.tape, s.output, s.size, s.at_, s.block⟩
theorem Buf.alloc {w : World} {g cap : Nat} {xs : List UInt8} (h : Buf w g cap xs) (o : Obj) : Buf (w.alloc o) g cap xs := by
  have hl := h.lt
  obtain ⟨cur, h1, h2⟩ := h.row
  exact ⟨⟨cur, (Below.heap_alloc w o g hl).trans h1, h2⟩, h.le, h.max⟩
theorem Buf.drew {w : World} {g cap : Nat} {xs : List UInt8} (h : Buf w g cap xs) : Buf w.drew g cap xs := ⟨h.row, h.le, h.max⟩
theorem Buf.keep {w w' : World} {g cap : Nat} {xs : List UInt8} (h : Buf w g cap xs) (he : w'.heap[g]? = w.heap[g]?) : Buf w' g cap xs := by
  obtain ⟨cur, h1, h2⟩ := h.row
  exact ⟨⟨cur, he.trans h1, h2⟩, h.le, h.max⟩
theorem Buf.cell {w : World} {g cap : Nat} {xs : List UInt8} (h : Buf w g cap xs) {i : Nat} (hi : i < xs.length) : w.cell? ⟨g, i, none⟩ = some (bv xs[i]) := by
  obtain ⟨cur, h1, _, h3⟩ := h.row
  have e : w.cell? ⟨g, i, none⟩ = cur[i]? := by simp [World.cell?, h1]
  have e2 : cur.toList[i]? = (bvs xs)[i]? := by rw [← h3, List.getElem?_take_of_lt hi]
  rw [e, ← Array.getElem?_toList, e2]
  simp [bvs, hi]

/-! ### append -/
theorem info5 : (Ybad.prog.info? 5).map (fun i => (i.zero, i.size, i.bytes)) = some (some (.int .u8 0), 1, 1) := by kernel_rfl
/-- what the second argument of an append yields, as bytes -/
def SrcB (tx : TypeId) (x : Value) (ys : List UInt8) (w : World) : Prop := Src Ybad.prog 1 tx x ys.length (bvs ys) w
theorem SrcB.string (w : World) (s : ByteArray) : SrcB 9 (.string s) s.data.toList w := by
  have h := Src.ofString (P := Ybad.prog) w Ybad.underlying9 s
  have e : s.data.toList.length = s.size := by simp
  unfold SrcB
  rw [e]
  exact h
theorem SrcB.slice (w : World) (b o n c : Nat) (ys : List UInt8) (hn : n = ys.length) (h : ∀ i (hi : i < ys.length), w.cell? ⟨b, o + i, none⟩ = some (bv ys[i])) : SrcB 22 (.slice (some ⟨b, o, none⟩) n c) ys w := by
  subst hn
  refine Src.ofSlice w Ybad.underlying22 ⟨b, o, none⟩ ys.length c (bvs ys) (by rw [bvs_length, Nat.mul_one]) (fun j u hu => ?_) (bvs_one ys)
  have hj : j < ys.length := by
    have := (List.getElem?_eq_some_iff.1 hu).1
    rwa [bvs_length] at this
  have e : (⟨b, o, none⟩ : Addr).add j = ⟨b, o + j, none⟩ := by unfold Addr.add; split <;> simp_all
  rw [e, h j hj]
  simp [bvs, hj] at hu
  rw [hu]
theorem SrcB.none (w : World) (c : Nat) : SrcB 22 (.slice none 0 c) [] w := Src.ofNil w Ybad.underlying22 c

theorem grow_fits {n m cap : Nat} (h : n + m ≤ 140737488355328) (hc : cap < n + m) : Builtin.nextslicecap (n + m) cap * 1 ≤ 281474976710656 := growslice_fits (by omega) (by omega)
end Go.Proofs.YbulkdqeqDoor
