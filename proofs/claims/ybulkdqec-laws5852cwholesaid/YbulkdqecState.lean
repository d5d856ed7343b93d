import Derived.Test.YbulkdqecVal
namespace Go.Proofs.Ybulkdqec
open Go.RowKit

/-! ### what 'fields' does, as a plain machine -/
structure St where
  off : Int
  pos : Int
  last : Int
  fl : List Int
  at_ : List (Int × Int)

def St.hop (s : St) (n : Int) : St := { s with off := wrap64 (s.off + n), pos := wrap64 (s.pos + n) }
def St.put (s : St) (f : Nat) (d : ByteArray) : St := { s with last := f, fl := s.fl.set f (val d.data.toList), at_ := s.at_.set f (s.off, s.pos) }
def St.lead (s : St) (i : Nat) : St := if i = 0 then s else s.hop 1
def St.step (fr i : Nat) (d : ByteArray) (s : St) : St := if d.size = 0 then s.lead i else ((s.lead i).put (fr + i) d).hop d.size
def runTo (fr : Nat) (ds : List ByteArray) (s : St) : Nat → St
  | 0 => s
  | k + 1 => St.step fr k (ds.getD k ByteArray.empty) (runTo fr ds s k)

/-! ### how it lies in memory -/
def wCells (first last : Int) (fl : List Int) (nsec digits : Int) : Array Value := (.int .i64 first :: .int .i64 last :: (fl.map (Value.int .i64) ++ [.int .i64 nsec, .int .i64 digits])).toArray
def aCells (src : ByteArray) (l : List (Int × Int)) : Array Value := (l.flatMap fun p => [.string src, .int .i64 p.1, .int .i64 p.2]).toArray
def sCells (src : ByteArray) (s : St) : Array Value := #[.string src, .int .i64 s.off, .int .i64 s.pos]

structure Has (w : World) (bs bw ba : Nat) (src : ByteArray) (first nsec digits : Int) (s : St) : Prop where
  hs : w.heap[bs]? = some (.cells (sCells src s) 26)
  hw : w.heap[bw]? = some (.cells (wCells first s.last s.fl nsec digits) 29)
  ha : w.heap[ba]? = some (.cells (aCells src s.at_) 31)
  lf : s.fl.length = 6
  la : s.at_.length = 6

/-- nothing but the three blocks has turned; new blocks may have come. -/
structure Kept (bs bw ba : Nat) (w w' : World) : Prop where
  os : w'.os = w.os
  tape : w'.tape = w.tape
  output : w'.output = w.output
  size : w.heap.size ≤ w'.heap.size
  block : ∀ k, k < w.heap.size → k ≠ bs → k ≠ bw → k ≠ ba → w'.heap[k]? = w.heap[k]?

theorem cell_of {w : World} {b i : Nat} {cs : Array Value} {t : TypeId} (h : w.heap[b]? = some (.cells cs t)) : w.cell? ⟨b, i, none⟩ = cs[i]? := by simp [World.cell?, h]
theorem frozen_of {w : World} {b i : Nat} {cs : Array Value} {t : TypeId} (h : w.heap[b]? = some (.cells cs t)) : w.frozen? ⟨b, i, none⟩ = false := by simp [World.frozen?, h]

theorem aCells_at {src : ByteArray} {l : List (Int × Int)} (hl : l.length = 6) {f : Nat} (hf : f < 6) (j : Nat) (hj : j < 3) : ∃ v, (aCells src l)[f * 3 + j]? = some v := by
  match l, hl with
  | [a, b, c, d, e, g], _ =>
    refine ⟨(aCells src [a, b, c, d, e, g])[f * 3 + j]'(by simp [aCells]; omega), ?_⟩
    simp
theorem aCells_set {src : ByteArray} {l : List (Int × Int)} (hl : l.length = 6) {f : Nat} (hf : f < 6) (o p : Int) :
    (((aCells src l).setIfInBounds (f * 3) (.string src)).setIfInBounds (f * 3 + 1) (.int .i64 o)).setIfInBounds (f * 3 + 2) (.int .i64 p) = aCells src (l.set f (o, p)) := by
  match l, hl with
  | [a, b, c, d, e, g], _ =>
    match f, hf with
    | 0, _ => rfl
    | 1, _ => rfl
    | 2, _ => rfl
    | 3, _ => rfl
    | 4, _ => rfl
    | 5, _ => rfl
theorem wCells_set {first last nsec digits : Int} {l : List Int} (hl : l.length = 6) {f : Nat} (hf : f < 6) (v u : Int) :
    ((wCells first last l nsec digits).setIfInBounds (2 + f) (.int .i64 v)).setIfInBounds 1 (.int .i64 u) = wCells first u (l.set f v) nsec digits := by
  match l, hl with
  | [a, b, c, d, e, g], _ =>
    match f, hf with
    | 0, _ => rfl
    | 1, _ => rfl
    | 2, _ => rfl
    | 3, _ => rfl
    | 4, _ => rfl
    | 5, _ => rfl
theorem wCells_at {first last nsec digits : Int} {l : List Int} (hl : l.length = 6) {f : Nat} (hf : f < 6) : ∃ v, (wCells first last l nsec digits)[2 + f]? = some v := by
  match l, hl with
  | [a, b, c, d, e, g], _ =>
    refine ⟨(wCells first last [a, b, c, d, e, g] nsec digits)[2 + f]'(by simp [wCells]; omega), ?_⟩
    simp


theorem Only.set2 {w : World} {b : Nat} {cs : Array Value} {t : TypeId} (h : w.heap[b]? = some (.cells cs t)) (i j : Nat) (x y : Value) :
    Only b (.cells ((cs.setIfInBounds i x).setIfInBounds j y) t) w ((w.setCell ⟨b, i, none⟩ x).setCell ⟨b, j, none⟩ y) :=
  ⟨rfl, rfl, rfl, by simp [World.setCell], by simp [World.setCell, Array.getElem?_modify, h], fun k hk => by simp [World.setCell, Array.getElem?_modify, Ne.symm hk]⟩
theorem Only.set3 {w : World} {b : Nat} {cs : Array Value} {t : TypeId} (h : w.heap[b]? = some (.cells cs t)) (i j l : Nat) (x y z : Value) :
    Only b (.cells (((cs.setIfInBounds i x).setIfInBounds j y).setIfInBounds l z) t) w (((w.setCell ⟨b, i, none⟩ x).setCell ⟨b, j, none⟩ y).setCell ⟨b, l, none⟩ z).drew :=
  ⟨rfl, rfl, rfl, by simp [World.setCell, World.drew], by simp [World.setCell, World.drew, Array.getElem?_modify, h], fun k hk => by simp [World.setCell, World.drew, Array.getElem?_modify, Ne.symm hk]⟩
def St.mark (s : St) (f : Nat) : St := { s with at_ := s.at_.set f (s.off, s.pos) }
def St.write (s : St) (f : Nat) (d : ByteArray) : St := { s with last := f, fl := s.fl.set f (val d.data.toList) }
theorem Has.mark {w w' : World} {bs bw ba : Nat} {src : ByteArray} {first nsec digits : Int} {s : St} (h : Has w bs bw ba src first nsec digits s) (f : Nat)
    (hO : Only ba (.cells (aCells src (s.at_.set f (s.off, s.pos))) 31) w w') (h1 : bs ≠ ba) (h2 : bw ≠ ba) : Has w' bs bw ba src first nsec digits (s.mark f) :=
  ⟨(hO.block bs h1).trans h.hs, (hO.block bw h2).trans h.hw, hO.here, h.lf, by simp [St.mark, h.la]⟩
theorem Has.write {w w' : World} {bs bw ba : Nat} {src : ByteArray} {first nsec digits : Int} {s : St} (h : Has w bs bw ba src first nsec digits s) (f : Nat) (d : ByteArray)
    (hO : Only bw (.cells (wCells first f (s.fl.set f (val d.data.toList)) nsec digits) 29) w w') (h1 : bs ≠ bw) (h2 : bw ≠ ba) : Has w' bs bw ba src first nsec digits (s.write f d) :=
  ⟨(hO.block bs h1).trans h.hs, hO.here, (hO.block ba (Ne.symm h2)).trans h.ha, by simp [St.write, h.lf], h.la⟩
theorem iter_block (w : World) (s : ByteArray) (pos k : Nat) (h : k < w.heap.size) : (w.iter s pos).heap[k]? = w.heap[k]? := Below.heap_alloc w _ k h
theorem Has.iter {w : World} {bs bw ba : Nat} {src : ByteArray} {first nsec digits : Int} {s : St} (h : Has w bs bw ba src first nsec digits s) (d : ByteArray) (pos : Nat)
    (h1 : bs < w.heap.size) (h2 : bw < w.heap.size) (h3 : ba < w.heap.size) : Has (w.iter d pos) bs bw ba src first nsec digits s :=
  ⟨(iter_block w d pos bs h1).trans h.hs, (iter_block w d pos bw h2).trans h.hw, (iter_block w d pos ba h3).trans h.ha, h.lf, h.la⟩
theorem Kept.iter {bs bw ba : Nat} {w wr : World} (h : Kept bs bw ba w wr) (d : ByteArray) (pos : Nat) : Kept bs bw ba w (wr.iter d pos) :=
  ⟨h.os, h.tape, h.output, Nat.le_trans h.size (by show _ ≤ (wr.heap.push _).size; simp), fun k hk h1 h2 h3 => (iter_block wr d pos k (Nat.lt_of_lt_of_le hk h.size)).trans (h.block k hk h1 h2 h3)⟩
theorem Has.hop {w w' : World} {bs bw ba : Nat} {src : ByteArray} {first nsec digits : Int} {s : St} (h : Has w bs bw ba src first nsec digits s) (n : Int)
    (hO : Only bs (.cells (sCells src (s.hop n)) 26) w w') (h1 : bs ≠ bw) (h2 : bs ≠ ba) : Has w' bs bw ba src first nsec digits (s.hop n) :=
  ⟨hO.here, (hO.block bw (Ne.symm h1)).trans h.hw, (hO.block ba (Ne.symm h2)).trans h.ha, h.lf, h.la⟩
theorem Kept.only {bs bw ba b : Nat} {o : Obj} {w wr w' : World} (h : Kept bs bw ba w wr) (hO : Only b o wr w') (hb : b = bs ∨ b = bw ∨ b = ba) : Kept bs bw ba w w' :=
  ⟨hO.os.trans h.os, hO.tape.trans h.tape, hO.output.trans h.output, by rw [hO.size]; exact h.size, fun k hk h1 h2 h3 => (hO.block k (by rcases hb with rfl | rfl | rfl <;> assumption)).trans (h.block k hk h1 h2 h3)⟩
theorem St.lead_pos (s : St) {k : Nat} (h : k ≠ 0) : s.lead k = s.hop 1 := by unfold St.lead; rw [if_neg h]
theorem St.lead_len (s : St) (k : Nat) (h1 : s.fl.length = 6) (h2 : s.at_.length = 6) : (s.lead k).fl.length = 6 ∧ (s.lead k).at_.length = 6 := by
  unfold St.lead; split <;> exact ⟨h1, h2⟩
end Go.Proofs.Ybulkdqec
