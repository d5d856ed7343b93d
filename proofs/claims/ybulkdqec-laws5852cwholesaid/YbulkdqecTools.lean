import Derived.Test.YbulkdqecFields
import Derived.Deep.OwnRows
import Derived.Laws.IdiomStrings
import Derived.Deep.WholeRow
namespace Go.Proofs.Ybulkdqec
open Go.RowKit

/-! ### strings of digits -/
def digitOf (c : UInt8) : UInt8 := 48 + c % 10
def digs (s : ByteArray) : ByteArray := ⟨(s.data.toList.map digitOf).toArray⟩
theorem digs_size (s : ByteArray) : (digs s).size = s.size := by
  show (s.data.toList.map digitOf).toArray.size = s.data.size
  simp
theorem digitOf_nat (c : UInt8) : (digitOf c).toNat = 48 + c.toNat % 10 := by
  unfold digitOf
  rw [UInt8.toNat_add, UInt8.toNat_mod]
  show (48 + c.toNat % 10) % 256 = _
  omega
theorem digs_at (s : ByteArray) (i : Nat) (h : i < s.size) : (digs s)[i]'(by rw [digs_size]; exact h) = digitOf s[i] := by
  show ((s.data.toList.map digitOf).toArray)[i]'(by simpa using h) = digitOf s[i]
  rw [List.getElem_toArray, List.getElem_map]
  rfl
theorem digs_digits (s : ByteArray) : Digits (digs s) := by
  intro i h
  rw [digs_size] at h
  rw [digs_at s i h, digitOf_nat]
  omega

/-- the j-th run's digits -/
def dd (ss : List ByteArray) (j : Nat) : ByteArray := digs (ss.getD j ByteArray.empty)

/-! ### sums of lengths -/
def tot (ss : List ByteArray) : Nat → Nat
  | 0 => 0
  | k + 1 => tot ss k + (ss.getD k ByteArray.empty).size
theorem tot_le (ss : List ByteArray) {k n : Nat} (h : k < n) : (ss.getD k ByteArray.empty).size ≤ tot ss n := by
  induction n with
  | zero => omega
  | succ n ih =>
    rcases Nat.lt_or_ge k n with h1 | h1
    · have := ih h1; simp only [tot]; omega
    · obtain rfl : k = n := by omega
      simp only [tot]; omega

/-! ### a row of strings -/
def strCells (D : Nat → ByteArray) (n k : Nat) : Array Value := ((List.range n).map fun j => Value.string (if j < k then D j else ⟨#[]⟩)).toArray
theorem strCells_made (D : Nat → ByteArray) (n : Nat) : madeCells #[.string ⟨#[]⟩] n = strCells D n 0 := by
  apply Array.ext'
  simp [madeCells, strCells]
  intro a _
  simp [Nat.mod_one]
theorem strCells_at (D : Nat → ByteArray) {n k j : Nat} (h : j < n) : (strCells D n k)[j]? = some (.string (if j < k then D j else ⟨#[]⟩)) := by
  simp [strCells, List.getElem?_range h]
theorem strCells_set (D : Nat → ByteArray) {n k : Nat} (_h : k < n) : (strCells D n k).setIfInBounds k (.string (D k)) = strCells D n (k + 1) := by
  apply Array.ext'
  simp only [Array.toList_setIfInBounds, strCells]
  apply List.ext_getElem
  · simp
  · intro i h1 h2
    simp at h1 h2
    rw [List.getElem_set]
    simp
    by_cases e : k = i
    · subst e; simp
    · rw [if_neg e]
      by_cases h3 : i < k
      · rw [if_pos h3, if_pos (by omega)]
      · rw [if_neg h3, if_neg (by omega)]

/-! ### a row of bytes -/
def byteCells (s : ByteArray) (k : Nat) : Array Value := ((List.range s.size).map fun j => Value.int .u8 (if j < k then ((digitOf (s.data.toList.getD j 0)).toNat : Int) else 0)).toArray
theorem byteCells_made (s : ByteArray) : madeCells #[.int .u8 0] s.size = byteCells s 0 := by
  apply Array.ext'
  simp [madeCells, byteCells]
  intro a _
  simp [Nat.mod_one]
theorem byteCells_at (s : ByteArray) {k j : Nat} (h : j < s.size) : (byteCells s k)[j]? = some (.int .u8 (if j < k then ((digitOf (s.data.toList.getD j 0)).toNat : Int) else 0)) := by
  simp [byteCells, List.getElem?_range h]
theorem getD_byte (s : ByteArray) {k : Nat} (h : k < s.size) : s.data.toList.getD k 0 = s[k] := by
  simp [List.getD, h]
  rfl
theorem byteCells_set (s : ByteArray) {k : Nat} (h : k < s.size) : (byteCells s k).setIfInBounds k (.int .u8 (48 + (s[k].toNat : Int) % 10)) = byteCells s (k + 1) := by
  have e0 : (48 + (s[k].toNat : Int) % 10) = ((digitOf (s.data.toList.getD k 0)).toNat : Int) := by rw [getD_byte s h, digitOf_nat]; omega
  rw [e0]
  apply Array.ext'
  simp only [Array.toList_setIfInBounds, byteCells]
  apply List.ext_getElem
  · simp
  · intro i h1 h2
    simp only [List.length_map, List.length_range] at h2
    rw [List.getElem_set]
    simp only [List.getElem_map, List.getElem_range]
    by_cases e : k = i
    · subst e; simp
    · rw [if_neg e]
      by_cases h3 : i < k
      · rw [if_pos h3, if_pos (by omega)]
      · rw [if_neg h3, if_neg (by omega)]
/-- 'string(b)' -/
theorem conv_run (w : World) (s : ByteArray) (b : Nat) (h : w.heap[b]? = some (.cells (byteCells s s.size) 5)) :
    (convert 24 9 (.slice (some ⟨b, 0, none⟩) s.size s.size)).run Yba.prog w = .ok (.string (digs s)) w := by
  have hl : (s.data.toList.map digitOf).length = s.size := by simp
  have := run_convert_bytes_back (P := Yba.prog) w 24 9 5 ⟨b, 0, none⟩ s.size (s.data.toList.map digitOf) Yba.underlying24 Yba.underlying5 Yba.underlying9 (fun j hj => by
    rw [hl] at hj
    have e1 : (⟨b, 0, none⟩ : Addr).add j = ⟨b, j, none⟩ := by simp [Addr.add]; omega
    rw [e1, cell_of h, byteCells_at s hj, if_pos hj]
    simp [List.getD, List.getElem?_eq_getElem (show j < s.data.toList.length by simpa using hj)])
  rw [hl] at this
  exact this

/-- the world behind the two boxes -/
structure Base (i0 i1 i2 i3 i4 i5 o0 o1 o2 o3 o4 o5 : Int) (w W : World) : Prop where
  size : W.heap.size = w.heap.size + 2
  bel : Below w.heap.size w W
  hi : W.heap[w.heap.size]? = some (.cells #[.int .i64 i0, .int .i64 i1, .int .i64 i2, .int .i64 i3, .int .i64 i4, .int .i64 i5] 23)
  ho : W.heap[w.heap.size + 1]? = some (.cells #[.int .i64 o0, .int .i64 o1, .int .i64 o2, .int .i64 o3, .int .i64 o4, .int .i64 o5] 23)
theorem heap_last (w : World) (o : Obj) : (w.alloc o).heap[w.heap.size]? = some o := by
  show (w.heap.push o)[w.heap.size]? = _
  simp
theorem Base.mk' (i0 i1 i2 i3 i4 i5 o0 o1 o2 o3 o4 o5 : Int) (w : World) :
    Base i0 i1 i2 i3 i4 i5 o0 o1 o2 o3 o4 o5 w ((w.alloc (.cells #[.int .i64 i0, .int .i64 i1, .int .i64 i2, .int .i64 i3, .int .i64 i4, .int .i64 i5] 23)).alloc (.cells #[.int .i64 o0, .int .i64 o1, .int .i64 o2, .int .i64 o3, .int .i64 o4, .int .i64 o5] 23)) := by
  refine ⟨by simp, ((Below.refl _ _).alloc (Nat.le_refl _) _).alloc (by simp) _, ?_, ?_⟩
  · rw [Below.heap_alloc _ _ _ (by simp)]; exact heap_last w _
  · have := heap_last (w.alloc (.cells #[.int .i64 i0, .int .i64 i1, .int .i64 i2, .int .i64 i3, .int .i64 i4, .int .i64 i5] 23)) (.cells #[.int .i64 o0, .int .i64 o1, .int .i64 o2, .int .i64 o3, .int .i64 o4, .int .i64 o5] 23)
    rw [World.size_alloc] at this
    exact this

/-- the two rows of strings, the first k laid -/
structure Two (W : World) (D : Nat → ByteArray) (n k : Nat) (w' : World) : Prop where
  h1 : w'.heap[W.heap.size]? = some (.cells (strCells D n k) 9)
  h2 : w'.heap[W.heap.size + 1]? = some (.cells (strCells D n k) 9)
  bel : Below W.heap.size W w'
  size : W.heap.size + 2 ≤ w'.heap.size
theorem Two.start (W : World) (D : Nat → ByteArray) (n : Nat) : Two W D n 0 ((W.alloc (.cells (strCells D n 0) 9)).alloc (.cells (strCells D n 0) 9)) := by
  refine ⟨?_, ?_, ((Below.refl _ _).alloc (Nat.le_refl _) _).alloc (by simp) _, by simp⟩
  · rw [Below.heap_alloc _ _ _ (by simp)]; exact heap_last W _
  · have := heap_last (W.alloc (.cells (strCells D n 0) 9)) (.cells (strCells D n 0) 9)
    rw [World.size_alloc] at this
    exact this
theorem Two.next {W w' : World} {D : Nat → ByteArray} {n k : Nat} (h : Two W D n k w') (hk : k < n) (X : Obj) :
    Two W D n (k + 1) (((w'.alloc X).setCell ⟨W.heap.size, k, none⟩ (.string (D k))).setCell ⟨W.heap.size + 1, k, none⟩ (.string (D k))) := by
  have hs := h.size
  have e1 : (w'.alloc X).heap[W.heap.size]? = some (.cells (strCells D n k) 9) := (Below.heap_alloc _ _ _ (by omega)).trans h.h1
  have e2 : (w'.alloc X).heap[W.heap.size + 1]? = some (.cells (strCells D n k) 9) := (Below.heap_alloc _ _ _ (by omega)).trans h.h2
  refine ⟨?_, ?_, ((h.bel.alloc (by omega) X).setCell (Nat.le_refl _) _).setCell (by simp) _, by simp [World.setCell]; omega⟩
  · rw [Below.heap_setCell _ _ _ _ (by simp)]
    simp only [World.setCell, Array.getElem?_modify, if_true, e1, Option.map_some]
    rw [strCells_set D hk]
    simp
  · simp only [World.setCell, Array.getElem?_modify, if_true]
    rw [if_neg (by omega), e2]
    simp only [Option.map_some]
    rw [strCells_set D hk]
    simp

def dsl (ss : List ByteArray) (n : Nat) : List ByteArray := (List.range n).map (dd ss)
theorem dsl_at (ss : List ByteArray) {n k : Nat} (h : k < n) : (dsl ss n).getD k ByteArray.empty = dd ss k := by
  simp [dsl, List.getD, List.getElem?_range h]
theorem Only.set3' {w : World} {b : Nat} {cs : Array Value} {t : TypeId} (h : w.heap[b]? = some (.cells cs t)) (i j l : Nat) (x y z : Value) :
    Only b (.cells (((cs.setIfInBounds i x).setIfInBounds j y).setIfInBounds l z) t) w (((w.setCell ⟨b, i, none⟩ x).setCell ⟨b, j, none⟩ y).setCell ⟨b, l, none⟩ z) :=
  ⟨rfl, rfl, rfl, by simp [World.setCell], by simp [World.setCell, Array.getElem?_modify, h], fun k hk => by simp [World.setCell, Array.getElem?_modify, Ne.symm hk]⟩

/-- the three blocks that the law lays first -/
structure Three (wc : World) (S W A : Obj) (w' : World) : Prop where
  hs : w'.heap[wc.heap.size]? = some S
  hw : w'.heap[wc.heap.size + 1]? = some W
  ha : w'.heap[wc.heap.size + 2]? = some A
  bel : Below wc.heap.size wc w'
  size : w'.heap.size = wc.heap.size + 3
theorem Three.mk' (wc : World) (S W A : Obj) : Three wc S W A (((wc.alloc S).alloc W).alloc A).drew.drew.drew.drew.drew.drew := by
  have z1 : (wc.alloc S).heap.size = wc.heap.size + 1 := World.size_alloc ..
  have z2 : ((wc.alloc S).alloc W).heap.size = wc.heap.size + 2 := by rw [World.size_alloc, z1]
  refine ⟨?_, ?_, ?_, ?_, ?_⟩
  · show (((wc.alloc S).alloc W).alloc A).heap[wc.heap.size]? = _
    rw [Below.heap_alloc _ _ _ (by omega), Below.heap_alloc _ _ _ (by omega)]; exact heap_last _ _
  · show (((wc.alloc S).alloc W).alloc A).heap[wc.heap.size + 1]? = _
    rw [Below.heap_alloc _ _ _ (by omega)]
    have := heap_last (wc.alloc S) W
    rw [z1] at this; exact this
  · show (((wc.alloc S).alloc W).alloc A).heap[wc.heap.size + 2]? = _
    have := heap_last ((wc.alloc S).alloc W) A
    rw [z2] at this; exact this
  · exact (((((((((Below.refl _ _).alloc (Nat.le_refl _) S).alloc (by omega) W).alloc (by omega) A).drew).drew).drew).drew).drew).drew
  · show (((wc.alloc S).alloc W).alloc A).heap.size = _
    rw [World.size_alloc, z2]
/-- the five blocks that the law lays: the scanner, w, at, and the two that it expects -/
structure Five (M : Nat) (wc : World) (src : ByteArray) (first nsec digits : Int) (s0 st : St) (w' : World) : Prop where
  hs : w'.heap[M]? = some (.cells (sCells src s0) 26)
  hw : w'.heap[M + 1]? = some (.cells (wCells first s0.last s0.fl nsec digits) 29)
  ha : w'.heap[M + 2]? = some (.cells (aCells src s0.at_) 31)
  he : w'.heap[M + 3]? = some (.cells (wCells first st.last st.fl nsec digits) 29)
  hq : w'.heap[M + 4]? = some (.cells (aCells src st.at_) 31)
  lf : st.fl.length = 6
  la : st.at_.length = 6
  bel : Below M wc w'
  size : M + 5 ≤ w'.heap.size
theorem Only.below {b : Nat} {o : Obj} {w w' : World} (h : Only b o w w') {B : Nat} (hb : B ≤ b) : Below B w w' :=
  ⟨h.os, h.tape, h.output, by rw [h.size]; exact Nat.le_refl _, fun k hk => h.block k (by omega)⟩
theorem Five.start {wc : World} {src : ByteArray} {first nsec digits : Int} {s0 : St} {w' : World} (h : Three wc (.cells (sCells src s0) 26) (.cells (wCells first s0.last s0.fl nsec digits) 29) (.cells (aCells src s0.at_) 31) w') (lf : s0.fl.length = 6) (la : s0.at_.length = 6) :
    Five wc.heap.size wc src first nsec digits s0 s0 ((w'.alloc (.cells (wCells first s0.last s0.fl nsec digits) 29)).alloc (.cells (aCells src s0.at_) 31)) := by
  have hz := h.size
  have z1 : (w'.alloc (.cells (wCells first s0.last s0.fl nsec digits) 29)).heap.size = wc.heap.size + 4 := by rw [World.size_alloc, hz]
  refine ⟨?_, ?_, ?_, ?_, ?_, lf, la, ?_, ?_⟩
  · rw [Below.heap_alloc _ _ _ (by omega), Below.heap_alloc _ _ _ (by omega)]; exact h.hs
  · rw [Below.heap_alloc _ _ _ (by omega), Below.heap_alloc _ _ _ (by omega)]; exact h.hw
  · rw [Below.heap_alloc _ _ _ (by omega), Below.heap_alloc _ _ _ (by omega)]; exact h.ha
  · rw [Below.heap_alloc _ _ _ (by omega)]
    have := heap_last w' (.cells (wCells first s0.last s0.fl nsec digits) 29)
    rw [hz] at this; exact this
  · have := heap_last (w'.alloc (.cells (wCells first s0.last s0.fl nsec digits) 29)) (.cells (aCells src s0.at_) 31)
    rw [z1] at this; exact this
  · exact (h.bel.alloc (by omega) _).alloc (by omega) _
  · rw [World.size_alloc, z1]; omega
theorem Five.hop {M : Nat} {wc : World} {src : ByteArray} {first nsec digits : Int} {s0 st : St} {w' : World} (h : Five M wc src first nsec digits s0 st w') (n : Int) : Five M wc src first nsec digits s0 (st.hop n) w' :=
  ⟨h.hs, h.hw, h.ha, h.he, h.hq, h.lf, h.la, h.bel, h.size⟩
theorem Five.lead {M : Nat} {wc : World} {src : ByteArray} {first nsec digits : Int} {s0 st : St} {w' : World} (h : Five M wc src first nsec digits s0 st w') (k : Nat) : Five M wc src first nsec digits s0 (st.lead k) w' := by
  unfold St.lead
  split
  · exact h
  · exact h.hop 1
theorem Five.mark {M : Nat} {wc : World} {src : ByteArray} {first nsec digits : Int} {s0 st : St} {w' w2 : World} (h : Five M wc src first nsec digits s0 st w') (f : Nat)
    (hO : Only (M + 4) (.cells (aCells src (st.at_.set f (st.off, st.pos))) 31) w' w2) : Five M wc src first nsec digits s0 (st.mark f) w2 :=
  ⟨(hO.block _ (by omega)).trans h.hs, (hO.block _ (by omega)).trans h.hw, (hO.block _ (by omega)).trans h.ha, (hO.block _ (by omega)).trans h.he, hO.here, h.lf, by simp [St.mark, h.la], h.bel.trans (hO.below (by omega)), by rw [hO.size]; exact h.size⟩
theorem Five.write {M : Nat} {wc : World} {src : ByteArray} {first nsec digits : Int} {s0 st : St} {w' w2 : World} (h : Five M wc src first nsec digits s0 st w') (f : Nat) (d : ByteArray)
    (hO : Only (M + 3) (.cells (wCells first f (st.fl.set f (val d.data.toList)) nsec digits) 29) w' w2) : Five M wc src first nsec digits s0 (st.write f d) w2 :=
  ⟨(hO.block _ (by omega)).trans h.hs, (hO.block _ (by omega)).trans h.hw, (hO.block _ (by omega)).trans h.ha, hO.here, (hO.block _ (by omega)).trans h.hq, by simp [St.write, h.lf], h.la, h.bel.trans (hO.below (by omega)), by rw [hO.size]; exact h.size⟩

/-! ### whole rows, loaded and stored in one step -/
theorem wpList_store_last {P : Program} {ops : Array Oper} {rest : List Oper} {o : Oper} {a : Act} {Q : Exit → Act → World → Prop} (hgd : o.guard = none) (ty : TypeId) (x y : Operand) (ho : o.op = .store ty x y)
    (w : World) (t : TypeId) (old cells : Array Value) (hx : a.eval x = .pointer (some ⟨w.heap.size, 0, none⟩)) (hy : a.eval y = .agg cells) (hi : (P.info? ty).map (·.size) = some cells.size)
    (hold : old.size = cells.size) (h1 : cells.all (·.oneCell') = true)
    (h : wpList P ops Q rest (a.put o.dst undef) (w.alloc (.cells cells t))) : wpList P ops Q (o :: rest) a (w.alloc (.cells old t)) := by
  refine wpList_store_row hgd ty x y ho w.heap.size cells hx hy t old (heap_alloc_last w _) hi hold h1 ?_
  rw [World.setRow_alloc_new]
  exact h
theorem wCells_size {first last nsec digits : Int} {l : List Int} (hl : l.length = 6) : (wCells first last l nsec digits).size = 10 := by simp [wCells, hl]
theorem aCells_size {src : ByteArray} {l : List (Int × Int)} (hl : l.length = 6) : (aCells src l).size = 18 := by
  match l, hl with
  | [a, b, c, d, e, g], _ => rfl
theorem wCells_one {first last nsec digits : Int} {l : List Int} (hl : l.length = 6) : (wCells first last l nsec digits).all (·.oneCell') = true := by
  match l, hl with
  | [a, b, c, d, e, g], _ => simp [wCells, Value.oneCell']
theorem aCells_one {src : ByteArray} {l : List (Int × Int)} (hl : l.length = 6) : (aCells src l).all (·.oneCell') = true := by
  match l, hl with
  | [a, b, c, d, e, g], _ => simp [aCells, Value.oneCell']
theorem size29 : (Yba.prog.info? 29).map (·.size) = some 10 := by kernel_rfl
theorem size31 : (Yba.prog.info? 31).map (·.size) = some 18 := by kernel_rfl
theorem size26 : (Yba.prog.info? 26).map (·.size) = some 3 := by kernel_rfl
end Go.Proofs.Ybulkdqec
