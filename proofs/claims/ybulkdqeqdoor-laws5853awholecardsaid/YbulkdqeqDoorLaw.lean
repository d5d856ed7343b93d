import Derived.Test.YbulkdqeqDoorMake
import Derived.Laws.CopyOwn
namespace Go.Proofs.YbulkdqeqDoor
open Go.RowKit
theorem add0 (b j : Nat) : (⟨b, 0, none⟩ : Addr).add j = ⟨b, j, none⟩ := by unfold Addr.add; split <;> simp_all
theorem size5 : (Ybad.prog.info? 5).map (·.size) = some 1 := by kernel_rfl
theorem step_copy4 {ops : Array Oper} {o : Oper} {a : Act} {w : World} {K : Act → World → Prop} {Q : Exit → Act → World → Prop} {E : Prop} (hgd : o.guard = none) (d s : Operand)
    (ho : o.op = .call { callee := .builtin .copy, args := #[d, s], argTypes := #[22, 22] }) (g : Nat) (ad : Addr) (sCap : Nat) (hd : a.eval d = .slice (some ⟨g, 0, none⟩) 4 4) (hs : a.eval s = .slice (some ad) 4 sCap)
    (cur : Array Value) (hc : cur.size = 4) (t : TypeId) (hg : w.heap[g]? = some (.cells cur t (0, 0))) (cs : List Value) (hn : cs.length = 4)
    (hsrc : ∀ j v, cs[j]? = some v → w.cell? (ad.add j) = some v) (h1 : ∀ v ∈ cs, v.oneCell' = true)
    (h : ∀ w', Only g (.cells cs.toArray t) w w' → K (a.put o.dst (.int .i64 4)) w') :
    if Region.wanted o (yielded ops a.tmps) = true then Oper.wp Ybad.prog o a w K Q else E := by
  have hw : Region.wanted o (yielded ops a.tmps) = true := by simp [Region.wanted, hgd]
  rw [if_pos hw]
  have hrun := run_copy_row (P := Ybad.prog) w 22 22 o.type 5 g 0 4 4 ad 4 sCap cur t cs Ybad.underlying22 size5 hg (by rw [hn]; rfl) hsrc (by omega) h1
  unfold Oper.wp
  simp [execOp, ho, resolve, invoke, builtin, hd, hs, hrun, Result.andThen]
  rw [hn]
  refine h _ ⟨rfl, rfl, rfl, by simp, ?_, fun k hk => setRow_other w g k _ hk⟩
  rw [setRow_heap w g cur _ t (0, 0) hg]
  congr 2
  rw [List.drop_eq_nil_of_le (by simp [hc])]
  simp
theorem set3 (w : World) (b : Nat) (t : TypeId) (x0 x1 x2 y0 y1 y2 : Value) (hb : w.heap[b]? = some (.cells #[x0, x1, x2] t)) : Only b (.cells #[y0, y1, y2] t) w (((w.setCell ⟨b, 0, none⟩ y0).setCell ⟨b, 1, none⟩ y1).setCell ⟨b, 2, none⟩ y2) :=
  ((Only.set hb 0 y0).next 1 y1).next 2 y2
/-- what lies in memory when the address is made -/
structure LR (B hi lo : Nat) (z : Option Addr) (X : Array Value) (rb : Nat) (bs : List UInt8) (w : World) : Prop where
  ab : w.heap[B + 1 + 1]? = some (.cells #[.int .u64 hi, .int .u64 lo, .pointer z] 33)
  ib : w.heap[B + 1]? = some (.cells X 25)
  rw_ : ∃ R t, w.heap[rb]? = some (.cells R t) ∧ R.toList = bvs bs
/-- what is kept from here to the end: the address' box, the id's box, the raw address, the given slice and its copy -/
structure St (N B C : Nat) (a4 a6 : Addr) (hi lo p : Nat) (z : Option Addr) (X : Array Value) (rb : Nat) (bs : List UInt8) (ad ad' : Option Addr) (n cap cap' : Nat) (ds : List UInt8) (w : World) : Prop where
  bx : Bx N C a4 a6 hi lo p z w
  ib : w.heap[B + 1]? = some (.cells X 25)
  rw_ : ∃ R t, w.heap[rb]? = some (.cells R t) ∧ R.toList = bvs bs
  gv : Bytes ad n cap ds w
  sv : Bytes ad' n cap' ds w
theorem St.below {N B C : Nat} {a4 a6 : Addr} {hi lo p : Nat} {z : Option Addr} {X : Array Value} {rb : Nat} {bs : List UInt8} {ad ad' : Option Addr} {n cap cap' : Nat} {ds : List UInt8} {w w' : World}
    (h : St N B C a4 a6 hi lo p z X rb bs ad ad' n cap cap' ds w) (hb : Below w.heap.size w w') : St N B C a4 a6 hi lo p z X rb bs ad ad' n cap cap' ds w' := by
  obtain ⟨R, t, hr, hR⟩ := h.rw_
  exact ⟨h.bx.below hb, (hb.block _ (Array.getElem?_eq_some_iff.1 h.ib).1).trans h.ib, ⟨R, t, (hb.block _ (Array.getElem?_eq_some_iff.1 hr).1).trans hr, hR⟩, h.gv.below hb, h.sv.below hb⟩
theorem St.drew {N B C : Nat} {a4 a6 : Addr} {hi lo p : Nat} {z : Option Addr} {X : Array Value} {rb : Nat} {bs : List UInt8} {ad ad' : Option Addr} {n cap cap' : Nat} {ds : List UInt8} {w : World}
    (h : St N B C a4 a6 hi lo p z X rb bs ad ad' n cap cap' ds w) : St N B C a4 a6 hi lo p z X rb bs ad ad' n cap cap' ds w.drew := h.below (Below.refl _ _).drew
/-- the box of the writer -/
structure WB (E g1 n1 c1 n : Nat) (s : ByteArray) (xs : List UInt8) (w : World) : Prop where
  wb : w.heap[E]? = some (.cells #[.slice (some ⟨g1, 0, none⟩) n1 c1, .int .i64 n, .string s, .int .i64 (1 + ((dg s.size : Int) + 12 + s.size)), .string ⟨#[105, 100]⟩] 42)
  ln : n1 = xs.length
  bf : Buf w g1 c1 xs
/-- what region 17 reads -/
abbrev SS (B C hi lo p : Nat) (z : Option Addr) (X : Array Value) (w : World) : Prop := w.cell? ⟨C, 0, none⟩ = some (.int .u64 hi) ∧ w.cell? ⟨C, 1, none⟩ = some (.int .u64 lo) ∧ w.cell? ⟨C, 2, none⟩ = some (.pointer z) ∧ w.cell? ⟨C, 3, none⟩ = some (.int .u16 p) ∧ w.rangeAt (B + 1) 0 X.toList
theorem St.ss {N B C : Nat} {a4 a6 : Addr} {hi lo p : Nat} {z : Option Addr} {X : Array Value} {rb : Nat} {bs : List UInt8} {ad ad' : Option Addr} {n cap cap' : Nat} {ds : List UInt8} {w : World}
    (h : St N B C a4 a6 hi lo p z X rb bs ad ad' n cap cap' ds w) : SS B C hi lo p z X w := ⟨h.bx.c0, h.bx.c1, h.bx.c2, h.bx.c3, fun j v hv => by simpa [World.cell?, h.ib] using hv⟩
theorem St.gv' {N B C : Nat} {a4 a6 : Addr} {hi lo p : Nat} {z : Option Addr} {X : Array Value} {rb : Nat} {bs : List UInt8} {ad ad' : Option Addr} {n cap cap' : Nat} {ds : List UInt8} {w : World}
    (h : St N B C a4 a6 hi lo p z X rb bs ad ad' n cap cap' ds w) : Hid (Bytes ad n n ds w) := ⟨h.gv.len, h.gv.nil, h.gv.cell, Nat.le_refl _⟩
theorem ss_set {B C hi lo p : Nat} {z : Option Addr} {X : Array Value} {w : World} {E : Nat} (h : SS B C hi lo p z X w) (h1 : E ≠ C) (h2 : E ≠ B + 1) (i : Nat) (v : Value) : SS B C hi lo p z X (w.setCell ⟨E, i, none⟩ v) := by
  have e : ∀ b j, E ≠ b → (w.setCell ⟨E, i, none⟩ v).cell? ⟨b, j, none⟩ = w.cell? ⟨b, j, none⟩ := fun b j hb => World.cell?_setCell_far _ _ _ _ hb
  exact ⟨(e _ _ h1).trans h.1, (e _ _ h1).trans h.2.1, (e _ _ h1).trans h.2.2.1, (e _ _ h1).trans h.2.2.2.1, fun j u hu => (e _ _ h2).trans (h.2.2.2.2 j u hu)⟩
theorem ss5 {B C hi lo p : Nat} {z : Option Addr} {X : Array Value} {w : World} {E : Nat} (h : SS B C hi lo p z X w) (h1 : E ≠ C) (h2 : E ≠ B + 1) (v0 v1 v2 v3 v4 : Value) : SS B C hi lo p z X (((((w.setCell ⟨E, 0, none⟩ v0).setCell ⟨E, 1, none⟩ v1).setCell ⟨E, 2, none⟩ v2).setCell ⟨E, 3, none⟩ v3).setCell ⟨E, 4, none⟩ v4) :=
  ss_set (ss_set (ss_set (ss_set (ss_set h h1 h2 _ _) h1 h2 _ _) h1 h2 _ _) h1 h2 _ _) h1 h2 _ _
theorem ss_alloc {B C hi lo p : Nat} {z : Option Addr} {X : Array Value} {w : World} (h : SS B C hi lo p z X w) (o : Obj) : SS B C hi lo p z X (w.alloc o) := by
  have e : ∀ b j v, w.cell? ⟨b, j, none⟩ = some v → (w.alloc o).cell? ⟨b, j, none⟩ = some v := fun b j v hv => by rw [World.cell?_alloc_some _ _ _ (by simp [hv])]; exact hv
  exact ⟨e _ _ _ h.1, e _ _ _ h.2.1, e _ _ _ h.2.2.1, e _ _ _ h.2.2.2.1, fun j u hu => e _ _ _ (h.2.2.2.2 j u hu)⟩
theorem St.ne {N B C : Nat} {a4 a6 : Addr} {hi lo p : Nat} {z : Option Addr} {X : Array Value} {rb : Nat} {bs : List UInt8} {ad ad' : Option Addr} {n cap cap' : Nat} {ds : List UInt8} {w : World}
    (h : St N B C a4 a6 hi lo p z X rb bs ad ad' n cap cap' ds w) : w.heap.size ≠ C ∧ w.heap.size ≠ B + 1 := ⟨Nat.ne_of_gt h.bx.lt, Nat.ne_of_gt (Array.getElem?_eq_some_iff.1 h.ib).1⟩
theorem set5 (w : World) (b : Nat) (t : TypeId) (x0 x1 x2 x3 x4 y0 y1 y2 y3 y4 : Value) (hb : w.heap[b]? = some (.cells #[x0, x1, x2, x3, x4] t)) : Only b (.cells #[y0, y1, y2, y3, y4] t) w (((((w.setCell ⟨b, 0, none⟩ y0).setCell ⟨b, 1, none⟩ y1).setCell ⟨b, 2, none⟩ y2).setCell ⟨b, 3, none⟩ y3).setCell ⟨b, 4, none⟩ y4) :=
  ((((Only.set hb 0 y0).next 1 y1).next 2 y2).next 3 y3).next 4 y4
/-- a buffer that lies above all that lay in W when the buffer was made -/
structure On (M : Nat) (W : World) (g : Nat) (w : World) : Prop where
  g : M ≤ g
  b : Below M W w
  s : M ≤ w.heap.size
theorem On.step {M : Nat} {W : World} {g g' : Nat} {w w' : World} (h : On M W g w) (hs : Step w w' g g') : On M W g' w' := ⟨hs.ge h.s h.g, h.b.trans (hs.under h.s h.g), Nat.le_trans h.s hs.size⟩
theorem On.alloc {M : Nat} {W : World} {g : Nat} {w : World} (h : On M W g w) (o : Obj) : On M W g (w.alloc o) := ⟨h.g, h.b.alloc h.s _, by have := h.s; simp; omega⟩
theorem On.st {M : Nat} {W : World} {g : Nat} {w : World} (h : On M W g w) (hM : M = W.heap.size) {N B C : Nat} {a4 a6 : Addr} {hi lo p : Nat} {z : Option Addr} {X : Array Value} {rb : Nat} {bs : List UInt8} {ad ad' : Option Addr} {n cap cap' : Nat} {ds : List UInt8}
    (hS : St N B C a4 a6 hi lo p z X rb bs ad ad' n cap cap' ds W) : St N B C a4 a6 hi lo p z X rb bs ad ad' n cap cap' ds w := hS.below (by rw [← hM]; exact h.b)
theorem WB.below {E g1 n1 c1 n : Nat} {s : ByteArray} {xs : List UInt8} {w w' : World} (h : WB E g1 n1 c1 n s xs w) (hb : Below w.heap.size w w') : WB E g1 n1 c1 n s xs w' := ⟨(hb.block _ (Array.getElem?_eq_some_iff.1 h.wb).1).trans h.wb, h.ln, h.bf.below hb⟩
theorem sl0 (ad : Option Addr) (n : Nat) : sliced ad 0 n n 1 = .slice ad n n := by
  unfold sliced
  cases ad <;> simp [Addr.add_zero']
set_option maxRecDepth 100000 in
set_option maxHeartbeats 1000000 in
theorem law_any (w : World) (ad : Option Addr) (n cap N : Nat) (ds : List UInt8) (s : ByteArray) (k p : Nat) (b0 b1 b2 b3 b4 b5 b6 b7 b8 b9 b10 b11 b12 b13 b14 b15 : Nat) (a4 a6 : Addr) (X : Array Value) (ids : List UInt8)
    (hd : Hid (Bytes ad n cap ds w)) (hk : k < 256) (hp : p < 65536) (h0 : b0 < 256) (h1 : b1 < 256) (h2 : b2 < 256) (h3 : b3 < 256) (h4 : b4 < 256) (h5 : b5 < 256) (h6 : b6 < 256) (h7 : b7 < 256) (h8 : b8 < 256) (h9 : b9 < 256) (h10 : b10 < 256) (h11 : b11 < 256) (h12 : b12 < 256) (h13 : b13 < 256) (h14 : b14 < 256) (h15 : b15 < 256) (hZ : Hid (Z N a4 a6 w)) (hX : Hid (X.toList = bvs ids)) (hX20 : X.size = 20) :
    Calls Ybad.prog 3 #[.slice ad n cap, .string s, .int .u8 k, .agg #[.int .u8 b0, .int .u8 b1, .int .u8 b2, .int .u8 b3, .int .u8 b4, .int .u8 b5, .int .u8 b6, .int .u8 b7, .int .u8 b8, .int .u8 b9, .int .u8 b10, .int .u8 b11, .int .u8 b12, .int .u8 b13, .int .u8 b14, .int .u8 b15], .int .u16 p, .agg X] w fun e w' => e = .returned (.bool true) ∧ Below w.heap.size w w' := by
  by_cases hsmall : 1048576 < n ∨ 1048576 < s.size
  · go_enter Ybad.func3, Ybad.ntmps3
    by_cases hb1 : 1048576 < n
    · have hb1' : (1048576 : Int) < (n : Int) := by omega
      go_wp2
      go_ret
      exact ⟨rfl, (((Below.refl _ _).alloc (Nat.le_refl _) _).alloc (by simp) _)⟩
    · have hb1' : ¬ (1048576 : Int) < (n : Int) := by omega
      have hb2' : (1048576 : Int) < (s.size : Int) := by omega
      go_wp2
      go_ret
      exact ⟨rfl, (((Below.refl _ _).alloc (Nat.le_refl _) _).alloc (by simp) _)⟩
  · have q1 : n ≤ 1048576 := by omega
    have q2 : s.size ≤ 1048576 := by omega
    clear hsmall
    go_enter Ybad.func3, Ybad.ntmps3
    go_upto_block 0 with fail
    obtain ⟨W, hW⟩ : ∃ W, W = ((w.alloc (.cells #[.int .u8 b0, .int .u8 b1, .int .u8 b2, .int .u8 b3, .int .u8 b4, .int .u8 b5, .int .u8 b6, .int .u8 b7, .int .u8 b8, .int .u8 b9, .int .u8 b10, .int .u8 b11, .int .u8 b12, .int .u8 b13, .int .u8 b14, .int .u8 b15] 23)).alloc (.cells X 25)).alloc (.cells #[.int .u64 0, .int .u64 0, .pointer none] 33) := ⟨_, rfl⟩
    rw [← hW]
    have BW : Hid (Below w.heap.size w W) := by
      rw [hW]
      exact (((Below.refl _ _).alloc (Nat.le_refl _) _).alloc (by simp) _).alloc (by simp; omega) _
    have LW : W.heap.size = w.heap.size + 1 + 1 + 1 := by rw [hW]; simp
    have ipb : Hid (W.heap[w.heap.size]? = some (.cells #[.int .u8 b0, .int .u8 b1, .int .u8 b2, .int .u8 b3, .int .u8 b4, .int .u8 b5, .int .u8 b6, .int .u8 b7, .int .u8 b8, .int .u8 b9, .int .u8 b10, .int .u8 b11, .int .u8 b12, .int .u8 b13, .int .u8 b14, .int .u8 b15] 23)) := by
      rw [hW, Below.heap_alloc _ _ _ (by simp; omega)]
      exact heap_alloc2_old w _ _
    have idb : Hid (W.heap[w.heap.size + 1]? = some (.cells X 25)) := by
      rw [hW, Below.heap_alloc _ _ _ (by simp)]
      exact heap_alloc2_new w _ _
    have abb : Hid (W.heap[w.heap.size + 1 + 1]? = some (.cells #[.int .u64 0, .int .u64 0, .pointer none] 33)) := by
      show _ = _
      rw [hW]
      simpa using heap_alloc_new ((w.alloc (.cells #[.int .u8 b0, .int .u8 b1, .int .u8 b2, .int .u8 b3, .int .u8 b4, .int .u8 b5, .int .u8 b6, .int .u8 b7, .int .u8 b8, .int .u8 b9, .int .u8 b10, .int .u8 b11, .int .u8 b12, .int .u8 b13, .int .u8 b14, .int .u8 b15] 23)).alloc (.cells X 25)) _
    have ZW : Hid (Z N a4 a6 W) := hZ.out.below BW.out
    clear hW
    obtain ⟨B, hB⟩ : ∃ B, B = w.heap.size := ⟨_, rfl⟩
    have HB : Hid (B = w.heap.size) := hB
    rw [← hB] at BW LW ipb idb abb ⊢
    clear hB
    go_cut [14, 31] (fun raw _ w' => ∃ (hi lo : Nat) (z : Option Addr) (b : Bool) (bs : List UInt8) (rb m : Nat), raw = .slice (some ⟨rb, 0, none⟩) m m ∧ Hid (m = bs.length) ∧ Hid (bs.length = if b then 4 else 16) ∧ Hid (Kd z b a4 a6) ∧ Hid ((row b hi lo).toList = bvs bs) ∧ Hid (LR B hi lo z X rb bs w') ∧ Hid (Below B w w') ∧ Hid (B + 3 ≤ w'.heap.size))
    case first =>
      by_cases e1 : k % 3 = 1
      · have e1' : (k : Int) % 3 = 1 := by omega
        go_upto_region 9 with fail
        have hg4 : Hid ((W.alloc (.cells #[.int .u8 0, .int .u8 0, .int .u8 0, .int .u8 0] 34)).drew.heap[B + 1 + 1 + 1]? = some (.cells #[.int .u8 0, .int .u8 0, .int .u8 0, .int .u8 0] 34)) := by
          show _ = _
          rw [← LW]
          exact heap_alloc_new W _
        have sr : Hid (∀ j v, ([.int .u8 b0, .int .u8 b1, .int .u8 b2, .int .u8 b3] : List Value)[j]? = some v → (W.alloc (.cells #[.int .u8 0, .int .u8 0, .int .u8 0, .int .u8 0] 34)).drew.cell? ((⟨B, 0, none⟩ : Addr).add j) = some v) := fun j v hv => by
          have hb : (W.alloc (.cells #[.int .u8 0, .int .u8 0, .int .u8 0, .int .u8 0] 34)).drew.heap[B]? = some (.cells #[.int .u8 b0, .int .u8 b1, .int .u8 b2, .int .u8 b3, .int .u8 b4, .int .u8 b5, .int .u8 b6, .int .u8 b7, .int .u8 b8, .int .u8 b9, .int .u8 b10, .int .u8 b11, .int .u8 b12, .int .u8 b13, .int .u8 b14, .int .u8 b15] 23) := (Below.heap_alloc W _ B (by omega)).trans ipb.out
          rw [add0]
          match j, hv with
          | 0, hv => simpa [World.cell?, hb] using hv
          | 1, hv => simpa [World.cell?, hb] using hv
          | 2, hv => simpa [World.cell?, hb] using hv
          | 3, hv => simpa [World.cell?, hb] using hv
        go_region_held3 (fun _ => True) (trivial) (first
          | (refine step_copy4 rfl (.tmp 35) (.tmp 36) rfl (B + 1 + 1 + 1) ⟨B, 0, none⟩ 16 rfl rfl #[.int .u8 0, .int .u8 0, .int .u8 0, .int .u8 0] rfl 34 hg4.out [.int .u8 b0, .int .u8 b1, .int .u8 b2, .int .u8 b3] rfl sr.out (by simp [Value.oneCell']) ?_; intro w2 hO2))
        have h24 : w2.heap[B + 1 + 1 + 1]? = some (.cells #[.int .u8 b0, .int .u8 b1, .int .u8 b2, .int .u8 b3] 34) := hO2.here
        have A2 : Hid (∀ j, j < B + 1 + 1 + 1 → w2.heap[j]? = W.heap[j]?) := fun j hj => (hO2.block j (by omega)).trans (Below.heap_alloc W _ j (by omega))
        have S2 : w2.heap.size = B + 1 + 1 + 1 + 1 := by rw [hO2.size]; simp [LW]
        have B2 : Hid (Below B w w2) := (BW.out.alloc (by omega) _).drew.trans (hO2.below (by omega))
        have Z2 : Hid (Z N a4 a6 w2) := ZW.out.keep (by omega) (fun j hj => A2.out j (by have := hZ.out.le; have := HB.out; omega))
        have d0 : w2.cell? ⟨B + 1 + 1 + 1, 0, none⟩ = some (.int .u8 b0) := by simp [World.cell?, h24]
        have d1 : w2.cell? ⟨B + 1 + 1 + 1, 1, none⟩ = some (.int .u8 b1) := by simp [World.cell?, h24]
        have d2 : w2.cell? ⟨B + 1 + 1 + 1, 2, none⟩ = some (.int .u8 b2) := by simp [World.cell?, h24]
        have d3 : w2.cell? ⟨B + 1 + 1 + 1, 3, none⟩ = some (.int .u8 b3) := by simp [World.cell?, h24]
        have H24 : Hid (w2.heap[B + 1 + 1 + 1]? = some (.cells #[.int .u8 b0, .int .u8 b1, .int .u8 b2, .int .u8 b3] 34)) := h24
        clear h24 hO2 hg4 sr
        go_wp2_with fail
        refine (from4_any b0 b1 b2 b3 a4 w2 h0 h1 h2 h3 Z2.out.c0 (by omega)).mono ?_
        rintro e w3 ⟨rfl, h3'⟩
        have a3 : w3.heap[B + 1 + 1]? = some (.cells #[.int .u64 0, .int .u64 0, .pointer none] 33) := (h3'.block _ (by omega)).trans ((A2.out _ (by omega)).trans abb.out)
        have A3 : Hid (w3.heap[B + 1 + 1]? = some (.cells #[.int .u64 0, .int .u64 0, .pointer none] 33)) := a3
        have t0 : w3.cell? ⟨B + 1 + 1, 0, none⟩ = some (.int .u64 0) := by simp [World.cell?, a3]
        have t1 : w3.cell? ⟨B + 1 + 1, 1, none⟩ = some (.int .u64 0) := by simp [World.cell?, a3]
        have t2 : w3.cell? ⟨B + 1 + 1, 2, none⟩ = some (.pointer none) := by simp [World.cell?, a3]
        have tf : ∀ i, w3.frozen? ⟨B + 1 + 1, i, none⟩ = false := fun i => by simp [World.frozen?, a3]
        have I3 : Hid (w3.heap[B + 1]? = some (.cells X 25)) := (h3'.block _ (by omega)).trans ((A2.out _ (by omega)).trans idb.out)
        have R3 : Hid (w3.heap[B + 1 + 1 + 1]? = some (.cells #[.int .u8 b0, .int .u8 b1, .int .u8 b2, .int .u8 b3] 34)) := (h3'.block _ (by omega)).trans H24.out
        have B3 : Hid (Below B w w3) := B2.out.trans (h3'.mono (by omega))
        have S3 : B + 4 ≤ w3.heap.size := by have := h3'.size; omega
        clear a3 h3' d0 d1 d2 d3 H24 A2
        obtain ⟨lo, hlo⟩ : ∃ lo : Nat, lo = 281470681743360 + b0 * 16777216 + b1 * 65536 + b2 * 256 + b3 := ⟨_, rfl⟩
        have HLO : Hid (lo = 281470681743360 + b0 * 16777216 + b1 * 65536 + b2 * 256 + b3) := hlo
        rw [← hlo]
        clear hlo
        go_wp2_with fail
        go_meet
        case rel =>
          have O := set3 w3 (B + 1 + 1) 33 _ _ _ (.int .u64 0) (.int .u64 lo) (.pointer (some a4)) A3.out
          refine ⟨0, lo, some a4, true, [UInt8.ofNat b0, UInt8.ofNat b1, UInt8.ofNat b2, UInt8.ofNat b3], B + 1 + 1 + 1, 4, rfl, rfl, rfl, .inl ⟨rfl, rfl⟩, row4 h0 h1 h2 h3 HLO.out, ⟨O.here, (O.block _ (by omega)).trans I3.out, _, _, (O.block _ (by omega)).trans R3.out, ?_⟩, B3.out.trans (O.below (by omega)), ?_⟩
          · simp only [bvs, List.map_cons, List.map_nil, bv_ofNat h0, bv_ofNat h1, bv_ofNat h2, bv_ofNat h3]
          · show _ ≤ _
            rw [O.size]
            omega
      · by_cases e2 : k % 3 = 2
        · have e1' : (k : Int) % 3 = 2 := by omega
          have ipb' := ipb.out
          have d : ∀ j v, ([.int .u8 b0, .int .u8 b1, .int .u8 b2, .int .u8 b3, .int .u8 b4, .int .u8 b5, .int .u8 b6, .int .u8 b7, .int .u8 b8, .int .u8 b9, .int .u8 b10, .int .u8 b11, .int .u8 b12, .int .u8 b13, .int .u8 b14, .int .u8 b15] : List Value)[j]? = some v → W.cell? ⟨B, j, none⟩ = some v := fun j v hv => by simpa [World.cell?, ipb'] using hv
          have d0 := d 0 _ rfl
          have d1 := d 1 _ rfl
          have d2 := d 2 _ rfl
          have d3 := d 3 _ rfl
          have d4 := d 4 _ rfl
          have d5 := d 5 _ rfl
          have d6 := d 6 _ rfl
          have d7 := d 7 _ rfl
          have d8 := d 8 _ rfl
          have d9 := d 9 _ rfl
          have d10 := d 10 _ rfl
          have d11 := d 11 _ rfl
          have d12 := d 12 _ rfl
          have d13 := d 13 _ rfl
          have d14 := d 14 _ rfl
          have d15 := d 15 _ rfl
          clear d ipb'
          go_wp2_with fail
          refine (from16_any b0 b1 b2 b3 b4 b5 b6 b7 b8 b9 b10 b11 b12 b13 b14 b15 a6 W h0 h1 h2 h3 h4 h5 h6 h7 h8 h9 h10 h11 h12 h13 h14 h15 ZW.out.c1 (by have := ZW.out.n1; have := ZW.out.le; omega)).mono ?_
          rintro e w3 ⟨rfl, h3'⟩
          have a3 : w3.heap[B + 1 + 1]? = some (.cells #[.int .u64 0, .int .u64 0, .pointer none] 33) := (h3'.block _ (by omega)).trans abb.out
          have A3 : Hid (w3.heap[B + 1 + 1]? = some (.cells #[.int .u64 0, .int .u64 0, .pointer none] 33)) := a3
          have t0 : w3.cell? ⟨B + 1 + 1, 0, none⟩ = some (.int .u64 0) := by simp [World.cell?, a3]
          have t1 : w3.cell? ⟨B + 1 + 1, 1, none⟩ = some (.int .u64 0) := by simp [World.cell?, a3]
          have t2 : w3.cell? ⟨B + 1 + 1, 2, none⟩ = some (.pointer none) := by simp [World.cell?, a3]
          have tf : ∀ i, w3.frozen? ⟨B + 1 + 1, i, none⟩ = false := fun i => by simp [World.frozen?, a3]
          have I3 : Hid (w3.heap[B + 1]? = some (.cells X 25)) := (h3'.block _ (by omega)).trans idb.out
          have R3 : Hid (w3.heap[B]? = W.heap[B]?) := h3'.block _ (by omega)
          have B3 : Hid (Below B w w3) := BW.out.trans (h3'.mono (by omega))
          have S3 : B + 3 ≤ w3.heap.size := by have := h3'.size; omega
          clear a3 h3' d0 d1 d2 d3 d4 d5 d6 d7 d8 d9 d10 d11 d12 d13 d14 d15
          obtain ⟨hi, hhi⟩ : ∃ hi : Nat, hi = b0 * 72057594037927936 + b1 * 281474976710656 + b2 * 1099511627776 + b3 * 4294967296 + b4 * 16777216 + b5 * 65536 + b6 * 256 + b7 := ⟨_, rfl⟩
          have HHI : Hid (hi = b0 * 72057594037927936 + b1 * 281474976710656 + b2 * 1099511627776 + b3 * 4294967296 + b4 * 16777216 + b5 * 65536 + b6 * 256 + b7) := hhi
          obtain ⟨lo, hlo⟩ : ∃ lo : Nat, lo = b8 * 72057594037927936 + b9 * 281474976710656 + b10 * 1099511627776 + b11 * 4294967296 + b12 * 16777216 + b13 * 65536 + b14 * 256 + b15 := ⟨_, rfl⟩
          have HLO : Hid (lo = b8 * 72057594037927936 + b9 * 281474976710656 + b10 * 1099511627776 + b11 * 4294967296 + b12 * 16777216 + b13 * 65536 + b14 * 256 + b15) := hlo
          rw [← hlo, ← hhi]
          clear hlo hhi
          go_wp2_with fail
          go_meet
          case rel =>
            have O := set3 w3 (B + 1 + 1) 33 _ _ _ (.int .u64 hi) (.int .u64 lo) (.pointer (some a6)) A3.out
            refine ⟨hi, lo, some a6, false, [UInt8.ofNat b0, UInt8.ofNat b1, UInt8.ofNat b2, UInt8.ofNat b3, UInt8.ofNat b4, UInt8.ofNat b5, UInt8.ofNat b6, UInt8.ofNat b7, UInt8.ofNat b8, UInt8.ofNat b9, UInt8.ofNat b10, UInt8.ofNat b11, UInt8.ofNat b12, UInt8.ofNat b13, UInt8.ofNat b14, UInt8.ofNat b15], B, 16, rfl, rfl, rfl, .inr (.inr ⟨rfl, rfl⟩), row16 h0 h1 h2 h3 h4 h5 h6 h7 h8 h9 h10 h11 h12 h13 h14 h15 HHI.out HLO.out, ⟨O.here, (O.block _ (by omega)).trans I3.out, _, _, (O.block _ (by omega)).trans (R3.out.trans ipb.out), ?_⟩, B3.out.trans (O.below (by omega)), ?_⟩
            · simp only [bvs, List.map_cons, List.map_nil, bv_ofNat h0, bv_ofNat h1, bv_ofNat h2, bv_ofNat h3, bv_ofNat h4, bv_ofNat h5, bv_ofNat h6, bv_ofNat h7, bv_ofNat h8, bv_ofNat h9, bv_ofNat h10, bv_ofNat h11, bv_ofNat h12, bv_ofNat h13, bv_ofNat h14, bv_ofNat h15]
            · show _ ≤ _
              rw [O.size]
              omega
        · have e1' : (k : Int) % 3 = 0 := by omega
          have mk := make_any W 16 16 (by omega) (by omega)
          rw [made16] at mk
          have mk' : (Instr.makeSlice 22 (.int .i64 16) (.int .i64 16)).run Ybad.prog W = _ := mk
          clear mk
          go_wp2_with fail
          go_meet
          case rel =>
            refine ⟨0, 0, none, false, [0, 0, 0, 0, 0, 0, 0, 0, 0, 0, 0, 0, 0, 0, 0, 0], W.heap.size, 16, by rw [LW], rfl, rfl, .inr (.inl ⟨rfl, rfl⟩), row0, ⟨(Below.heap_alloc W _ _ (by omega)).trans abb.out, (Below.heap_alloc W _ _ (by omega)).trans idb.out, _, _, heap_alloc_new W _, rfl⟩, BW.out.alloc (by omega) _, ?_⟩
            show _ ≤ _
            simp
            omega
    case rest =>
      clear abb idb ipb ZW BW LW
      obtain ⟨hi, lo, z, b, bs, rb, m, rfl, hm, hbl, hkd, hrow, hLR, hBw, hsz⟩ := hcut
      obtain ⟨W1, hW1⟩ : ∃ W1, W1 = wc := ⟨_, rfl⟩
      rw [← hW1] at hLR hBw hsz ⊢
      clear hW1
      have hab := hLR.out.ab
      have k0 : W1.cell? ⟨B + 1 + 1, 0, none⟩ = some (.int .u64 hi) := by simp [World.cell?, hab]
      have k1 : W1.cell? ⟨B + 1 + 1, 1, none⟩ = some (.int .u64 lo) := by simp [World.cell?, hab]
      have k2 : W1.cell? ⟨B + 1 + 1, 2, none⟩ = some (.pointer z) := by simp [World.cell?, hab]
      clear hab
      go_wp2_with fail
      refine (apfrom_any hi lo p z W1).mono ?_
      rintro e w2 ⟨rfl, h2⟩
      have c2 : Hid (Below B w w2) := hBw.out.trans (h2.mono (by have := hsz.out; omega))
      have L2 : Hid (LR B hi lo z X rb bs w2 ∧ B + 3 ≤ w2.heap.size ∧ rb < w2.heap.size) := by
        obtain ⟨R, t, hr, hR⟩ := hLR.out.rw_
        have hrl : rb < W1.heap.size := (Array.getElem?_eq_some_iff.1 hr).1
        have := h2.size
        have := hsz.out
        exact ⟨⟨(h2.block _ (by omega)).trans hLR.out.ab, (h2.block _ (by omega)).trans hLR.out.ib, R, t, (h2.block _ hrl).trans hr, hR⟩, by omega, by omega⟩
      clear h2 hLR hBw hsz k0 k1 k2 W1
      obtain ⟨C, hC⟩ : ∃ C, C = w2.heap.size := ⟨_, rfl⟩
      have HC : Hid (C = w2.heap.size) := hC
      clear hC
      have hl : Hid (ds.length ≤ 1048576) := by show _ ≤ _; rw [← hd.out.len]; exact q1
      have BY : Hid (Bytes ad n cap ds w2) := hd.out.below (by have := c2.out; rwa [HB.out] at this)
      go_upto_region 17 with fail
      refine (clone_any ad n cap ds _ (BY.out.below ((Below.refl _ _).alloc (Nat.le_refl _) _)) hl).mono ?_
      rintro e w3 ⟨ad', cap', rfl, hsv, h3⟩
      have ST : Hid (St N B C a4 a6 hi lo p z X rb bs ad ad' n cap cap' ds w3) := by
        have bA : Below w2.heap.size w2 (w2.alloc (.cells #[.int .u64 hi, .int .u64 lo, .pointer z, .int .u16 p] 38)) := (Below.refl _ _).alloc (Nat.le_refl _) _
        have b3 := bA.trans (h3.mono bA.size)
        obtain ⟨L, hL1, hL2⟩ := L2.out
        obtain ⟨R, t, hr, hR⟩ := L.rw_
        have Z2 : Z N a4 a6 w2 := hZ.out.below (by have := c2.out; rwa [HB.out] at this)
        rw [HC.out]
        exact ⟨(Bx.new Z2 38).below h3, (b3.block _ (by omega)).trans L.ib, ⟨R, t, (b3.block _ hL2).trans hr, hR⟩, BY.out.below b3, hsv.out⟩
      have c3 : Hid (Below B w w3) := (c2.out.alloc (by have := L2.out.2.1; omega) _).trans (h3.mono (by have := L2.out.2.1; simp; omega))
      rw [← HC.out]
      clear HC BY hsv h3 L2 c2 w2
      go_upto_region 17 with fail
      obtain ⟨c, hc⟩ : ∃ c : UInt8, c = UInt8.ofNat (p / 256) := ⟨_, rfl⟩
      obtain ⟨d, hd'⟩ : ∃ d : UInt8, d = UInt8.ofNat (p % 256) := ⟨_, rfl⟩
      have pc : Hid ((p : Int) / 256 = c.toNat) := by
        show _ = _
        rw [hc]
        simp
        omega
      have pd : Hid ((p : Int) % 256 = d.toNat) := by
        show _ = _
        rw [hd']
        simp
      clear hc hd'
      have ty25 : Ybad.prog.underlying 25 = some (.array 20 5) := Ybad.underlying25
      have hXl : Hid (X.toList.toArray.toList = bvs ids) := hX.out
      have hX20' : X.toList.toArray.size = 20 := hX20
      have i25 : (Ybad.prog.info? 25).map (·.size) = some X.toList.length := by rw [Array.length_toList, hX20]; kernel_rfl
      go_cut [18] (fun v w' => ∃ E g1 n1 c1, v = .pointer (some ⟨E, 0, none⟩) ∧ Hid (WB E g1 n1 c1 n s (full ds b bs c d ids) w') ∧ Hid (St N B C a4 a6 hi lo p z X rb bs ad ad' n cap cap' ds w') ∧ Hid (Below B w w'))
      case first =>
        have hn0 : (0 : Int) ≤ (n : Int) := by omega
        have hnc : (n : Int) ≤ (cap : Int) := by have := hd.out.le; omega
        have sl := sl0 ad n
        obtain ⟨OB, hOB⟩ : ∃ OB : Obj, OB = .cells #[.slice none 0 0, .int .i64 0, .string ⟨#[]⟩, .int .i64 0, .string ⟨#[]⟩] 42 := ⟨_, rfl⟩
        have T1 : Hid (St N B C a4 a6 hi lo p z X rb bs ad ad' n cap cap' ds w3.drew) := ST.out.drew
        have T2 : Hid (St N B C a4 a6 hi lo p z X rb bs ad ad' n cap cap' ds (w3.alloc (.cells #[.slice none 0 0, .int .i64 0, .string ⟨#[]⟩, .int .i64 0, .string ⟨#[]⟩] 42)).drew) := (ST.out.below ((Below.refl _ _).alloc (Nat.le_refl _) _)).drew
        have F1 : SS B C hi lo p z X w3.drew := T1.out.ss
        have F2 : SS B C hi lo p z X (w3.alloc (.cells #[.slice none 0 0, .int .i64 0, .string ⟨#[]⟩, .int .i64 0, .string ⟨#[]⟩] 42)).drew := T2.out.ss
        clear hOB OB
        have E3 := ST.out.ne
        go_region_held3 (fun w' => w'.cell? ⟨C, 0, none⟩ = some (.int .u64 hi) ∧ w'.cell? ⟨C, 1, none⟩ = some (.int .u64 lo) ∧ w'.cell? ⟨C, 2, none⟩ = some (.pointer z) ∧ w'.cell? ⟨C, 3, none⟩ = some (.int .u16 p) ∧ w'.rangeAt (B + 1) 0 X.toList) (with_reducible (first | exact F3 | exact F2 | exact F1 | (exact ss_alloc F3 _) | (exact ss5 F3 E3.1 E3.2 _ _ _ _ _))) (first
          | (go_at_call 8; have r := resp_b w3.drew ad n N ds s hi lo p z b a4 a6 bs c d X.toList.toArray ids T1.out.gv' hl q2 T1.out.bx.zz hkd hp pc pd hrow hXl hX20'; (with_reducible refine r.mono ?_); clear r; rintro e w4 ⟨g1, n1, c1, rfl, hn1, hb1, hg1, hB1⟩; have T3 : Hid (St N B C a4 a6 hi lo p z X rb bs ad ad' n cap cap' ds w4) := T1.out.below hB1.out; have F3 := T3.out.ss)
          | (go_at_call 8; have r := resp_b (w3.alloc (.cells #[.slice none 0 0, .int .i64 0, .string ⟨#[]⟩, .int .i64 0, .string ⟨#[]⟩] 42)).drew ad n N ds s hi lo p z b a4 a6 bs c d X.toList.toArray ids T2.out.gv' hl q2 T2.out.bx.zz hkd hp pc pd hrow hXl hX20'; (with_reducible refine r.mono ?_); clear r; rintro e w4 ⟨g1, n1, c1, rfl, hn1, hb1, hg1, hB1⟩; have T3 : Hid (St N B C a4 a6 hi lo p z X rb bs ad ad' n cap cap' ds w4) := T2.out.below hB1.out; have F3 := T3.out.ss; have yb : w4.heap[w3.heap.size]? = some (.cells #[.slice none 0 0, .int .i64 0, .string ⟨#[]⟩, .int .i64 0, .string ⟨#[]⟩] 42) := ((hB1.out.block _ (by simp)).trans (heap_alloc_new w3 _)); have y0 : w4.cell? ⟨w3.heap.size, 0, none⟩ = some (.slice none 0 0) := (by simp [World.cell?, yb]); have y1 : w4.cell? ⟨w3.heap.size, 1, none⟩ = some (.int .i64 0) := (by simp [World.cell?, yb]); have y2 : w4.cell? ⟨w3.heap.size, 2, none⟩ = some (.string ⟨#[]⟩) := (by simp [World.cell?, yb]); have y3 : w4.cell? ⟨w3.heap.size, 3, none⟩ = some (.int .i64 0) := (by simp [World.cell?, yb]); have y4 : w4.cell? ⟨w3.heap.size, 4, none⟩ = some (.string ⟨#[]⟩) := (by simp [World.cell?, yb]); have yf : ∀ i, w4.frozen? ⟨w3.heap.size, i, none⟩ = false := (fun i => (by simp [World.frozen?, yb])); have YB : Hid (w4.heap[w3.heap.size]? = some (.cells #[.slice none 0 0, .int .i64 0, .string ⟨#[]⟩, .int .i64 0, .string ⟨#[]⟩] 42)) := yb; clear yb))
        · go_wp2_with fail
          go_meet
          case rel =>
            refine ⟨w4.heap.size, g1, n1, c1, rfl, ⟨heap_alloc_new w4 _, hn1.out, hb1.out.alloc _⟩, T3.out.below ((Below.refl _ _).alloc (Nat.le_refl _) _), ?_⟩
            have l3 := (Array.getElem?_eq_some_iff.1 ST.out.ib).1
            exact (c3.out.drew.trans (hB1.out.mono (by show B ≤ w3.heap.size; omega))).alloc (by have := hB1.out.size; have e : w3.drew.heap.size = w3.heap.size := rfl; omega) _
        · go_wp2_with fail
          go_meet
          case rel =>
            have O := set5 w4 w3.heap.size 42 _ _ _ _ _ (.slice (some ⟨g1, 0, none⟩) n1 c1) (.int .i64 n) (.string s) (.int .i64 (1 + ((dg s.size : Int) + 12 + s.size))) (.string ⟨#[105, 100]⟩) YB.out
            have l3 := (Array.getElem?_eq_some_iff.1 ST.out.ib).1
            have lg : w3.heap.size + 1 ≤ g1 := by have := hg1.out; simpa using this
            have b4 := (((Below.refl w3.heap.size w3).alloc (Nat.le_refl _) (.cells #[.slice none 0 0, .int .i64 0, .string ⟨#[]⟩, .int .i64 0, .string ⟨#[]⟩] 42)).drew.trans (hB1.out.mono (by simp))).trans (O.below (Nat.le_refl _))
            exact ⟨w3.heap.size, g1, n1, c1, rfl, ⟨O.here, hn1.out, hb1.out.keep (O.block g1 (by omega))⟩, ST.out.below b4, c3.out.trans (b4.mono (by omega))⟩
      case rest =>
        clear ST c3 ty25 i25 hXl hX20'
        obtain ⟨E, g1, n1, c1, rfl, WBh, ST, BW4⟩ := hcut
        obtain ⟨W4, hW4⟩ : ∃ W4, W4 = wc := ⟨_, rfl⟩
        rw [← hW4] at WBh ST BW4 ⊢
        clear hW4
        have mk : (Instr.makeSlice 22 (.int .i64 0) (.int .i64 ((n : Int) + 64))).run Ybad.prog W4 = .ok (.slice (some ⟨W4.heap.size, 0, none⟩) 0 (n + 64)) (W4.alloc (.cells (madeCells #[.int .u8 0] (n + 64)) 5)) := by
          have := make_any W4 0 (n + 64) (by omega) (by omega)
          simpa using this
        go_upto_region 19 with fail
        clear mk
        obtain ⟨W5, hW5⟩ : ∃ W5, W5 = W4.alloc (.cells (madeCells #[.int .u8 0] (n + 64)) 5) := ⟨_, rfl⟩
        have B5 : Hid (Buf W5 W4.heap.size (n + 64) []) := by rw [hW5]; exact made_buf W4 (n + 64) (by omega)
        have O5 : Hid (On W4.heap.size W4 W4.heap.size W5) := by rw [hW5]; exact ⟨Nat.le_refl _, (Below.refl _ _).alloc (Nat.le_refl _) _, by simp⟩
        rw [← hW5]
        clear hW5
        obtain ⟨M, hM⟩ : ∃ M, M = W4.heap.size := ⟨_, rfl⟩
        have HM : Hid (M = W4.heap.size) := hM
        rw [← hM] at B5 O5 ⊢
        clear hM
        have ST5 : Hid (St N B C a4 a6 hi lo p z X rb bs ad ad' n cap cap' ds W5) := O5.out.st HM.out ST.out
        have lb : Hid (bs.length ≤ 16) := by show _ ≤ _; rw [hbl.out]; split <;> omega
        go_upto_if 72 with (first
          | (at_builtin; refine wpList_ap rfl (.tmp 68) (.const (.string ⟨#[100, 50, 58, 105, 112]⟩)) 9 rfl g2 c2 ([] ++ ds) [100, 50, 58, 105, 112] n2 hn2.out rfl hB2.out (SrcB.string _ ⟨#[100, 50, 58, 105, 112]⟩) (by have := hl.out; simp; omega) ?_; intro g3 n3 c3 w7 hn3 hB3 hS3)
          | (at_builtin; refine wpList_ap rfl (.tmp 65) (.tmp 66) 22 rfl M (n + 64) [] ds 0 rfl rfl B5.out ST5.out.sv.src (by have := hl.out; simp; omega) ?_; intro g2 n2 c2 w6 hn2 hB2 hS2))
        have O7 : Hid (On M W4 g3 w7) := (O5.out.step hS2.out).step hS3.out
        clear O5 ST5 hS2 hS3 hB2 hn2 B5
        go_cut [19] (fun v w' => ∃ g4 n4 c4, v = .slice (some ⟨g4, 0, none⟩) n4 c4 ∧ Hid (n4 = ([] ++ ds ++ [100, 50, 58, 105, 112] ++ (YbulkdqeqDoor.hd b ++ [58])).length) ∧ Hid (Buf w' g4 c4 ([] ++ ds ++ [100, 50, 58, 105, 112] ++ (YbulkdqeqDoor.hd b ++ [58]))) ∧ Hid (On M W4 g4 w'))
        case first =>
          cases b with
          | true =>
            have hm4 : m = 4 := hm.out.trans hbl.out
            subst hm4
            go_wp2_with (at_builtin; refine wpList_ap rfl (.tmp 73) (.const (.string ⟨#[54, 58]⟩)) 9 rfl g3 c3 ([] ++ ds ++ [100, 50, 58, 105, 112]) [54, 58] n3 hn3.out rfl hB3.out (SrcB.string _ ⟨#[54, 58]⟩) (by have := hl.out; simp; omega) ?_; intro g4 n4 c4 w8 hn4 hB4 hS4)
            go_meet
            case rel => exact ⟨g4, n4, c4, rfl, hn4, hB4, O7.out.step hS4.out⟩
          | false =>
            have hm4 : m = 16 := hm.out.trans hbl.out
            subst hm4
            go_wp2_with (at_builtin; refine wpList_ap rfl (.tmp 75) (.const (.string ⟨#[49, 56, 58]⟩)) 9 rfl g3 c3 ([] ++ ds ++ [100, 50, 58, 105, 112]) [49, 56, 58] n3 hn3.out rfl hB3.out (SrcB.string _ ⟨#[49, 56, 58]⟩) (by have := hl.out; simp; omega) ?_; intro g4 n4 c4 w8 hn4 hB4 hS4)
            go_meet
            case rel => exact ⟨g4, n4, c4, rfl, hn4, hB4, O7.out.step hS4.out⟩
        case rest =>
          clear O7 hB3 hn3
          obtain ⟨g4, n4, c4, rfl, hn4, hB4, O8⟩ := hcut
          obtain ⟨W8, hW8⟩ : ∃ W8, W8 = wc := ⟨_, rfl⟩
          rw [← hW8] at hB4 O8 ⊢
          clear hW8
          obtain ⟨L4, hL4⟩ : ∃ L4, L4 = [] ++ ds ++ [100, 50, 58, 105, 112] ++ (YbulkdqeqDoor.hd b ++ [58]) := ⟨_, rfl⟩
          have HL4 : Hid (L4 = [] ++ ds ++ [100, 50, 58, 105, 112] ++ (YbulkdqeqDoor.hd b ++ [58])) := hL4
          rw [← hL4] at hn4 hB4
          have LL : Hid (L4.length ≤ 1048600) := by
            show _ ≤ _
            have := hl.out
            have := hd_len b
            rw [hL4]
            simp
            omega
          clear hL4
          have SR : Hid (SrcB 22 (.slice (some ⟨rb, 0, none⟩) m m) bs W8) := by
            obtain ⟨R, t, hr, hR⟩ := (O8.out.st HM.out ST.out).rw_
            exact src_row hr hR hm.out
          have HS : Hid (∀ (W : World) (N : Nat), N = W.heap.size → SrcB 22 (.slice (some ⟨N, 0, none⟩) 2 2) [c, d] (W.alloc (.cells #[.int .u8 ((p : Int) / 256), .int .u8 ((p : Int) % 256)] 5))) := fun W N e => by rw [pc.out, pd.out, e]; exact src_two W c d
          have LI : Hid (20 = ids.length) := by
            have := congrArg List.length hX.out
            simp [bvs_length, hX20] at this
            exact this
          go_upto_region 26 with (first
            | (at_builtin; refine wpList_ap rfl (.tmp 80) (.tmp 86) 22 rfl g5 c5 (L4 ++ bs) [c, d] n5 hn5.out rfl (hB5.out.alloc _) (HS.out w9 _ rfl) (by have := LL.out; have := lb.out; simp; omega) ?_; intro g6 n6 c6 w10 hn6 hB6 hS6)
            | (at_builtin; refine wpList_ap rfl (.tmp 77) (.tmp 78) 22 rfl g4 c4 L4 bs n4 hn4.out rfl hB4.out SR.out (by have := LL.out; have := lb.out; simp; omega) ?_; intro g5 n5 c5 w9 hn5 hB5 hS5))
          have O10 : Hid (On M W4 g6 w10) := ((O8.out.step hS5.out).alloc _).step hS6.out
          clear O8 hS5 hS6 hB5 hn5 hB4 hn4 SR HS
          go_upto_region 27 with (first
            | (at_builtin; refine wpList_ap rfl (.tmp 88) (.const (.string ⟨#[49, 58, 114, 100, 50, 58, 105, 100, 50, 48, 58]⟩)) 9 rfl g6 c6 (L4 ++ bs ++ [c, d]) [49, 58, 114, 100, 50, 58, 105, 100, 50, 48, 58] n6 hn6.out rfl hB6.out (SrcB.string _ ⟨#[49, 58, 114, 100, 50, 58, 105, 100, 50, 48, 58]⟩) (by have := LL.out; have := lb.out; simp; omega) ?_; intro g7 n7 c7 w11 hn7 hB7 hS7))
          have O11 : Hid (On M W4 g7 w11) := O10.out.step hS7.out
          clear O10 hS7 hB6 hn6
          have SI : Hid (SrcB 22 (.slice (some ⟨B + 1, 0, none⟩) 20 20) ids w11) := src_row (O11.out.st HM.out ST.out).ib hX.out LI.out
          go_upto_region 28 with (first
            | (at_builtin; refine wpList_ap rfl (.tmp 90) (.tmp 91) 22 rfl g7 c7 (L4 ++ bs ++ [c, d] ++ [49, 58, 114, 100, 50, 58, 105, 100, 50, 48, 58]) ids n7 hn7.out rfl hB7.out SI.out (by have := LL.out; have := lb.out; have := LI.out; simp; omega) ?_; intro g8 n8 c8 w12 hn8 hB8 hS8))
          have O12 : Hid (On M W4 g8 w12) := O11.out.step hS8.out
          have EF : L4 ++ bs ++ [c, d] ++ [49, 58, 114, 100, 50, 58, 105, 100, 50, 48, 58] ++ ids = full ds b bs c d ids := by
            rw [HL4.out]
            simp [full]
          rw [EF] at hn8 hB8
          clear O11 hS8 hB7 hn7 SI EF LL LI HL4
          have WE : Hid (WB E g1 n1 c1 n s (full ds b bs c d ids) w12) := WBh.out.below (by rw [← HM.out]; exact O12.out.b)
          have SE : Hid (St N B C a4 a6 hi lo p z X rb bs ad ad' n cap cap' ds w12) := O12.out.st HM.out ST.out
          have BE : Hid (Below B w w12) := by
            have l4 := (Array.getElem?_eq_some_iff.1 ST.out.ib).1
            exact BW4.out.trans (O12.out.b.mono (by rw [HM.out]; omega))
          clear WBh ST BW4 O12 HM
          have hdg := dg_le s.size
          have WEb := WE.out.wb
          have x0 : w12.cell? ⟨E, 0, none⟩ = some (.slice (some ⟨g1, 0, none⟩) n1 c1) := by simp [World.cell?, WEb]
          have x1 : w12.cell? ⟨E, 1, none⟩ = some (.int .i64 n) := by simp [World.cell?, WEb]
          have x2 : w12.cell? ⟨E, 2, none⟩ = some (.string s) := by simp [World.cell?, WEb]
          have x3 : w12.cell? ⟨E, 3, none⟩ = some (.int .i64 (1 + ((dg s.size : Int) + 12 + s.size))) := by simp [World.cell?, WEb]
          have x4 : w12.cell? ⟨E, 4, none⟩ = some (.string ⟨#[105, 100]⟩) := by simp [World.cell?, WEb]
          clear WEb
          have hnn : n1 = n8 := WE.out.ln.trans hn8.out.symm
          subst hnn
          have EQ1 : Hid (Calls Ybad.prog 9 #[.slice (some ⟨g1, 0, none⟩) n1 c1, .slice (some ⟨g8, 0, none⟩) n1 c8] w12 fun e w' => e = .returned (.bool true) ∧ w' = w12) := equal_any _ _ _ _ _ _ _ w12 (Bytes.ofBuf WE.out.ln WE.out.bf) (Bytes.ofBuf hn8.out hB8.out)
          have EQ2 : Hid (Calls Ybad.prog 9 #[.slice ad n cap, .slice ad' n cap'] w12 fun e w' => e = .returned (.bool true) ∧ w' = w12) := equal_any _ _ _ _ _ _ _ w12 SE.out.gv SE.out.sv
          clear WE SE hn8 hB8
          obtain ⟨D, hD⟩ : ∃ D, D = dg s.size := ⟨_, rfl⟩
          have HD : Hid (D = dg s.size) := hD
          rw [← hD] at hdg x3
          clear hD
          go_wp2_with fail
          go_loop [20, 21] (fun d m => ∃ j k : Nat, j ≤ s.size ∧ k + dg j = D ∧ d = .int .i64 ((k + 1 : Nat) : Int) ∧ m = .int .i64 (j : Nat)) (fun _ m => (intOf m).toNat)
          case atStart => exact ⟨s.size, 0, Nat.le_refl _, by simp [HD.out], rfl, rfl⟩
          case round =>
            obtain ⟨j, k, hj, hjk, rfl, rfl⟩ := hrel
            by_cases h : j < 10
            · have e := dg_lo h
              have hk : k = D := by omega
              subst hk
              have h' : ¬ (10 : Int) ≤ (j : Int) := by omega
              clear e hjk
              have es : (12 : Int) + ((k : Int) + 1) + s.size = 1 + ((k : Int) + 12 + s.size) := by omega
              go_wp2_with (first
                | (go_at_call 9; refine EQ2.out.mono ?_; rintro e w' ⟨rfl, rfl⟩)
                | (go_at_call 9; refine EQ1.out.mono ?_; rintro e w' ⟨rfl, rfl⟩))
              go_ret
              exact ⟨rfl, by rw [← HB.out]; exact BE.out⟩
            · have e := dg_hi h
              have hk : k ≤ D := by omega
              have HJ : Hid (k + 1 + dg (j / 10) = D) := by show _ = _; omega
              have h' : (10 : Int) ≤ (j : Int) := by omega
              clear e hjk
              go_wp2
              go_round
              case rel => exact ⟨j / 10, k + 1, by omega, HJ.out, by congr 1, by congr 1⟩
              case measure => simp [intOf]; omega

end Go.Proofs.YbulkdqeqDoor
