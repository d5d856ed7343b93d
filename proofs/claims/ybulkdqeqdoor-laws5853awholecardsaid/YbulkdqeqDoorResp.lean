import Derived.Test.YbulkdqeqDoorBytes
import Derived.Deep.RegionHeld3
namespace Go.Proofs.YbulkdqeqDoor
open Go.RowKit
/-- append to a slice that has no room -/
theorem wp_full {o : Oper} {a : Act} {w : World} {K : Act → World → Prop} {Q : Exit → Act → World → Prop} (s x : Operand) (tx : TypeId)
    (ho : o.op = .call { callee := .builtin .append, args := #[s, x], argTypes := #[22, tx] }) (ad : Option Addr) (n : Nat) (ds ys : List UInt8) (hd : Bytes ad n n ds w) (hsv : a.eval s = .slice ad n n)
    (hs : SrcB tx (a.eval x) ys w) (hy : 0 < ys.length) (hb : ds.length + ys.length ≤ 140737488355328)
    (h : ∀ g' n' cap' w', Hid (n' = (ds ++ ys).length) → Hid (Buf w' g' cap' (ds ++ ys)) → Hid (w.heap.size ≤ g') → Hid (Below w.heap.size w w') → K (a.put o.dst (.slice (some ⟨g', 0, none⟩) n' cap')) w') : o.wp Ybad.prog a w K Q := by
  have hx : (Builtin.firstCells 1 ds.length (.slice ad ds.length ds.length)).run Ybad.prog w.drew = .ok (bvs ds).toArray w.drew := by
    have hd' := hd
    rw [hd.len] at hd'
    cases ad with
    | none =>
      have e : ds = [] := List.length_eq_zero_iff.1 (hd'.nil rfl)
      subst e
      exact run_firstCells_none w.drew 1 0 0 0
    | some a =>
      refine run_firstCells_some w.drew 1 ds.length a ds.length ds.length (bvs ds) (by rw [bvs_length, Nat.mul_one]) (fun j u hu => ?_)
      have hj : j < ds.length := by
        have := (List.getElem?_eq_some_iff.1 hu).1
        rwa [bvs_length] at this
      have := hd'.cell a rfl j hj
      simp [bvs, hj] at hu
      rw [← hu]
      exact this
  obtain ⟨g', cap', w', hr, h2, h3, h4⟩ := append_full w o.type tx ad ds ys (a.eval x) hx hs hy hb
  unfold Oper.wp execOp
  simp only [ho, resolve, invoke, builtin, Sem.run_bind, Sem.run_pure, Result.andThen_ok, List.map_toArray, List.map_cons, List.map_nil, hsv, hd.len, hr]
  exact h g' _ cap' w' rfl h2 h3 h4
theorem wp_ap {o : Oper} {a : Act} {w : World} {K : Act → World → Prop} {Q : Exit → Act → World → Prop} (s x : Operand) (tx : TypeId)
    (ho : o.op = .call { callee := .builtin .append, args := #[s, x], argTypes := #[22, tx] }) (g cap : Nat) (xs ys : List UInt8) (n : Nat) (hn : n = xs.length) (hsv : a.eval s = .slice (some ⟨g, 0, none⟩) n cap)
    (hB : Buf w g cap xs) (hs : SrcB tx (a.eval x) ys w) (hb : xs.length + ys.length ≤ 140737488355328)
    (h : ∀ g' n' cap' w', Hid (n' = (xs ++ ys).length) → Hid (Buf w' g' cap' (xs ++ ys)) → Hid (Step w w' g g') → K (a.put o.dst (.slice (some ⟨g', 0, none⟩) n' cap')) w') : o.wp Ybad.prog a w K Q :=
  wp_append_buf s x tx ho g cap xs ys n hn hsv hB hs hb fun g' cap' w' h2 h3 => h g' _ cap' w' rfl h2 h3

theorem step_full {ops : Array Oper} {o : Oper} {a : Act} {w : World} {K : Act → World → Prop} {Q : Exit → Act → World → Prop} {E : Prop} (hgd : o.guard = none) (s x : Operand) (tx : TypeId)
    (ho : o.op = .call { callee := .builtin .append, args := #[s, x], argTypes := #[22, tx] }) (ad : Option Addr) (n : Nat) (ds ys : List UInt8) (hd : Bytes ad n n ds w) (hsv : a.eval s = .slice ad n n)
    (hs : SrcB tx (a.eval x) ys w) (hy : 0 < ys.length) (hb : ds.length + ys.length ≤ 140737488355328)
    (h : ∀ g' n' cap' w', Hid (n' = (ds ++ ys).length) → Hid (Buf w' g' cap' (ds ++ ys)) → Hid (w.heap.size ≤ g') → Hid (Below w.heap.size w w') → K (a.put o.dst (.slice (some ⟨g', 0, none⟩) n' cap')) w') :
    if Region.wanted o (yielded ops a.tmps) = true then Oper.wp Ybad.prog o a w K Q else E := by
  have hw : Region.wanted o (yielded ops a.tmps) = true := by simp [Region.wanted, hgd]
  rw [if_pos hw]
  exact wp_full s x tx ho ad n ds ys hd hsv hs hy hb h
theorem step_ap {ops : Array Oper} {o : Oper} {a : Act} {w : World} {K : Act → World → Prop} {Q : Exit → Act → World → Prop} {E : Prop} (hgd : o.guard = none) (s x : Operand) (tx : TypeId)
    (ho : o.op = .call { callee := .builtin .append, args := #[s, x], argTypes := #[22, tx] }) (g cap : Nat) (xs ys : List UInt8) (n : Nat) (hn : n = xs.length) (hsv : a.eval s = .slice (some ⟨g, 0, none⟩) n cap)
    (hB : Buf w g cap xs) (hs : SrcB tx (a.eval x) ys w) (hb : xs.length + ys.length ≤ 140737488355328)
    (h : ∀ g' n' cap' w', Hid (n' = (xs ++ ys).length) → Hid (Buf w' g' cap' (xs ++ ys)) → Hid (Step w w' g g') → K (a.put o.dst (.slice (some ⟨g', 0, none⟩) n' cap')) w') :
    if Region.wanted o (yielded ops a.tmps) = true then Oper.wp Ybad.prog o a w K Q else E := by
  have hw : Region.wanted o (yielded ops a.tmps) = true := by simp [Region.wanted, hgd]
  rw [if_pos hw]
  exact wp_ap s x tx ho g cap xs ys n hn hsv hB hs hb h
/-- the four cells of an address in its box -/
def Four (B : Nat) (hi lo p : Nat) (z : Option Addr) (w : World) : Prop := w.cell? ⟨B, 0, none⟩ = some (.int .u64 hi) ∧ w.cell? ⟨B, 1, none⟩ = some (.int .u64 lo) ∧ w.cell? ⟨B, 2, none⟩ = some (.pointer z) ∧ w.cell? ⟨B, 3, none⟩ = some (.int .u16 p)
theorem Bx.four {N B : Nat} {a4 a6 : Addr} {hi lo p : Nat} {z : Option Addr} {w : World} (h : Bx N B a4 a6 hi lo p z w) : Four B hi lo p z w := ⟨h.c0, h.c1, h.c2, h.c3⟩

/-- what lies in memory while the response is written: the boxes of the address and of the id, the result's cells, the writer's cells -/
structure RS (N B : Nat) (a4 a6 : Addr) (hi lo p : Nat) (z : Option Addr) (X : Array Value) (V : Array Value) (w : World) : Prop where
  bx : Bx N B a4 a6 hi lo p z w
  nb : N ≤ B
  ib : w.heap[B + 1]? = some (.cells X 44)
  rb : w.heap[B + 1 + 1]? = some (.cells #[.slice none 0 0, .int .i64 0, .string ⟨#[]⟩, .int .i64 0, .string ⟨#[]⟩] 42)
  wb : w.heap[B + 1 + 1 + 1]? = some (.cells V 42)
  sz : B + 4 ≤ w.heap.size
theorem RS.keep {N B : Nat} {a4 a6 : Addr} {hi lo p : Nat} {z : Option Addr} {X V : Array Value} {w w' : World} (h : RS N B a4 a6 hi lo p z X V w) (hs : w.heap.size ≤ w'.heap.size) (hk : ∀ k, k < B + 4 → w'.heap[k]? = w.heap[k]?) : RS N B a4 a6 hi lo p z X V w' :=
  ⟨h.bx.keep (h.bx.zz.keep hs (fun k h1 => hk k (by have := h.nb; omega))) (hk B (by omega)) hs, h.nb, (hk _ (by omega)).trans h.ib, (hk _ (by omega)).trans h.rb, (hk _ (by omega)).trans h.wb, Nat.le_trans h.sz hs⟩
theorem RS.below {N B : Nat} {a4 a6 : Addr} {hi lo p : Nat} {z : Option Addr} {X V : Array Value} {w w' : World} (h : RS N B a4 a6 hi lo p z X V w) (hb : Below w.heap.size w w') : RS N B a4 a6 hi lo p z X V w' :=
  h.keep hb.size (fun k hk => hb.block k (by have := h.sz; omega))
theorem RS.step {N B : Nat} {a4 a6 : Addr} {hi lo p : Nat} {z : Option Addr} {X V : Array Value} {w w' : World} {g g' : Nat} (h : RS N B a4 a6 hi lo p z X V w) (hs : Step w w' g g') (hg : B + 4 ≤ g) : RS N B a4 a6 hi lo p z X V w' :=
  h.keep hs.size (fun k hk => hs.block k (by have := h.sz; omega) (by omega))

theorem Step.under {w w' : World} {g g' B : Nat} (h : Step w w' g g') (hs : B ≤ w.heap.size) (hg : B ≤ g) : Below B w w' := ⟨h.os, h.tape, h.output, h.size, fun k hk => h.block k (by omega) (by omega)⟩
/-- what the response holds -/
def full (ds : List UInt8) (b : Bool) (bs : List UInt8) (c d : UInt8) (ids : List UInt8) : List UInt8 := ds ++ [100] ++ [50] ++ [58] ++ [105, 112] ++ hd b ++ [58] ++ bs ++ [c, d] ++ [49] ++ [58] ++ [114] ++ [100] ++ [50] ++ [58] ++ [105, 100] ++ [50, 48] ++ [58] ++ ids
set_option maxRecDepth 100000 in
set_option maxHeartbeats 1000000 in
theorem resp_b (w : World) (ad : Option Addr) (n N : Nat) (ds : List UInt8) (s : ByteArray) (hi lo p : Nat) (z : Option Addr) (b : Bool) (a4 a6 : Addr) (bs : List UInt8) (c d : UInt8) (X : Array Value) (ids : List UInt8)
    (hd : Hid (Bytes ad n n ds w)) (hl : Hid (ds.length ≤ 1048576)) (hs : s.size ≤ 1048576) (hZ : Hid (Z N a4 a6 w)) (hk : Hid (Kd z b a4 a6)) (hp : p < 65536) (h0 : Hid ((p : Int) / 256 = c.toNat)) (h1 : Hid ((p : Int) % 256 = d.toNat)) (hbs : Hid ((row b hi lo).toList = bvs bs))
    (hX : Hid (X.toList = bvs ids)) (hX20 : X.size = 20) :
    Calls Ybad.prog 8 #[.slice ad n n, .string s, .agg #[.int .u64 hi, .int .u64 lo, .pointer z, .int .u16 p], .agg X] w fun e w' => ∃ g' n' cap', e = .returned (.agg #[.slice (some ⟨g', 0, none⟩) n' cap', .int .i64 n, .string s, .int .i64 (1 + ((dg s.size : Int) + 12 + s.size)), .string ⟨#[105, 100]⟩]) ∧ Hid (n' = (full ds b bs c d ids).length) ∧ Hid (Buf w' g' cap' (full ds b bs c d ids)) ∧ Hid (w.heap.size ≤ g') ∧ Hid (Below w.heap.size w w') := by
  have hdg := dg_le s.size
  obtain ⟨W, hW⟩ : ∃ W, W = (((w.alloc (.cells #[.int .u64 hi, .int .u64 lo, .pointer z, .int .u16 p] 38)).alloc (.cells X 44)).alloc (.cells #[.slice none 0 0, .int .i64 0, .string ⟨#[]⟩, .int .i64 0, .string ⟨#[]⟩] 42)).alloc (.cells #[.slice none 0 0, .int .i64 n, .string s, .int .i64 0, .string ⟨#[105, 100]⟩] 42) := ⟨_, rfl⟩
  have HW : Hid (W = (((w.alloc (.cells #[.int .u64 hi, .int .u64 lo, .pointer z, .int .u16 p] 38)).alloc (.cells X 44)).alloc (.cells #[.slice none 0 0, .int .i64 0, .string ⟨#[]⟩, .int .i64 0, .string ⟨#[]⟩] 42)).alloc (.cells #[.slice none 0 0, .int .i64 n, .string s, .int .i64 0, .string ⟨#[105, 100]⟩] 42)) := hW
  have BW : Hid (Below w.heap.size w W) := by rw [hW]; exact ((((Below.refl _ _).alloc (Nat.le_refl _) _).alloc (by simp) _).alloc (by simp; omega) _).alloc (by simp; omega) _
  have RW : Hid (RS N w.heap.size a4 a6 hi lo p z X #[.slice none 0 0, .int .i64 n, .string s, .int .i64 0, .string ⟨#[105, 100]⟩] W) := by
    rw [hW]
    refine ⟨((Bx.new hZ.out 38).below (((Below.refl _ _).alloc (Nat.le_refl _) _).alloc (by simp) _)).below ((Below.refl _ _).alloc (Nat.le_refl _) _), hZ.out.le, ?_, ?_, ?_, by simp⟩
    · rw [Below.heap_alloc _ _ _ (by simp), Below.heap_alloc _ _ _ (by simp)]
      simpa using heap_alloc_new (w.alloc (.cells #[.int .u64 hi, .int .u64 lo, .pointer z, .int .u16 p] 38)) (.cells X 44)
    · rw [Below.heap_alloc _ _ _ (by simp)]
      simpa using heap_alloc_new ((w.alloc (.cells #[.int .u64 hi, .int .u64 lo, .pointer z, .int .u16 p] 38)).alloc (.cells X 44)) _
    · simpa using heap_alloc_new (((w.alloc (.cells #[.int .u64 hi, .int .u64 lo, .pointer z, .int .u16 p] 38)).alloc (.cells X 44)).alloc (.cells #[.slice none 0 0, .int .i64 0, .string ⟨#[]⟩, .int .i64 0, .string ⟨#[]⟩] 42)) _
  clear hW
  go_enter Ybad.func8, Ybad.ntmps8
  go_upto_region 3 with fail
  rw [← HW.out]
  clear HW
  obtain ⟨B, hB⟩ : ∃ B, B = w.heap.size := ⟨_, rfl⟩
  have HB : Hid (B = w.heap.size) := hB
  rw [← hB] at RW BW ⊢
  clear hB
  refine (elen_any s W hs).mono ?_
  rintro e w1 ⟨rfl, hw⟩
  rw [hw]
  clear hw w1
  have f : ∀ i, W.frozen? ⟨B + 1 + 1 + 1, i, none⟩ = false := fun i => by simp [World.frozen?, RW.out.wb]
  have c3 : W.cell? ⟨B + 1 + 1 + 1, 3, none⟩ = some (.int .i64 0) := by simp [World.cell?, RW.out.wb]
  obtain ⟨D, hD⟩ : ∃ D, D = dg s.size := ⟨_, rfl⟩
  have HD : Hid (D = dg s.size) := hD
  rw [← hD] at hdg ⊢
  clear hD
  go_upto_region 3 with fail
  obtain ⟨W1, hW1⟩ : ∃ W1, W1 = W.setCell ⟨B + 1 + 1 + 1, 3, none⟩ (.int .i64 (1 + ((D : Int) + 12 + s.size))) := ⟨_, rfl⟩
  rw [← hW1]
  have O1 := Only.set RW.out.wb 3 (.int .i64 (1 + ((D : Int) + 12 + s.size)))
  rw [← hW1] at O1
  have R1 : Hid (RS N B a4 a6 hi lo p z X #[.slice none 0 0, .int .i64 n, .string s, .int .i64 (1 + ((D : Int) + 12 + s.size)), .string ⟨#[105, 100]⟩] W1) := by
    have R := RW.out
    have hnb := R.nb
    refine ⟨R.bx.keep (R.bx.zz.keep (by rw [O1.size]; exact Nat.le_refl _) (fun k hk => O1.block k (by omega))) (O1.block B (by omega)) (by rw [O1.size]; exact Nat.le_refl _), hnb, (O1.block _ (by omega)).trans R.ib, (O1.block _ (by omega)).trans R.rb, by simpa using O1.here, by rw [O1.size]; exact R.sz⟩
  have B1 : Hid (Below B w W1) := BW.out.trans (O1.below (by omega))
  clear O1 hW1 RW BW f c3 W
  have D1 : Hid (Bytes ad n n ds (W1.drew.alloc (.cells #[bv 100] 5))) := by
    have b := B1.out
    rw [HB.out] at b
    exact (hd.out.below b).keep (fun a ha h0 => Below.heap_alloc W1.drew _ a.block ((hd.out.below b).lt ha h0))
  have RA : Hid (RS N B a4 a6 hi lo p z X #[.slice none 0 0, .int .i64 n, .string s, .int .i64 (1 + ((D : Int) + 12 + s.size)), .string ⟨#[105, 100]⟩] (W1.drew.alloc (.cells #[bv 100] 5))) := R1.out.keep (by simp) (fun k hk => Below.heap_alloc W1.drew _ k (by have := R1.out.sz; simp; omega))
  have BA : Hid (Below B w (W1.drew.alloc (.cells #[bv 100] 5))) := B1.out.drew.alloc (by have := R1.out.sz; simp; omega) _
  have SZ : Hid (B + 4 ≤ (W1.drew.alloc (.cells #[bv 100] 5)).heap.size) := RA.out.sz
  have F1 : Four B hi lo p z W1.drew := R1.out.bx.drew.four
  have FA : Four B hi lo p z (W1.drew.alloc (.cells #[bv 100] 5)) := RA.out.bx.four
  go_region_held3 (fun w' => w'.cell? ⟨B, 0, none⟩ = some (.int .u64 hi) ∧ w'.cell? ⟨B, 1, none⟩ = some (.int .u64 lo) ∧ w'.cell? ⟨B, 2, none⟩ = some (.pointer z) ∧ w'.cell? ⟨B, 3, none⟩ = some (.int .u16 p)) (first | exact F3 | exact F2 | exact FA | exact F1) (first
    | (refine step_full rfl (.tmp 18) (.tmp 19) 22 rfl ad n ds [100] D1.out rfl (src_one W1.drew 100) (by simp) (by have := hl.out; simp; omega) ?_; intro g1 n1 c1 w2 hn1 hB1 hg1 hb1; have G1 : Hid (B + 4 ≤ g1) := Nat.le_trans SZ.out hg1.out; have R2 : Hid (RS N B a4 a6 hi lo p z X #[.slice none 0 0, .int .i64 n, .string s, .int .i64 (1 + ((D : Int) + 12 + s.size)), .string ⟨#[105, 100]⟩] w2) := RA.out.below hb1.out; have F2 : Four B hi lo p z w2 := R2.out.bx.four)
    | (go_at_call 12; refine (ip_b w2 g1 n1 c1 N (ds ++ [100]) hi lo p z b a4 a6 bs c d R2.out.bx.zz (by show N ≤ g1; have := G1.out; have := RA.out.nb; omega) hk hp h0 h1 hbs hn1 hB1 (by show _ ≤ _; have := hl.out; simp; omega)).mono ?_; rintro e w3 ⟨g2, n2, c2, hn2, rfl, hB2, hS2⟩; have R3 : Hid (RS N B a4 a6 hi lo p z X #[.slice none 0 0, .int .i64 n, .string s, .int .i64 (1 + ((D : Int) + 12 + s.size)), .string ⟨#[105, 100]⟩] w3) := R2.out.step hS2.out G1.out; have F3 : Four B hi lo p z w3 := R3.out.bx.four))
  have G2 : Hid (B + 4 ≤ g2) := hS2.out.ge R2.out.sz G1.out
  have BB2 : Hid (Below B w w2) := BA.out.trans (Below.mono hb1.out (by have := SZ.out; show B ≤ (W1.drew.alloc (.cells #[bv 100] 5)).heap.size; omega))
  have BB3 : Hid (Below B w w3) := BB2.out.trans ⟨hS2.out.os, hS2.out.tape, hS2.out.output, hS2.out.size, fun k hk => hS2.out.block k (by have := R2.out.sz; omega) (by have := G1.out; omega)⟩
  have lb := row_len hbs.out
  have lh := hd_len b
  obtain ⟨zs, hzs⟩ : ∃ zs, zs = ds ++ [100] ++ [50] ++ [58] ++ [105, 112] ++ YbulkdqeqDoor.hd b ++ [58] ++ bs ++ [c, d] := ⟨_, rfl⟩
  have HZS : Hid (zs = ds ++ [100] ++ [50] ++ [58] ++ [105, 112] ++ YbulkdqeqDoor.hd b ++ [58] ++ bs ++ [c, d]) := hzs
  rw [← hzs] at hn2 hB2
  have LZ : Hid (zs.length ≤ 1048700) := by show _ ≤ _; have := hl.out; rw [hzs]; simp; omega
  clear hzs lb lh F1 FA F2 hb1 hg1 hB1 hn1 R1 RA BA SZ D1 R2 G1 BB2 hS2 B1
  have F3' := F3
  clear F3 F3'
  go_upto_region 6 with (first
    | (go_at_call 13; refine (str_id w5 g4 n4 c4 (zs ++ [49] ++ [58] ++ [114] ++ [100]) hn4 hB4 (by show _ ≤ _; have := LZ.out; simp; omega)).mono ?_; rintro e w6 ⟨g5, n5, c5, hn5, rfl, hB5, hS5⟩)
    | (go_at_call 13; refine (str_r w3 g2 n2 c2 zs hn2 hB2 (by show _ ≤ _; have := LZ.out; omega)).mono ?_; rintro e w4 ⟨g3, n3, c3, hn3, rfl, hB3, hS3⟩)
    | (at_builtin; refine wpList_ap rfl (.tmp 24) (.tmp 25) 22 rfl g3 c3 (zs ++ [49] ++ [58] ++ [114]) [100] n3 hn3.out rfl (hB3.out.alloc _) (src_one _ 100) (by have := LZ.out; simp; omega) ?_; intro g4 n4 c4 w5 hn4 hB4 hS4))
  have G3 : Hid (B + 4 ≤ g3) := hS3.out.ge R3.out.sz G2.out
  have R4 : Hid (RS N B a4 a6 hi lo p z X #[.slice none 0 0, .int .i64 n, .string s, .int .i64 (1 + ((D : Int) + 12 + s.size)), .string ⟨#[105, 100]⟩] (w4.alloc (.cells #[.int .u8 100] 5))) := (R3.out.step hS3.out G2.out).below ((Below.refl _ _).alloc (Nat.le_refl _) _)
  have G4 : Hid (B + 4 ≤ g4) := hS4.out.ge R4.out.sz G3.out
  have R5 : Hid (RS N B a4 a6 hi lo p z X #[.slice none 0 0, .int .i64 n, .string s, .int .i64 (1 + ((D : Int) + 12 + s.size)), .string ⟨#[105, 100]⟩] w5) := R4.out.step hS4.out G3.out
  have R6 : Hid (RS N B a4 a6 hi lo p z X #[.slice none 0 0, .int .i64 n, .string s, .int .i64 (1 + ((D : Int) + 12 + s.size)), .string ⟨#[105, 100]⟩] w6) := R5.out.step hS5.out G4.out
  have G5 : Hid (B + 4 ≤ g5) := hS5.out.ge R5.out.sz G4.out
  have BB6 : Hid (Below B w w6) := by
    have s3 := R3.out.sz
    have s4 := R4.out.sz
    have s5 := R5.out.sz
    have q2 := G2.out
    have q3 := G3.out
    have q4 := G4.out
    have a4' : Below B w (w4.alloc (.cells #[.int .u8 100] 5)) := (BB3.out.trans (hS3.out.under (by omega) (by omega))).alloc (by have := (R3.out.step hS3.out G2.out).sz; omega) _
    exact (a4'.trans (hS4.out.under (by omega) (by omega))).trans (hS5.out.under (by omega) (by omega))
  have LI : Hid (ids.length = 20) := by
    have := congrArg List.length hX.out
    simp [bvs_length, hX20] at this
    exact this.symm
  clear R4 R5 R3 hS3 hS4 hS5 hB3 hB4 hn3 hn4 G2 G3 G4 BB3 hB2 hn2
  go_region_held3 (fun _ => True) (trivial) (first
    | (refine step_ap rfl (.tmp 30) (.tmp 31) 22 rfl g6 c6 (zs ++ [49] ++ [58] ++ [114] ++ [100] ++ [50] ++ [58] ++ [105, 100] ++ [50, 48] ++ [58]) ids n6 hn6.out rfl hB6.out (src_row R7.out.ib hX.out LI.out.symm) (by have := LZ.out; have := LI.out; simp; omega) ?_; intro g7 n7 c7 w8 hn7 hB7 hS7; have R8 : Hid (RS N B a4 a6 hi lo p z X #[.slice none 0 0, .int .i64 n, .string s, .int .i64 (1 + ((D : Int) + 12 + s.size)), .string ⟨#[105, 100]⟩] w8) := R7.out.step hS7.out G6.out; have y1 : w8.cell? ⟨B + 1 + 1 + 1, 0, none⟩ = some (.slice none 0 0) := (by simp [World.cell?, R8.out.wb]); have y2 : w8.frozen? ⟨B + 1 + 1 + 1, 0, none⟩ = false := (by simp [World.frozen?, R8.out.wb]))
    | (go_at_call 14; refine (head_20 w6.drew g5 n5 c5 (zs ++ [49] ++ [58] ++ [114] ++ [100] ++ [50] ++ [58] ++ [105, 100]) hn5 hB5.out.drew (by show _ ≤ _; have := LZ.out; simp; omega)).mono ?_; rintro e w7 ⟨g6, n6, c6, hn6, rfl, hB6, hS6⟩; have R7 : Hid (RS N B a4 a6 hi lo p z X #[.slice none 0 0, .int .i64 n, .string s, .int .i64 (1 + ((D : Int) + 12 + s.size)), .string ⟨#[105, 100]⟩] w7) := (R6.out.keep (w' := w6.drew) (Nat.le_refl _) (fun _ _ => rfl)).step hS6.out G5.out; have G6 : Hid (B + 4 ≤ g6) := hS6.out.ge R6.out.sz G5.out))
  have G7 : Hid (B + 4 ≤ g7) := hS7.out.ge R7.out.sz G6.out
  obtain ⟨W9, hW9⟩ : ∃ W9, W9 = w8.setCell ⟨B + 1 + 1 + 1, 0, none⟩ (.slice (some ⟨g7, 0, none⟩) n7 c7) := ⟨_, rfl⟩
  rw [← hW9]
  have O9 := Only.set R8.out.wb 0 (.slice (some ⟨g7, 0, none⟩) n7 c7)
  rw [← hW9] at O9
  have wb : W9.heap[B + 1 + 1 + 1]? = some (.cells #[.slice (some ⟨g7, 0, none⟩) n7 c7, .int .i64 n, .string s, .int .i64 (1 + ((D : Int) + 12 + s.size)), .string ⟨#[105, 100]⟩] 42) := by simpa using O9.here
  have rb : W9.heap[B + 1 + 1]? = some (.cells #[.slice none 0 0, .int .i64 0, .string ⟨#[]⟩, .int .i64 0, .string ⟨#[]⟩] 42) := (O9.block _ (by omega)).trans R8.out.rb
  have x0 : W9.cell? ⟨B + 1 + 1 + 1, 0, none⟩ = some (.slice (some ⟨g7, 0, none⟩) n7 c7) := by simp [World.cell?, wb]
  have x1 : W9.cell? ⟨B + 1 + 1 + 1, 1, none⟩ = some (.int .i64 n) := by simp [World.cell?, wb]
  have x2 : W9.cell? ⟨B + 1 + 1 + 1, 2, none⟩ = some (.string s) := by simp [World.cell?, wb]
  have x3 : W9.cell? ⟨B + 1 + 1 + 1, 3, none⟩ = some (.int .i64 (1 + ((D : Int) + 12 + s.size))) := by simp [World.cell?, wb]
  have x4 : W9.cell? ⟨B + 1 + 1 + 1, 4, none⟩ = some (.string ⟨#[105, 100]⟩) := by simp [World.cell?, wb]
  have v0 : W9.cell? ⟨B + 1 + 1, 0, none⟩ = some (.slice none 0 0) := by simp [World.cell?, rb]
  have v1 : W9.cell? ⟨B + 1 + 1, 1, none⟩ = some (.int .i64 0) := by simp [World.cell?, rb]
  have v2 : W9.cell? ⟨B + 1 + 1, 2, none⟩ = some (.string ⟨#[]⟩) := by simp [World.cell?, rb]
  have v3 : W9.cell? ⟨B + 1 + 1, 3, none⟩ = some (.int .i64 0) := by simp [World.cell?, rb]
  have v4 : W9.cell? ⟨B + 1 + 1, 4, none⟩ = some (.string ⟨#[]⟩) := by simp [World.cell?, rb]
  have fz : ∀ i, W9.frozen? ⟨B + 1 + 1, i, none⟩ = false := fun i => by simp [World.frozen?, rb]
  have HB9 : Hid (Buf W9 g7 c7 (full ds b bs c d ids)) := by
    have e : full ds b bs c d ids = zs ++ [49] ++ [58] ++ [114] ++ [100] ++ [50] ++ [58] ++ [105, 100] ++ [50, 48] ++ [58] ++ ids := by rw [HZS.out]; rfl
    rw [e]
    exact hB7.out.keep (O9.block g7 (by have := G7.out; omega))
  have HN9 : Hid (n7 = (full ds b bs c d ids).length) := by
    have e : full ds b bs c d ids = zs ++ [49] ++ [58] ++ [114] ++ [100] ++ [50] ++ [58] ++ [105, 100] ++ [50, 48] ++ [58] ++ ids := by rw [HZS.out]; rfl
    rw [e]
    exact hn7.out
  have BB9 : Hid (Below B w W9) := by
    have s6 := R6.out.sz
    have s7 := R7.out.sz
    have q5 := G5.out
    have q6 := G6.out
    exact ((BB6.out.drew.trans (hS6.out.under (by show B ≤ w6.heap.size; omega) (by omega))).trans (hS7.out.under (by omega) (by omega))).trans (O9.below (by omega))
  clear hW9 O9 wb rb hB7 hn7 hB6 hn6 R6 R7 R8 y1 y2 BB6 hS6 hS7
  go_wp2
  refine bodyPost_ret (v := .agg #[.slice (some ⟨g7, 0, none⟩) n7 c7, .int .i64 n, .string s, .int .i64 (1 + ((D : Int) + 12 + s.size)), .string ⟨#[105, 100]⟩]) (by simp [results, Ybad.results8, go_sem, v0, v1, v2, v3, v4]) rfl ⟨g7, n7, c7, by rw [HD.out], HN9, ?_, ?_, ?_⟩
  · have hb := HB9.out
    have q := G7.out
    refine Buf.keep (w := W9) hb ?_
    have e : ∀ (V : World) i v, (V.setCell ⟨B + 1 + 1, i, none⟩ v).heap[g7]? = V.heap[g7]? := fun V i v => by simp [World.setCell, Array.getElem?_modify, show ¬ (B + 1 + 1 = g7) by omega]
    simp only [e]
  · rw [← HB.out]
    have q := G7.out
    show B ≤ g7
    omega
  · rw [← HB.out]
    have HH := BB9.out
    repeat' (first | exact HH | refine Below.setCell ?_ ?_ _ | (simp; done) | (simp; omega))
end Go.Proofs.YbulkdqeqDoor
