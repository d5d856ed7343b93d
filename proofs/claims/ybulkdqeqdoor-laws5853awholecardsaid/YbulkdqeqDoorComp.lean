import Derived.Test.YbulkdqeqDoorAs4
import Derived.Deep.RegionHeld3
namespace Go.Proofs.YbulkdqeqDoor
open Go.RowKit
theorem Step.below {w w' : World} (g : Nat) (h : Below w.heap.size w w') : Step w w' g g := ⟨h.os, h.tape, h.output, h.size, .inl rfl, fun k hk _ => h.block k hk⟩
theorem Buf.below {w w' : World} {g cap : Nat} {xs : List UInt8} (hB : Buf w g cap xs) (h : Below w.heap.size w w') : Buf w' g cap xs := hB.keep (h.block g hB.lt)
theorem src_row {w : World} {b n : Nat} {X : Array Value} {t : TypeId} {r : Nat × Nat} {bs : List UInt8} (h : w.heap[b]? = some (.cells X t r)) (hX : X.toList = bvs bs) (hn : n = bs.length) : SrcB 22 (.slice (some ⟨b, 0, none⟩) n n) bs w :=
  SrcB.slice w b 0 n n bs hn (fun i hi => by
    have e : w.cell? ⟨b, 0 + i, none⟩ = X[i]? := by simp [World.cell?, h]
    rw [e, ← Array.getElem?_toList, hX]
    simp [bvs, hi])
theorem setRow_new (w : World) (A X : Array Value) (t : TypeId) : (w.alloc (.cells A t)).setRow w.heap.size X = w.alloc (.cells X t) := by
  have h : ∀ (a : Array Obj) (x y : Obj) (f : Obj → Obj), f x = y → (a.push x).modify a.size f = a.push y := fun a x y f hf => by
    apply Array.ext
    · simp
    · intro i h1 h2
      simp only [Array.getElem_modify, Array.getElem_push]
      by_cases hi : i < a.size
      · simp [hi, Nat.ne_of_gt hi]
      · have : a.size = i := by simp at h1; omega
        subst this
        simp [hf]
  show ({ w with heap := (w.heap.push _).modify w.heap.size _ } : World) = { w with heap := w.heap.push _ }
  rw [h w.heap _ (.cells X t) _ rfl]
theorem store_new (w : World) (A X : Array Value) (t : TypeId) (h : A.size = X.size) (hX : X.all (·.oneCell') = true) : (storeCells ⟨w.heap.size, 0, none⟩ X.toList).run Ybad.prog (w.alloc (.cells A t)) = .ok () (w.alloc (.cells X t)) := by
  have := run_storeCells_at Ybad.prog w.heap.size 0 t X.toList 0 A (w.alloc (.cells A t)) (heap_alloc_new w _) (by simp [h]) (fun v hv => by simpa using Array.all_eq_true_iff_forall_mem.1 hX v (by simpa using hv))
  rw [this]
  congr 1
  rw [← setRow_new w A X t]
  congr 1
  rw [List.drop_eq_nil_of_le (by simp [h])]
  simp
set_option maxRecDepth 100000 in
set_option maxHeartbeats 1000000 in
theorem comp_4 (w : World) (g n cap N : Nat) (xs : List UInt8) (hi lo p : Nat) (a4 a6 : Addr) (bs : List UInt8) (c d : UInt8) (hZ : Hid (Z N a4 a6 w)) (hp : p < 65536) (h0 : Hid ((p : Int) / 256 = c.toNat)) (h1 : Hid ((p : Int) % 256 = d.toNat)) (hbs : Hid ((bytes4 ((lo : Int) % 4294967296)).toList = bvs bs))
    (hn : Hid (n = xs.length)) (hB : Hid (Buf w g cap xs)) (hb : Hid (xs.length ≤ 2097100)) :
    Calls Ybad.prog 17 #[.slice (some ⟨g, 0, none⟩) n cap, .agg #[.int .u64 hi, .int .u64 lo, .pointer (some a4), .int .u16 p]] w fun e w' => AP w g (xs ++ bs ++ [c, d]) e w' := by
  go_enter Ybad.func17, Ybad.ntmps17
  go_wp2_with fail
  refine (addr_any hi lo p (some a4) _).mono ?_
  rintro e w1 ⟨rfl, h1⟩
  have b1 : Below w.heap.size w w1 := ((Below.refl w.heap.size w).alloc (Nat.le_refl _) _).trans (h1.mono (by simp))
  have hs1 := b1.size
  have k0 : w1.cell? ⟨w.heap.size, 0, none⟩ = some (.int .u64 hi) := (h1.cell (p := ⟨w.heap.size, 0, none⟩) (by simp)).trans (by simp)
  have k1 : w1.cell? ⟨w.heap.size, 1, none⟩ = some (.int .u64 lo) := (h1.cell (p := ⟨w.heap.size, 1, none⟩) (by simp)).trans (by simp)
  have k2 : w1.cell? ⟨w.heap.size, 2, none⟩ = some (.pointer (some a4)) := (h1.cell (p := ⟨w.heap.size, 2, none⟩) (by simp)).trans (by simp)
  have k3 : w1.cell? ⟨w.heap.size, 3, none⟩ = some (.int .u16 p) := (h1.cell (p := ⟨w.heap.size, 3, none⟩) (by simp)).trans (by simp)
  have hl1 : w.heap.size < w1.heap.size := by have := h1.size; simp at this; omega
  obtain ⟨W, hW⟩ : ∃ W, W = w1.alloc (.cells #[.int .u64 hi, .int .u64 lo, .pointer (some a4)] 33) := ⟨_, rfl⟩
  have b2 : Below w.heap.size w W := by rw [hW]; exact b1.alloc hs1 _
  have bW : Below w1.heap.size w1 W := by rw [hW]; exact (Below.refl _ _).alloc (Nat.le_refl _) _
  have hsW : w1.heap.size < W.heap.size := by rw [hW]; simp
  have m0 : W.cell? ⟨w1.heap.size, 0, none⟩ = some (.int .u64 hi) := by rw [hW]; simp
  have m1 : W.cell? ⟨w1.heap.size, 1, none⟩ = some (.int .u64 lo) := by rw [hW]; simp
  have m2 : W.cell? ⟨w1.heap.size, 2, none⟩ = some (.pointer (some a4)) := by rw [hW]; simp
  have k0' := (bW.cell (p := ⟨w.heap.size, 0, none⟩) hl1).trans k0
  have k1' := (bW.cell (p := ⟨w.heap.size, 1, none⟩) hl1).trans k1
  have k2' := (bW.cell (p := ⟨w.heap.size, 2, none⟩) hl1).trans k2
  have k3' := (bW.cell (p := ⟨w.heap.size, 3, none⟩) hl1).trans k3
  have ZW : Hid (Z N a4 a6 W) := hZ.out.below b2
  have HW : Hid (W = w1.alloc (.cells #[.int .u64 hi, .int .u64 lo, .pointer (some a4)] 33)) := hW
  have BW : Hid (Below w.heap.size w W) := b2
  clear h1 b1 b2 bW hW
  go_wp2_with fail
  rw [← HW.out]
  clear k0 k1 k2 k3 HW
  obtain ⟨B1, hB1⟩ : ∃ B, B = w1.heap.size := ⟨_, rfl⟩
  rw [← hB1] at hl1 hs1 hsW m0 m1 m2 ⊢
  obtain ⟨B0, hB0⟩ : ∃ B, B = w.heap.size := ⟨_, rfl⟩
  have HB0 : Hid (B0 = w.heap.size) := hB0
  rw [← hB0] at hl1 hs1 k0' k1' k2' k3' BW ⊢
  clear hB1 hB0
  refine (is4_any hi lo (some a4) true a4 W ZW.out.c0 (by omega) ZW.out.is4).mono ?_
  rintro e w2 ⟨rfl, h2⟩
  have q0 := (h2.cell (p := ⟨B1, 0, none⟩) hsW).trans m0
  have q1 := (h2.cell (p := ⟨B1, 1, none⟩) hsW).trans m1
  have q2 := (h2.cell (p := ⟨B1, 2, none⟩) hsW).trans m2
  have r0 := (h2.cell (p := ⟨B0, 0, none⟩) (by show B0 < _; omega)).trans k0'
  have r1 := (h2.cell (p := ⟨B0, 1, none⟩) (by show B0 < _; omega)).trans k1'
  have r2 := (h2.cell (p := ⟨B0, 2, none⟩) (by show B0 < _; omega)).trans k2'
  have r3 := (h2.cell (p := ⟨B0, 3, none⟩) (by show B0 < _; omega)).trans k3'
  have hs2 := h2.size
  have Z2 : Hid (Z N a4 a6 w2) := ZW.out.below h2
  have BB2 : Hid (Below B0 w w2) := BW.out.trans (h2.mono (by omega))
  clear m0 m1 m2 k0' k1' k2' k3' BW ZW h2
  go_wp2_with fail
  refine (as4_any hi lo a4 w2 Z2.out.c0 (by omega) Z2.out.is4).mono ?_
  rintro e w3 ⟨rfl, h3⟩
  have t0 := (h3.cell (p := ⟨B0, 0, none⟩) (by show B0 < _; omega)).trans r0
  have t1 := (h3.cell (p := ⟨B0, 1, none⟩) (by show B0 < _; omega)).trans r1
  have t2 := (h3.cell (p := ⟨B0, 2, none⟩) (by show B0 < _; omega)).trans r2
  have t3 := (h3.cell (p := ⟨B0, 3, none⟩) (by show B0 < _; omega)).trans r3
  have hs3 := h3.size
  have BB3 : Hid (Below B0 w w3) := BB2.out.trans (h3.mono (by omega))
  clear q0 q1 q2 r0 r1 r2 r3 h3 BB2 Z2
  have ON : Hid ((bytes4 ((lo : Int) % 4294967296)).all (·.oneCell') = true) := bytes4_one _
  have SZ : (bytes4 ((lo : Int) % 4294967296)).size = 4 := rfl
  generalize hX : bytes4 ((lo : Int) % 4294967296) = X at *
  clear hX
  have st := store_new w3 #[.int .u8 0, .int .u8 0, .int .u8 0, .int .u8 0] X 34 (by rw [SZ]; rfl) ON.out
  have LB : Hid (bs.length = 4) := by
    have := congrArg List.length hbs.out
    simp [bvs_length, SZ] at this
    exact this.symm
  have HB3 : Hid (Buf (w3.alloc (.cells X 34)) g cap xs) := (hB.out.keep (BB3.out.block g (by rw [HB0.out]; exact hB.out.lt))).alloc _
  have SR : Hid (SrcB 22 (.slice (some ⟨w3.heap.size, 0, none⟩) 4 4) bs (w3.alloc (.cells X 34))) := src_row (heap_alloc_new w3 _) hbs.out LB.out.symm
  go_upto_region 7 with (at_builtin; refine wpList_ap rfl (.tmp 14) (.tmp 15) 22 rfl g cap xs bs n hn.out rfl HB3.out SR.out (by have := hb.out; have := LB.out; omega) ?_; intro g1 n1 c1 w4 hn1 hB1 hS1)
  have u : ∀ i, w4.cell? ⟨B0, i, none⟩ = w3.cell? ⟨B0, i, none⟩ := fun i => by
    refine (World.cell?_of_block (hS1.out.block B0 (by simp; omega) (by have := hB.out.lt; have := HB0.out; omega))).trans (World.cell?_of_block (Below.heap_alloc w3 _ B0 (by omega)))
  have u0 := (u 0).trans t0
  have u1 := (u 1).trans t1
  have u2 := (u 2).trans t2
  have u3 := (u 3).trans t3
  clear u t0 t1 t2 t3 st
  have hb1 : Hid ((xs ++ bs).length ≤ 2097152) := by show _ ≤ _; have := hb.out; have := LB.out; simp; omega
  go_region_with (first
    | (go_at_call 24; refine (port_any hi lo p (some a4) _).mono ?_; rintro e w5 ⟨rfl, rfl⟩)
    | (go_at_call 23; refine (u16_any _ g1 n1 c1 (xs ++ bs) p c d hp h0 h1 hn1 (hB1.out.drew.alloc _) hb1).mono ?_; rintro e w6 ⟨g2, n2, c2, hn2, rfl, hB2, hS2⟩))
  all_goals
    go_wp2
    go_ret
    exact AP.then (((Step.below g (by have := BB3.out; rwa [HB0.out] at this)).alloc _).trans hS1.out) (AP.more (Step.refl _ g1).drew ⟨g2, n2, c2, hn2, rfl, hB2, hS2⟩)
set_option maxRecDepth 100000 in
set_option maxHeartbeats 1000000 in
theorem comp_16 (w : World) (g n cap N : Nat) (xs : List UInt8) (hi lo p : Nat) (z : Option Addr) (a4 a6 : Addr) (bs : List UInt8) (c d : UInt8) (hZ : Hid (Z N a4 a6 w)) (hI : Hid (Is z false a4 w)) (hp : p < 65536) (h0 : Hid ((p : Int) / 256 = c.toNat)) (h1 : Hid ((p : Int) % 256 = d.toNat)) (hbs : Hid ((bytes16 hi lo).toList = bvs bs))
    (hn : Hid (n = xs.length)) (hB : Hid (Buf w g cap xs)) (hb : Hid (xs.length ≤ 2097100)) :
    Calls Ybad.prog 17 #[.slice (some ⟨g, 0, none⟩) n cap, .agg #[.int .u64 hi, .int .u64 lo, .pointer z, .int .u16 p]] w fun e w' => AP w g (xs ++ bs ++ [c, d]) e w' := by
  go_enter Ybad.func17, Ybad.ntmps17
  go_wp2_with fail
  refine (addr_any hi lo p z _).mono ?_
  rintro e w1 ⟨rfl, h1⟩
  have b1 : Below w.heap.size w w1 := ((Below.refl w.heap.size w).alloc (Nat.le_refl _) _).trans (h1.mono (by simp))
  have hs1 := b1.size
  have k0 : w1.cell? ⟨w.heap.size, 0, none⟩ = some (.int .u64 hi) := (h1.cell (p := ⟨w.heap.size, 0, none⟩) (by simp)).trans (by simp)
  have k1 : w1.cell? ⟨w.heap.size, 1, none⟩ = some (.int .u64 lo) := (h1.cell (p := ⟨w.heap.size, 1, none⟩) (by simp)).trans (by simp)
  have k2 : w1.cell? ⟨w.heap.size, 2, none⟩ = some (.pointer z) := (h1.cell (p := ⟨w.heap.size, 2, none⟩) (by simp)).trans (by simp)
  have k3 : w1.cell? ⟨w.heap.size, 3, none⟩ = some (.int .u16 p) := (h1.cell (p := ⟨w.heap.size, 3, none⟩) (by simp)).trans (by simp)
  have hl1 : w.heap.size < w1.heap.size := by have := h1.size; simp at this; omega
  obtain ⟨W, hW⟩ : ∃ W, W = w1.alloc (.cells #[.int .u64 hi, .int .u64 lo, .pointer z] 33) := ⟨_, rfl⟩
  have b2 : Below w.heap.size w W := by rw [hW]; exact b1.alloc hs1 _
  have bW : Below w1.heap.size w1 W := by rw [hW]; exact (Below.refl _ _).alloc (Nat.le_refl _) _
  have hsW : w1.heap.size < W.heap.size := by rw [hW]; simp
  have m0 : W.cell? ⟨w1.heap.size, 0, none⟩ = some (.int .u64 hi) := by rw [hW]; simp
  have m1 : W.cell? ⟨w1.heap.size, 1, none⟩ = some (.int .u64 lo) := by rw [hW]; simp
  have m2 : W.cell? ⟨w1.heap.size, 2, none⟩ = some (.pointer z) := by rw [hW]; simp
  have k0' := (bW.cell (p := ⟨w.heap.size, 0, none⟩) hl1).trans k0
  have k1' := (bW.cell (p := ⟨w.heap.size, 1, none⟩) hl1).trans k1
  have k2' := (bW.cell (p := ⟨w.heap.size, 2, none⟩) hl1).trans k2
  have k3' := (bW.cell (p := ⟨w.heap.size, 3, none⟩) hl1).trans k3
  have ZW : Hid (Z N a4 a6 W) := hZ.out.below b2
  have HW : Hid (W = w1.alloc (.cells #[.int .u64 hi, .int .u64 lo, .pointer z] 33)) := hW
  have BW : Hid (Below w.heap.size w W) := b2
  clear h1 b1 b2 bW hW
  go_wp2_with fail
  rw [← HW.out]
  clear k0 k1 k2 k3 HW
  obtain ⟨B1, hB1⟩ : ∃ B, B = w1.heap.size := ⟨_, rfl⟩
  rw [← hB1] at hl1 hs1 hsW m0 m1 m2 ⊢
  obtain ⟨B0, hB0⟩ : ∃ B, B = w.heap.size := ⟨_, rfl⟩
  have HB0 : Hid (B0 = w.heap.size) := hB0
  rw [← hB0] at hl1 hs1 k0' k1' k2' k3' BW ⊢
  clear hB1 hB0
  refine (is4_any hi lo z false a4 W ZW.out.c0 (by omega) (hI.out.below (by have := BW.out; rwa [HB0.out] at this))).mono ?_
  rintro e w2 ⟨rfl, h2⟩
  have q0 := (h2.cell (p := ⟨B1, 0, none⟩) hsW).trans m0
  have q1 := (h2.cell (p := ⟨B1, 1, none⟩) hsW).trans m1
  have q2 := (h2.cell (p := ⟨B1, 2, none⟩) hsW).trans m2
  have r0 := (h2.cell (p := ⟨B0, 0, none⟩) (by show B0 < _; omega)).trans k0'
  have r1 := (h2.cell (p := ⟨B0, 1, none⟩) (by show B0 < _; omega)).trans k1'
  have r2 := (h2.cell (p := ⟨B0, 2, none⟩) (by show B0 < _; omega)).trans k2'
  have r3 := (h2.cell (p := ⟨B0, 3, none⟩) (by show B0 < _; omega)).trans k3'
  have hs2 := h2.size
  have Z2 : Hid (Z N a4 a6 w2) := ZW.out.below h2
  have BB2 : Hid (Below B0 w w2) := BW.out.trans (h2.mono (by omega))
  clear m0 m1 m2 k0' k1' k2' k3' BW ZW h2
  go_wp2_with fail
  refine (as16_any hi lo (.pointer z) w2 rfl).mono ?_
  rintro e w3 ⟨rfl, h3⟩
  have t0 := (h3.cell (p := ⟨B0, 0, none⟩) (by show B0 < _; omega)).trans r0
  have t1 := (h3.cell (p := ⟨B0, 1, none⟩) (by show B0 < _; omega)).trans r1
  have t2 := (h3.cell (p := ⟨B0, 2, none⟩) (by show B0 < _; omega)).trans r2
  have t3 := (h3.cell (p := ⟨B0, 3, none⟩) (by show B0 < _; omega)).trans r3
  have hs3 := h3.size
  have BB3 : Hid (Below B0 w w3) := BB2.out.trans (h3.mono (by omega))
  clear q0 q1 q2 r0 r1 r2 r3 h3 BB2 Z2
  have ON : Hid ((bytes16 hi lo).all (·.oneCell') = true) := bytes16_one hi lo
  have SZ : (bytes16 hi lo).size = 16 := rfl
  generalize hX : bytes16 hi lo = X at *
  clear hX
  have st := store_new w3 #[.int .u8 0, .int .u8 0, .int .u8 0, .int .u8 0, .int .u8 0, .int .u8 0, .int .u8 0, .int .u8 0, .int .u8 0, .int .u8 0, .int .u8 0, .int .u8 0, .int .u8 0, .int .u8 0, .int .u8 0, .int .u8 0] X 23 (by rw [SZ]; rfl) ON.out
  have LB : Hid (bs.length = 16) := by
    have := congrArg List.length hbs.out
    simp [bvs_length, SZ] at this
    exact this.symm
  have HB3 : Hid (Buf (w3.alloc (.cells X 23)) g cap xs) := (hB.out.keep (BB3.out.block g (by rw [HB0.out]; exact hB.out.lt))).alloc _
  have SR : Hid (SrcB 22 (.slice (some ⟨w3.heap.size, 0, none⟩) 16 16) bs (w3.alloc (.cells X 23))) := src_row (heap_alloc_new w3 _) hbs.out LB.out.symm
  go_upto_region 7 with (at_builtin; refine wpList_ap rfl (.tmp 19) (.tmp 20) 22 rfl g cap xs bs n hn.out rfl HB3.out SR.out (by have := hb.out; have := LB.out; omega) ?_; intro g1 n1 c1 w4 hn1 hB1 hS1)
  have u : ∀ i, w4.cell? ⟨B0, i, none⟩ = w3.cell? ⟨B0, i, none⟩ := fun i => by
    refine (World.cell?_of_block (hS1.out.block B0 (by simp; omega) (by have := hB.out.lt; have := HB0.out; omega))).trans (World.cell?_of_block (Below.heap_alloc w3 _ B0 (by omega)))
  have u0 := (u 0).trans t0
  have u1 := (u 1).trans t1
  have u2 := (u 2).trans t2
  have u3 := (u 3).trans t3
  clear u t0 t1 t2 t3 st
  have hb1 : Hid ((xs ++ bs).length ≤ 2097152) := by show _ ≤ _; have := hb.out; have := LB.out; simp; omega
  go_region_with (first
    | (go_at_call 24; refine (port_any hi lo p z _).mono ?_; rintro e w5 ⟨rfl, rfl⟩)
    | (go_at_call 23; refine (u16_any _ g1 n1 c1 (xs ++ bs) p c d hp h0 h1 hn1 (hB1.out.drew.alloc _) hb1).mono ?_; rintro e w6 ⟨g2, n2, c2, hn2, rfl, hB2, hS2⟩))
  all_goals
    go_wp2
    go_ret
    exact AP.then (((Step.below g (by have := BB3.out; rwa [HB0.out] at this)).alloc _).trans hS1.out) (AP.more (Step.refl _ g1).drew ⟨g2, n2, c2, hn2, rfl, hB2, hS2⟩)
end Go.Proofs.YbulkdqeqDoor
