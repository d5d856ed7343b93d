import Derived.Test.YbulkdqeqDoorComp
namespace Go.Proofs.YbulkdqeqDoor
open Go.RowKit
/-- which handle an address bears: z4, none, or z6noz -/
def Kd (z : Option Addr) (b : Bool) (a4 a6 : Addr) : Prop := (z = some a4 ∧ b = true) ∨ (z = none ∧ b = false) ∨ (z = some a6 ∧ b = false)
theorem Z.is {N : Nat} {a4 a6 : Addr} {w : World} {z : Option Addr} {b : Bool} (h : Z N a4 a6 w) (hk : Kd z b a4 a6) : Is z b a4 w := by
  rcases hk with ⟨rfl, rfl⟩ | ⟨rfl, rfl⟩ | ⟨rfl, rfl⟩
  · exact h.is4
  · exact h.is0
  · exact h.is6
def nb (b : Bool) : Int := if b then 6 else 18
def hd (b : Bool) : List UInt8 := if b then [54] else [49, 56]
def row (b : Bool) (hi lo : Nat) : Array Value := if b then bytes4 ((lo : Int) % 4294967296) else bytes16 hi lo
theorem hd_len (b : Bool) : (hd b).length ≤ 2 := by cases b <;> simp [hd]
theorem row_len {b : Bool} {hi lo : Nat} {bs : List UInt8} (h : (row b hi lo).toList = bvs bs) : bs.length ≤ 16 := by
  have := congrArg List.length h
  rw [bvs_length] at this
  cases b <;> simp [row, bytes4, bytes16] at this <;> omega
/-- a box with an address lies at B -/
structure Bx (N B : Nat) (a4 a6 : Addr) (hi lo p : Nat) (z : Option Addr) (w : World) : Prop where
  zz : Z N a4 a6 w
  c0 : w.cell? ⟨B, 0, none⟩ = some (.int .u64 hi)
  c1 : w.cell? ⟨B, 1, none⟩ = some (.int .u64 lo)
  c2 : w.cell? ⟨B, 2, none⟩ = some (.pointer z)
  c3 : w.cell? ⟨B, 3, none⟩ = some (.int .u16 p)
  lt : B < w.heap.size
theorem Bx.keep {N B : Nat} {a4 a6 : Addr} {hi lo p : Nat} {z : Option Addr} {w w' : World} (h : Bx N B a4 a6 hi lo p z w) (hz : Z N a4 a6 w') (hb : w'.heap[B]? = w.heap[B]?) (hs : w.heap.size ≤ w'.heap.size) : Bx N B a4 a6 hi lo p z w' :=
  ⟨hz, (World.cell?_of_block hb).trans h.c0, (World.cell?_of_block hb).trans h.c1, (World.cell?_of_block hb).trans h.c2, (World.cell?_of_block hb).trans h.c3, Nat.lt_of_lt_of_le h.lt hs⟩
theorem Bx.below {N B : Nat} {a4 a6 : Addr} {hi lo p : Nat} {z : Option Addr} {w w' : World} (h : Bx N B a4 a6 hi lo p z w) (hb : Below w.heap.size w w') : Bx N B a4 a6 hi lo p z w' :=
  h.keep (h.zz.below hb) (hb.block B h.lt) hb.size
theorem Bx.step {N B : Nat} {a4 a6 : Addr} {hi lo p : Nat} {z : Option Addr} {w w' : World} {g g' : Nat} (h : Bx N B a4 a6 hi lo p z w) (hs : Step w w' g g') (hg : N ≤ g) (hne : B ≠ g) : Bx N B a4 a6 hi lo p z w' :=
  h.keep (h.zz.step hs hg) (hs.block B h.lt hne) hs.size
theorem Bx.drew {N B : Nat} {a4 a6 : Addr} {hi lo p : Nat} {z : Option Addr} {w : World} (h : Bx N B a4 a6 hi lo p z w) : Bx N B a4 a6 hi lo p z w.drew := ⟨⟨h.zz.c0, h.zz.c1, h.zz.ne, h.zz.h4, h.zz.h6, h.zz.n1, h.zz.n4, h.zz.n6, h.zz.le⟩, h.c0, h.c1, h.c2, h.c3, h.lt⟩
theorem Bx.new {N : Nat} {a4 a6 : Addr} {hi lo p : Nat} {z : Option Addr} {w : World} (h : Z N a4 a6 w) (t : TypeId) : Bx N w.heap.size a4 a6 hi lo p z (w.alloc (.cells #[.int .u64 hi, .int .u64 lo, .pointer z, .int .u16 p] t)) :=
  ⟨h.below ((Below.refl _ _).alloc (Nat.le_refl _) _), by simp, by simp, by simp, by simp, by simp⟩

theorem Step.ne {w w' : World} {g g' B : Nat} (h : Step w w' g g') (hb : B < w.heap.size) (hne : B ≠ g) : B ≠ g' := by rcases h.at_ with e | e <;> omega
theorem Step.ge {w w' : World} {g g' N : Nat} (h : Step w w' g g') (hb : N ≤ w.heap.size) (hg : N ≤ g) : N ≤ g' := by rcases h.at_ with e | e <;> omega
theorem clen_b (hi lo p N : Nat) (z : Option Addr) (b : Bool) (a4 a6 : Addr) (w : World) (hZ : Z N a4 a6 w) (hk : Kd z b a4 a6) :
    Calls Ybad.prog 16 #[.agg #[.int .u64 hi, .int .u64 lo, .pointer z, .int .u16 p]] w fun e w' => e = .returned (.int .i64 (nb b)) ∧ Below w.heap.size w w' :=
  clen_any hi lo p z b a4 w hZ.c0 (by have := hZ.n1; have := hZ.le; omega) (hZ.is hk)
theorem head_b (b : Bool) (w : World) (g n cap : Nat) (xs : List UInt8) (hn : Hid (n = xs.length)) (hB : Hid (Buf w g cap xs)) (hb : Hid (xs.length ≤ 2097100)) :
    Calls Ybad.prog 14 #[.slice (some ⟨g, 0, none⟩) n cap, .int .i64 (nb b)] w fun e w' => AP w g (xs ++ hd b ++ [58]) e w' := by
  cases b
  · exact head_18 w g n cap xs hn hB hb
  · exact head_6 w g n cap xs hn hB hb
theorem comp_b (w : World) (g n cap N : Nat) (xs : List UInt8) (hi lo p : Nat) (z : Option Addr) (b : Bool) (a4 a6 : Addr) (bs : List UInt8) (c d : UInt8) (hZ : Z N a4 a6 w) (hk : Kd z b a4 a6) (hp : p < 65536) (h0 : Hid ((p : Int) / 256 = c.toNat)) (h1 : Hid ((p : Int) % 256 = d.toNat)) (hbs : Hid ((row b hi lo).toList = bvs bs))
    (hn : Hid (n = xs.length)) (hB : Hid (Buf w g cap xs)) (hb : Hid (xs.length ≤ 2097100)) :
    Calls Ybad.prog 17 #[.slice (some ⟨g, 0, none⟩) n cap, .agg #[.int .u64 hi, .int .u64 lo, .pointer z, .int .u16 p]] w fun e w' => AP w g (xs ++ bs ++ [c, d]) e w' := by
  cases b
  · exact comp_16 w g n cap N xs hi lo p z a4 a6 bs c d hZ (hZ.is hk) hp h0 h1 hbs hn hB hb
  · rcases hk with ⟨rfl, _⟩ | ⟨_, h⟩ | ⟨_, h⟩
    · exact comp_4 w g n cap N xs hi lo p a4 a6 bs c d hZ hp h0 h1 hbs hn hB hb
    · cases h
    · cases h
set_option maxRecDepth 100000 in
set_option maxHeartbeats 1000000 in
theorem ip_b (w : World) (g n cap N : Nat) (xs : List UInt8) (hi lo p : Nat) (z : Option Addr) (b : Bool) (a4 a6 : Addr) (bs : List UInt8) (c d : UInt8) (hZ : Hid (Z N a4 a6 w)) (hg : Hid (N ≤ g)) (hk : Hid (Kd z b a4 a6)) (hp : p < 65536) (h0 : Hid ((p : Int) / 256 = c.toNat)) (h1 : Hid ((p : Int) % 256 = d.toNat)) (hbs : Hid ((row b hi lo).toList = bvs bs))
    (hn : Hid (n = xs.length)) (hB : Hid (Buf w g cap xs)) (hb : Hid (xs.length ≤ 2096900)) :
    Calls Ybad.prog 12 #[.slice (some ⟨g, 0, none⟩) n cap, .agg #[.int .u64 hi, .int .u64 lo, .pointer z, .int .u16 p]] w fun e w' => AP w g (xs ++ [50] ++ [58] ++ [105, 112] ++ hd b ++ [58] ++ bs ++ [c, d]) e w' := by
  have hb2 : Hid (xs.length ≤ 2097000) := Nat.le_trans hb.out (by omega)
  have hb3 : Hid ((xs ++ [50] ++ [58] ++ [105, 112]).length ≤ 2097100) := by show _ ≤ _; have := hb.out; simp; omega
  have hb4 : Hid ((xs ++ [50] ++ [58] ++ [105, 112] ++ hd b ++ [58]).length ≤ 2097100) := by show _ ≤ _; have := hb.out; have := hd_len b; simp; omega
  have hne : Hid (w.heap.size ≠ g) := by have := hB.out.lt; show _ ≠ _; omega
  obtain ⟨W, hW⟩ : ∃ W, W = w.alloc (.cells #[.int .u64 hi, .int .u64 lo, .pointer z, .int .u16 p] 38) := ⟨_, rfl⟩
  have HW : Hid (W = w.alloc (.cells #[.int .u64 hi, .int .u64 lo, .pointer z, .int .u16 p] 38)) := hW
  have BX : Hid (Bx N w.heap.size a4 a6 hi lo p z W) := by rw [hW]; exact Bx.new hZ.out 38
  have BW : Hid (Buf W g cap xs) := by rw [hW]; exact hB.out.alloc _
  have SW : Hid (Step w W g g) := by rw [hW]; exact (Step.refl w g).alloc _
  clear hW
  go_enter Ybad.func12, Ybad.ntmps12
  go_upto_region 1 with fail
  rw [← HW.out]
  clear HW
  obtain ⟨B0, hB0⟩ : ∃ B, B = w.heap.size := ⟨_, rfl⟩
  rw [← hB0] at hne BX ⊢
  clear hB0
  have k0 := BX.out.c0
  have k1 := BX.out.c1
  have k2 := BX.out.c2
  have k3 := BX.out.c3
  go_region_with (first
    | (go_at_call 13; refine (str_ip W.drew g n cap xs hn BW.out.drew hb2).mono ?_; rintro e w3 ⟨g1, n1, c1, hn1, rfl, hB1, hS1⟩; have X1 : Hid (Bx N B0 a4 a6 hi lo p z w3) := BX.out.drew.step hS1.out hg.out hne.out; have q0 := X1.out.c0; have q1 := X1.out.c1; have q2 := X1.out.c2; have q3 := X1.out.c3)
    | (go_at_call 13; refine (str_ip w4 g n cap xs hn (BW.out.drew.below hL4.out) hb2).mono ?_; rintro e w3 ⟨g1, n1, c1, hn1, rfl, hB1, hS1⟩)
    | (go_at_call 16; refine (clen_b hi lo p N z b a4 a6 w3 X1.out.zz hk.out).mono ?_; rintro e w4 ⟨rfl, hL4⟩)
    | (go_at_call 16; refine (clen_b hi lo p N z b a4 a6 W.drew BX.out.drew.zz hk.out).mono ?_; rintro e w4 ⟨rfl, hL4'⟩; have hL4 : Hid (Below W.drew.heap.size W.drew w4) := hL4'; clear hL4')
    | (go_at_call 14; refine (head_b b w3 g1 n1 c1 _ hn1 hB1 hb3).mono ?_; rintro e w5 ⟨g2, n2, c2, hn2, rfl, hB2, hS2⟩)
    | (go_at_call 14; refine (head_b b w4 g1 n1 c1 _ hn1 (hB1.out.below hL4) hb3).mono ?_; rintro e w5 ⟨g2, n2, c2, hn2, rfl, hB2, hS2⟩))
  all_goals
    have X5 : Hid (Bx N B0 a4 a6 hi lo p z w5) := (X1.out.below hL4).step hS2.out (hS1.out.ge BX.out.zz.le hg.out) (hS1.out.ne BX.out.lt hne.out)
    have p0 := X5.out.c0
    have p1 := X5.out.c1
    have p2 := X5.out.c2
    have p3 := X5.out.c3
    have S5 : Hid (Step w w5 g g2) := ((SW.out.drew.trans hS1.out).trans (Step.below g1 hL4)).trans hS2.out
    clear k0 k1 k2 k3 q0 q1 q2 q3 hL4
    go_wp2_with (go_at_call 17; refine (comp_b w5 g2 n2 c2 N _ hi lo p z b a4 a6 bs c d X5.out.zz hk.out hp h0 h1 hbs hn2 hB2 hb4).mono ?_; rintro e w6 ⟨g3, n3, c3, hn3, rfl, hB3, hS3⟩)
    go_ret
    exact AP.then S5.out ⟨g3, n3, c3, hn3, rfl, hB3, hS3⟩
end Go.Proofs.YbulkdqeqDoor
