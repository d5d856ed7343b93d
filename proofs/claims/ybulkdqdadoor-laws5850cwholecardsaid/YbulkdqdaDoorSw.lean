import Derived.Test.YbulkdqdaDoorWalks
namespace Go.Proofs.YbulkdqdaDoor
open Go.RowKit
abbrev nChar : ByteArray := { data := #[99, 104, 97, 114, 97, 99, 116, 101, 114, 115] }
abbrev nDig : ByteArray := { data := #[100, 105, 103, 105, 116, 115] }
abbrev nDate : ByteArray := { data := #[100, 97, 116, 101, 116, 105, 109, 101, 115] }
abbrev nDial : ByteArray := { data := #[100, 105, 97, 108, 101, 99, 116] }
/-- What Switches asks of the world: the four maps' cells, and what each look-up gives in it and in every world that has grown out of it. -/
structure Looks (c d t l : Int) (S1 S2 S3 S4 : ByteArray) (b0 b1 b2 b3 : Nat) (w : World) : Prop where
  c0 : w.cell? ⟨0, 0, none⟩ = some (.map (some b0))
  c1 : w.cell? ⟨1, 0, none⟩ = some (.map (some b1))
  c2 : w.cell? ⟨2, 0, none⟩ = some (.map (some b2))
  c3 : w.cell? ⟨3, 0, none⟩ = some (.map (some b3))
  sz : 3 < w.heap.size
  l0 : ∀ W', Below w.heap.size w W' → (Instr.lookup 73 (.map (some b0)) (.int .i64 c) false).run Ybad.prog W' = .ok (.string S1) W'
  l1 : ∀ W', Below w.heap.size w W' → (Instr.lookup 74 (.map (some b1)) (.int .i64 d) false).run Ybad.prog W' = .ok (.string S2) W'
  l2 : ∀ W', Below w.heap.size w W' → (Instr.lookup 75 (.map (some b2)) (.int .i64 t) false).run Ybad.prog W' = .ok (.string S3) W'
  l3 : ∀ W', Below w.heap.size w W' → (Instr.lookup 76 (.map (some b3)) (.int .i64 l) false).run Ybad.prog W' = .ok (.string S4) W'

set_option maxRecDepth 100000 in
set_option maxHeartbeats 400000 in
theorem switches_any (name : ByteArray) (c d t l : Int) (S1 S2 S3 S4 : ByteArray) (b0 b1 b2 b3 : Nat) (w : World) (L : Looks c d t l S1 S2 S3 S4 b0 b1 b2 b3 w) :
    Calls Ybad.prog 11 #[.agg #[.string name, .int .i64 c, .int .i64 d, .int .i64 t, .int .i64 l]] w fun e w' => e = .returned (.slice (some ⟨w.heap.size + 1, 0, none⟩) 4 4) ∧
      w' = (w.alloc (.cells #[.string name, .int .i64 c, .int .i64 d, .int .i64 t, .int .i64 l] 51)).alloc (.cells #[.string nChar, .string S1, .string nDig, .string S2, .string nDate, .string S3, .string nDial, .string S4] 54) := by
  have hb := (Below.refl w.heap.size w).alloc (Nat.le_refl _) (.cells #[.string name, .int .i64 c, .int .i64 d, .int .i64 t, .int .i64 l] 51)
  have k0 := L.l0 _ hb
  have k1 := L.l1 _ hb
  have k2 := L.l2 _ hb
  have k3 := L.l3 _ hb
  have sz := L.sz
  have c0 := (hb.cell (p := ⟨0, 0, none⟩) (by simp; omega)).trans L.c0
  have c1 := (hb.cell (p := ⟨1, 0, none⟩) (by simp; omega)).trans L.c1
  have c2 := (hb.cell (p := ⟨2, 0, none⟩) (by simp; omega)).trans L.c2
  have c3 := (hb.cell (p := ⟨3, 0, none⟩) (by simp; omega)).trans L.c3
  clear hb L
  go_enter Ybad.func11, Ybad.ntmps11
  go_wp2
  go_ret
  exact ⟨rfl, rfl⟩
end Go.Proofs.YbulkdqdaDoor
