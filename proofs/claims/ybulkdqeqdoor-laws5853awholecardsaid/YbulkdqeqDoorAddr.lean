import Derived.Test.YbulkdqeqDoorStr
import Derived.LaidEqlPtr
import Derived.Laws.BitsAllLaws
namespace Go.Proofs.YbulkdqeqDoor
open Go.RowKit

/-- the two handles of package netip, as they lie below N -/
structure Z (N : Nat) (a4 a6 : Addr) (w : World) : Prop where
  c0 : w.cell? ⟨0, 0, none⟩ = some (.pointer (some a4))
  c1 : w.cell? ⟨1, 0, none⟩ = some (.pointer (some a6))
  ne : a4 ≠ a6
  h4 : ∃ c t, w.heap[a4.block]? = some (.cells c t (0, 0))
  h6 : ∃ c t, w.heap[a6.block]? = some (.cells c t (0, 0))
  n1 : 1 < N
  n4 : a4.block < N
  n6 : a6.block < N
  le : N ≤ w.heap.size
theorem Z.keep {N : Nat} {a4 a6 : Addr} {w w' : World} (h : Z N a4 a6 w) (hs : w.heap.size ≤ w'.heap.size) (hk : ∀ k, k < N → w'.heap[k]? = w.heap[k]?) : Z N a4 a6 w' where
  c0 := (World.cell?_of_block (hk 0 (by have := h.n1; omega))).trans h.c0
  c1 := (World.cell?_of_block (hk 1 h.n1)).trans h.c1
  ne := h.ne
  h4 := by rw [hk _ h.n4]; exact h.h4
  h6 := by rw [hk _ h.n6]; exact h.h6
  n1 := h.n1
  n4 := h.n4
  n6 := h.n6
  le := Nat.le_trans h.le hs
theorem Z.below {N : Nat} {a4 a6 : Addr} {w w' : World} (h : Z N a4 a6 w) (hb : Below w.heap.size w w') : Z N a4 a6 w' := h.keep hb.size (fun k hk => hb.block k (Nat.lt_of_lt_of_le hk h.le))
theorem Z.step {N : Nat} {a4 a6 : Addr} {w w' : World} {g g' : Nat} (h : Z N a4 a6 w) (hs : Step w w' g g') (hg : N ≤ g) : Z N a4 a6 w' := h.keep hs.size (fun k hk => hs.block k (Nat.lt_of_lt_of_le hk h.le) (by omega))

theorem eqp_other {w : World} {a b : Addr} (hne : a ≠ b) (ha : ∃ c t, w.heap[a.block]? = some (.cells c t (0, 0))) (hb : ∃ c t, w.heap[b.block]? = some (.cells c t (0, 0))) (d : Nat) :
    (Op.equalIn (d + 1) 29 (.pointer (some a)) (.pointer (some b))).run Ybad.prog w = .ok false w := by
  obtain ⟨j, hj, hsz⟩ := Option.map_eq_some_iff.1 (show (Ybad.prog.info? 97).map (·.size) = some 2 by kernel_rfl)
  obtain ⟨ca, ta, ha⟩ := ha
  obtain ⟨cb, tb, hb⟩ := hb
  simp [Op.equalIn, run_underlying Ybad.underlying29, sizeOf, typeInfo, hj, hsz, run_sameAddr_other w hne ha hb]
theorem eqp_same (w : World) (a : Addr) (d : Nat) : (Op.equalIn (d + 1) 29 (.pointer (some a)) (.pointer (some a))).run Ybad.prog w = .ok true w := by
  obtain ⟨j, hj, hsz⟩ := Option.map_eq_some_iff.1 (show (Ybad.prog.info? 97).map (·.size) = some 2 by kernel_rfl)
  simp [Op.equalIn, run_underlying Ybad.underlying29, sizeOf, typeInfo, hj, run_sameAddr_same]
theorem eqp_nil (w : World) (a : Addr) (d : Nat) : (Op.equalIn (d + 1) 29 (.pointer none) (.pointer (some a))).run Ybad.prog w = .ok false w := by
  simp [Op.equalIn, run_underlying Ybad.underlying29]
theorem eqz_other {w : World} {a b : Addr} (hne : a ≠ b) (ha : ∃ c t, w.heap[a.block]? = some (.cells c t (0, 0))) (hb : ∃ c t, w.heap[b.block]? = some (.cells c t (0, 0))) :
    (binOp .eql 31 (.agg #[.pointer (some a)]) (.agg #[.pointer (some b)])).run Ybad.prog w = .ok (.bool false) w := by
  have h := fun d => eqp_other hne ha hb d
  clear ha hb hne
  go_simp
theorem eqz_same (w : World) (a : Addr) : (binOp .eql 31 (.agg #[.pointer (some a)]) (.agg #[.pointer (some a)])).run Ybad.prog w = .ok (.bool true) w := by
  have h := fun d => eqp_same w a d
  go_simp
theorem eqz_nil (w : World) (a : Addr) : (binOp .eql 31 (.agg #[.pointer none]) (.agg #[.pointer (some a)])).run Ybad.prog w = .ok (.bool false) w := by
  have h := fun d => eqp_nil w a d
  go_simp

theorem or64 {X Y : Nat} (k x : Nat) (hx : X = x * 2 ^ k) (hy : Y < 2 ^ k) (hb : X + Y < 18446744073709551616) : bits .or .u64 (X : Int) (Y : Int) = ((X + Y : Nat) : Int) := by
  rw [u64_or_nat X Y (by omega) (by omega)]
  congr 1
  rw [hx, Nat.mul_comm]
  exact (Nat.two_pow_add_eq_or_of_lt hy x).symm
theorem or4 {b0 b1 b2 b3 : Nat} (h0 : b0 < 256) (h1 : b1 < 256) (h2 : b2 < 256) (h3 : b3 < 256) :
    bits .or .u64 (bits .or .u64 (bits .or .u64 (bits .or .u64 281470681743360 ((b0 : Int) * 16777216)) ((b1 : Int) * 65536)) ((b2 : Int) * 256)) (b3 : Int) = ((281470681743360 + b0 * 16777216 + b1 * 65536 + b2 * 256 + b3 : Nat) : Int) := by
  have e1 := or64 (X := 281470681743360) (Y := b0 * 16777216) 32 65535 (by omega) (by omega) (by omega)
  have e2 := or64 (X := 281470681743360 + b0 * 16777216) (Y := b1 * 65536) 24 (16776960 + b0) (by omega) (by omega) (by omega)
  have e3 := or64 (X := 281470681743360 + b0 * 16777216 + b1 * 65536) (Y := b2 * 256) 16 (4294901760 + b0 * 256 + b1) (by omega) (by omega) (by omega)
  have e4 := or64 (X := 281470681743360 + b0 * 16777216 + b1 * 65536 + b2 * 256) (Y := b3) 8 (1099494850560 + b0 * 65536 + b1 * 256 + b2) (by omega) (by omega) (by omega)
  simp only [Int.natCast_mul, Int.natCast_add] at e1 e2 e3 e4 ⊢
  simp only [Int.cast_ofNat_Int] at e1 e2 e3 e4 ⊢
  rw [e1, e2, e3, e4]

set_option maxRecDepth 100000 in
set_option maxHeartbeats 400000 in
theorem from4_any (b0 b1 b2 b3 : Nat) (a4 : Addr) (w : World) (h0 : b0 < 256) (h1 : b1 < 256) (h2 : b2 < 256) (h3 : b3 < 256) (hc : w.cell? ⟨0, 0, none⟩ = some (.pointer (some a4))) (hz : 0 < w.heap.size) :
    Calls Ybad.prog 4 #[.agg #[.int .u8 b0, .int .u8 b1, .int .u8 b2, .int .u8 b3]] w fun e w' => e = .returned (.agg #[.int .u64 0, .int .u64 ((281470681743360 + b0 * 16777216 + b1 * 65536 + b2 * 256 + b3 : Nat) : Int), .pointer (some a4)]) ∧ Below w.heap.size w w' := by
  have HO := or4 h0 h1 h2 h3
  have HO' : Hid (bits .or .u64 (bits .or .u64 (bits .or .u64 (bits .or .u64 281470681743360 ((b0 : Int) * 16777216)) ((b1 : Int) * 65536)) ((b2 : Int) * 256)) (b3 : Int) = ((281470681743360 + b0 * 16777216 + b1 * 65536 + b2 * 256 + b3 : Nat) : Int)) := HO
  clear HO
  go_enter Ybad.func4, Ybad.ntmps4
  go_wp2
  refine bodyPost_ret (v := .agg #[.int .u64 0, .int .u64 (bits .or .u64 (bits .or .u64 (bits .or .u64 (bits .or .u64 281470681743360 ((b0 : Int) * 16777216)) ((b1 : Int) * 65536)) ((b2 : Int) * 256)) (b3 : Int)), .pointer (some a4)]) (by simp [results, Ybad.results4, go_sem]) rfl ⟨?_, ?_⟩
  · rw [HO'.out]
  · repeat' (first | exact Below.refl _ _ | refine Below.alloc ?_ ?_ _ | refine Below.setCell ?_ ?_ _ | exact Nat.le_refl _ | (simp; done) | (simp; omega))

end Go.Proofs.YbulkdqeqDoor
