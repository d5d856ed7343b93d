import Derived.Test.YbulkdqeqDoorLen
import Derived.Deep.QuietTactic
import Derived.BigQuiet
namespace Go.Proofs.YbulkdqeqDoor
open Go.RowKit
theorem orr {X Y : Nat} (k x : Nat) (hx : X = x * 2 ^ k) (hy : Y < 2 ^ k) (hb : X + Y < 18446744073709551616) : bits .or .u64 (Y : Int) (X : Int) = ((X + Y : Nat) : Int) := by
  rw [u64_or_nat Y X (by omega) (by omega)]
  congr 1
  rw [hx, Nat.mul_comm, Nat.or_comm]
  exact (Nat.two_pow_add_eq_or_of_lt hy x).symm
theorem orn (k p : Nat) (q : Int) (Y b : Nat) (hp : p = 2 ^ k) (hq : q = (p : Int)) (hy : Y < p) (hb : b * p + Y < 18446744073709551616) : ∃ N : Nat, bits .or .u64 (Y : Int) ((b : Int) * q) = (N : Int) ∧ N = b * p + Y := by
  have e := orr (X := b * p) (Y := Y) k b (by rw [hp]) (by rw [← hp]; exact hy) hb
  rw [Int.natCast_mul, ← hq] at e
  exact ⟨_, e, rfl⟩
set_option maxRecDepth 100000 in
set_option maxHeartbeats 1000000 in
theorem be64 (w : World) (B o cap : Nat) (b0 b1 b2 b3 b4 b5 b6 b7 : Nat) (h0 : b0 < 256) (h1 : b1 < 256) (h2 : b2 < 256) (h3 : b3 < 256) (h4 : b4 < 256) (h5 : b5 < 256) (h6 : b6 < 256) (h7 : b7 < 256)
    (c0 : w.cell? ⟨B, o, none⟩ = some (.int .u8 b0)) (c1 : w.cell? ⟨B, o + 1, none⟩ = some (.int .u8 b1)) (c2 : w.cell? ⟨B, o + 2, none⟩ = some (.int .u8 b2)) (c3 : w.cell? ⟨B, o + 3, none⟩ = some (.int .u8 b3)) (c4 : w.cell? ⟨B, o + 4, none⟩ = some (.int .u8 b4)) (c5 : w.cell? ⟨B, o + 5, none⟩ = some (.int .u8 b5)) (c6 : w.cell? ⟨B, o + 6, none⟩ = some (.int .u8 b6)) (c7 : w.cell? ⟨B, o + 7, none⟩ = some (.int .u8 b7)) :
    Calls Ybad.prog 10 #[.slice (some ⟨B, o, none⟩) 8 cap] w fun e w' => e = .returned (.int .u64 ((b0 * 72057594037927936 + b1 * 281474976710656 + b2 * 1099511627776 + b3 * 4294967296 + b4 * 16777216 + b5 * 65536 + b6 * 256 + b7 : Nat) : Int)) ∧ ∃ m, w' = w.drewN m := by
  obtain ⟨N1, e1, r1⟩ := orn 8 256 256 b7 b6 (by omega) rfl (by omega) (by omega)
  obtain ⟨N2, e2, r2⟩ := orn 16 65536 65536 N1 b5 (by omega) rfl (by omega) (by omega)
  obtain ⟨N3, e3, r3⟩ := orn 24 16777216 16777216 N2 b4 (by omega) rfl (by omega) (by omega)
  obtain ⟨N4, e4, r4⟩ := orn 32 4294967296 4294967296 N3 b3 (by omega) rfl (by omega) (by omega)
  obtain ⟨N5, e5, r5⟩ := orn 40 1099511627776 1099511627776 N4 b2 (by omega) rfl (by omega) (by omega)
  obtain ⟨N6, e6, r6⟩ := orn 48 281474976710656 281474976710656 N5 b1 (by omega) rfl (by omega) (by omega)
  obtain ⟨N7, e7, r7⟩ := orn 56 72057594037927936 72057594037927936 N6 b0 (by omega) rfl (by omega) (by omega)
  have r : N7 = b0 * 72057594037927936 + b1 * 281474976710656 + b2 * 1099511627776 + b3 * 4294967296 + b4 * 16777216 + b5 * 65536 + b6 * 256 + b7 := by rw [r7, r6, r5, r4, r3, r2, r1]; simp only [Nat.add_assoc]
  have R : Hid (N7 = b0 * 72057594037927936 + b1 * 281474976710656 + b2 * 1099511627776 + b3 * 4294967296 + b4 * 16777216 + b5 * 65536 + b6 * 256 + b7) := r
  clear r
  clear r1 r2 r3 r4 r5 r6 r7
  go_enter Ybad.func10, Ybad.ntmps10
  go_upto_region 2 with fail
  go_quiet (fail)
  go_wp2
  go_ret
  exact ⟨ret_int (by rw [R.out]), _, rfl⟩
end Go.Proofs.YbulkdqeqDoor
