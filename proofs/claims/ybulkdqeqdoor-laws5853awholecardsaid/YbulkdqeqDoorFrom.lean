import Derived.Test.YbulkdqeqDoorBE
namespace Go.Proofs.YbulkdqeqDoor
open Go.RowKit
set_option maxRecDepth 100000 in
set_option maxHeartbeats 1000000 in
theorem from16_any (b0 b1 b2 b3 b4 b5 b6 b7 b8 b9 b10 b11 b12 b13 b14 b15 : Nat) (a6 : Addr) (w : World) (h0 : b0 < 256) (h1 : b1 < 256) (h2 : b2 < 256) (h3 : b3 < 256) (h4 : b4 < 256) (h5 : b5 < 256) (h6 : b6 < 256) (h7 : b7 < 256) (h8 : b8 < 256) (h9 : b9 < 256) (h10 : b10 < 256) (h11 : b11 < 256) (h12 : b12 < 256) (h13 : b13 < 256) (h14 : b14 < 256) (h15 : b15 < 256) (hc : w.cell? ⟨1, 0, none⟩ = some (.pointer (some a6))) (hz : 1 < w.heap.size) :
    Calls Ybad.prog 5 #[.agg #[.int .u8 b0, .int .u8 b1, .int .u8 b2, .int .u8 b3, .int .u8 b4, .int .u8 b5, .int .u8 b6, .int .u8 b7, .int .u8 b8, .int .u8 b9, .int .u8 b10, .int .u8 b11, .int .u8 b12, .int .u8 b13, .int .u8 b14, .int .u8 b15]] w fun e w' => e = .returned (.agg #[.int .u64 ((b0 * 72057594037927936 + b1 * 281474976710656 + b2 * 1099511627776 + b3 * 4294967296 + b4 * 16777216 + b5 * 65536 + b6 * 256 + b7 : Nat) : Int), .int .u64 ((b8 * 72057594037927936 + b9 * 281474976710656 + b10 * 1099511627776 + b11 * 4294967296 + b12 * 16777216 + b13 * 65536 + b14 * 256 + b15 : Nat) : Int), .pointer (some a6)]) ∧ Below w.heap.size w w' := by
  obtain ⟨W, hW⟩ : ∃ W, W = (w.alloc (.cells #[.int .u8 b0, .int .u8 b1, .int .u8 b2, .int .u8 b3, .int .u8 b4, .int .u8 b5, .int .u8 b6, .int .u8 b7, .int .u8 b8, .int .u8 b9, .int .u8 b10, .int .u8 b11, .int .u8 b12, .int .u8 b13, .int .u8 b14, .int .u8 b15] 23)).alloc (.cells #[.int .u64 0, .int .u64 0, .pointer none] 33) := ⟨_, rfl⟩
  have HW : Hid (W = (w.alloc (.cells #[.int .u8 b0, .int .u8 b1, .int .u8 b2, .int .u8 b3, .int .u8 b4, .int .u8 b5, .int .u8 b6, .int .u8 b7, .int .u8 b8, .int .u8 b9, .int .u8 b10, .int .u8 b11, .int .u8 b12, .int .u8 b13, .int .u8 b14, .int .u8 b15] 23)).alloc (.cells #[.int .u64 0, .int .u64 0, .pointer none] 33)) := hW
  have BW : Hid (Below w.heap.size w W) := by rw [hW]; exact ((Below.refl _ _).alloc (Nat.le_refl _) _).alloc (by simp) _
  have LW : W.heap.size = w.heap.size + 2 := by rw [hW]; simp
  have hc' := (BW.out.cell (p := ⟨1, 0, none⟩) hz).trans hc
  have hh : W.heap[w.heap.size]? = some (.cells #[.int .u8 b0, .int .u8 b1, .int .u8 b2, .int .u8 b3, .int .u8 b4, .int .u8 b5, .int .u8 b6, .int .u8 b7, .int .u8 b8, .int .u8 b9, .int .u8 b10, .int .u8 b11, .int .u8 b12, .int .u8 b13, .int .u8 b14, .int .u8 b15] 23) := by rw [hW]; exact heap_alloc2_old w _ _
  have HR : Hid (W.heap[w.heap.size + 1]? = some (.cells #[.int .u64 0, .int .u64 0, .pointer none] 33)) := by rw [hW]; exact heap_alloc2_new w _ _
  have k0 : W.cell? ⟨w.heap.size, 0, none⟩ = some (.int .u8 b0) := by simp [World.cell?, hh]
  have k1 : W.cell? ⟨w.heap.size, 1, none⟩ = some (.int .u8 b1) := by simp [World.cell?, hh]
  have k2 : W.cell? ⟨w.heap.size, 2, none⟩ = some (.int .u8 b2) := by simp [World.cell?, hh]
  have k3 : W.cell? ⟨w.heap.size, 3, none⟩ = some (.int .u8 b3) := by simp [World.cell?, hh]
  have k4 : W.cell? ⟨w.heap.size, 4, none⟩ = some (.int .u8 b4) := by simp [World.cell?, hh]
  have k5 : W.cell? ⟨w.heap.size, 5, none⟩ = some (.int .u8 b5) := by simp [World.cell?, hh]
  have k6 : W.cell? ⟨w.heap.size, 6, none⟩ = some (.int .u8 b6) := by simp [World.cell?, hh]
  have k7 : W.cell? ⟨w.heap.size, 7, none⟩ = some (.int .u8 b7) := by simp [World.cell?, hh]
  have k8 : W.cell? ⟨w.heap.size, 8, none⟩ = some (.int .u8 b8) := by simp [World.cell?, hh]
  have k9 : W.cell? ⟨w.heap.size, 9, none⟩ = some (.int .u8 b9) := by simp [World.cell?, hh]
  have k10 : W.cell? ⟨w.heap.size, 10, none⟩ = some (.int .u8 b10) := by simp [World.cell?, hh]
  have k11 : W.cell? ⟨w.heap.size, 11, none⟩ = some (.int .u8 b11) := by simp [World.cell?, hh]
  have k12 : W.cell? ⟨w.heap.size, 12, none⟩ = some (.int .u8 b12) := by simp [World.cell?, hh]
  have k13 : W.cell? ⟨w.heap.size, 13, none⟩ = some (.int .u8 b13) := by simp [World.cell?, hh]
  have k14 : W.cell? ⟨w.heap.size, 14, none⟩ = some (.int .u8 b14) := by simp [World.cell?, hh]
  have k15 : W.cell? ⟨w.heap.size, 15, none⟩ = some (.int .u8 b15) := by simp [World.cell?, hh]
  obtain ⟨HI, hHI⟩ : ∃ n : Nat, n = b0 * 72057594037927936 + b1 * 281474976710656 + b2 * 1099511627776 + b3 * 4294967296 + b4 * 16777216 + b5 * 65536 + b6 * 256 + b7 := ⟨_, rfl⟩
  obtain ⟨LO, hLO⟩ : ∃ n : Nat, n = b8 * 72057594037927936 + b9 * 281474976710656 + b10 * 1099511627776 + b11 * 4294967296 + b12 * 16777216 + b13 * 65536 + b14 * 256 + b15 := ⟨_, rfl⟩
  have C1 : Hid (∀ k, Calls Ybad.prog 10 #[.slice (some ⟨w.heap.size, 0, none⟩) 8 16] (W.drewN k) fun e w' => e = .returned (.int .u64 (HI : Int)) ∧ ∃ m, w' = W.drewN m) := fun k => by
    refine (be64 (W.drewN k) w.heap.size 0 16 b0 b1 b2 b3 b4 b5 b6 b7 h0 h1 h2 h3 h4 h5 h6 h7 k0 k1 k2 k3 k4 k5 k6 k7).mono ?_
    rintro e w' ⟨rfl, m, rfl⟩
    exact ⟨by rw [hHI], k + m, by simp⟩
  have C2 : Hid (∀ k, Calls Ybad.prog 10 #[.slice (some ⟨w.heap.size, 8, none⟩) 8 8] (W.drewN k) fun e w' => e = .returned (.int .u64 (LO : Int)) ∧ ∃ m, w' = W.drewN m) := fun k => by
    refine (be64 (W.drewN k) w.heap.size 8 8 b8 b9 b10 b11 b12 b13 b14 b15 h8 h9 h10 h11 h12 h13 h14 h15 k8 k9 k10 k11 k12 k13 k14 k15).mono ?_
    rintro e w' ⟨rfl, m, rfl⟩
    exact ⟨by rw [hLO], k + m, by simp⟩
  rw [← hHI, ← hLO]
  have z0 : W.cell? ⟨w.heap.size + 1, 0, none⟩ = some (.int .u64 0) := by simp [World.cell?, HR.out]
  have z1 : W.cell? ⟨w.heap.size + 1, 1, none⟩ = some (.int .u64 0) := by simp [World.cell?, HR.out]
  have z2 : W.cell? ⟨w.heap.size + 1, 2, none⟩ = some (.pointer none) := by simp [World.cell?, HR.out]
  have f : ∀ i, W.frozen? ⟨w.heap.size + 1, i, none⟩ = false := fun i => by simp [World.frozen?, HR.out]
  clear hW hh k0 k1 k2 k3 k4 k5 k6 k7 k8 k9 k10 k11 k12 k13 k14 k15 hHI hLO h0 h1 h2 h3 h4 h5 h6 h7 h8 h9 h10 h11 h12 h13 h14 h15
  go_enter Ybad.func5, Ybad.ntmps5
  go_upto_region 1 with fail
  rw [← HW.out]
  clear HW
  go_region_with (first
    | (go_at_call 10; refine (C2.out m1).mono ?_; rintro e w2 ⟨rfl, m2, rfl⟩)
    | (go_at_call 10; refine (C1.out 1).mono ?_; rintro e w1 ⟨rfl, m1, rfl⟩))
  all_goals
    go_wp2
    refine bodyPost_ret (v := .agg #[.int .u64 HI, .int .u64 LO, .pointer (some a6)]) (by simp [results, Ybad.results5, go_sem, z0, z1, z2]) rfl ⟨rfl, ?_⟩
    have HB := BW.out
    repeat' (first | exact below_drewN HB _ | refine Below.setCell ?_ ?_ _ | (simp; done) | (simp; omega))
end Go.Proofs.YbulkdqeqDoor
