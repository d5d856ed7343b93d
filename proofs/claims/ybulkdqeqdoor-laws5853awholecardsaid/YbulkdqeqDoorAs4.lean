import Derived.Test.YbulkdqeqDoorNet2
namespace Go.Proofs.YbulkdqeqDoor
open Go.RowKit
/-- the four bytes of a number -/
def bytes4 (v : Int) : Array Value := #[.int .u8 (v / 16777216), .int .u8 (v / 65536 % 256), .int .u8 (v / 256 % 256), .int .u8 (v % 256)]
theorem size34 : (Ybad.prog.info? 34).map (·.size) = some 4 := by kernel_rfl
theorem bytes4_one (v : Int) : (bytes4 v).all (·.oneCell') = true := by simp [bytes4, Value.oneCell']
set_option maxRecDepth 100000 in
set_option maxHeartbeats 1000000 in
theorem as4_any (hi lo : Nat) (a4 : Addr) (w : World) (hc : Hid (w.cell? ⟨0, 0, none⟩ = some (.pointer (some a4)))) (hz : 0 < w.heap.size) (hI : Hid (Is (some a4) true a4 w)) :
    Calls Ybad.prog 21 #[.agg #[.int .u64 hi, .int .u64 lo, .pointer (some a4)]] w fun e w' => e = .returned (.agg (bytes4 ((lo : Int) % 4294967296))) ∧ Below w.heap.size w w' := by
  have hb := ((Below.refl w.heap.size w).alloc (Nat.le_refl _) (.cells #[.int .u64 hi, .int .u64 lo, .pointer (some a4)] 33)).alloc (by simp) (.cells #[.int .u8 0, .int .u8 0, .int .u8 0, .int .u8 0] 34)
  have hr := hI.out _ hb
  have hc' := (hb.cell (p := ⟨0, 0, none⟩) hz).trans hc.out
  have HB : Hid (Below w.heap.size w ((w.alloc (.cells #[.int .u64 hi, .int .u64 lo, .pointer (some a4)] 33)).alloc (.cells #[.int .u8 0, .int .u8 0, .int .u8 0, .int .u8 0] 34))) := hb
  clear hb
  go_enter Ybad.func21, Ybad.ntmps21
  go_wp2
  go_region_with (go_at_call 27; refine (put32_any (w.heap.size + 1) ((lo : Int) % 4294967296) (by omega) (by omega) _ 34 (.int .u8 0) (.int .u8 0) (.int .u8 0) (.int .u8 0) (two_new _ _ _)).mono ?_; rintro e w2 ⟨rfl, hO2⟩)
  have HB2 : Hid (w2.heap[w.heap.size + 1]? = some (.cells (bytes4 ((lo : Int) % 4294967296)) 34)) := hO2.here
  have B2 : Hid (Below w.heap.size w w2) := HB.out.drew.trans (hO2.below (by omega))
  clear hO2 hr hc' HB
  have ON : Hid ((bytes4 ((lo : Int) % 4294967296)).all (·.oneCell') = true) := bytes4_one _
  have SZ : Hid ((Ybad.prog.info? 34).map (·.size) = some (bytes4 ((lo : Int) % 4294967296)).size) := size34
  generalize hX : bytes4 ((lo : Int) % 4294967296) = X at *
  have HX : Hid (bytes4 ((lo : Int) % 4294967296) = X) := hX
  clear hX
  go_upto_region 3 with fail
  refine wp_region_lit ?_
  refine wpList_load_row rfl 34 (.tmp 2) rfl (w.heap.size + 1) rfl 34 X (0, 0) _ HB2.out Ybad.underlying34 rfl SZ.out ?_
  refine wpList_store_row rfl 34 (.tmp 2) (.tmp 17) rfl (w.heap.size + 1) X rfl rfl 34 X HB2.out SZ.out rfl ON.out ?_
  refine wpList_nil ?_
  go_wp2
  refine bodyPost_ret (v := .agg X) (results_cell_row Ybad.results21 _ _ (w.heap.size + 1) 34 X (0, 0) _ rfl (setRow_heap w2 _ X X 34 (0, 0) HB2.out) Ybad.underlying34 rfl SZ.out) rfl ⟨by rw [HX.out], ?_⟩
  exact B2.out.trans ⟨rfl, rfl, rfl, by simp, fun k hk => setRow_other w2 _ k X (by omega)⟩
end Go.Proofs.YbulkdqeqDoor
