import Derived.Test.YbulkdqeqDoorPut
import Derived.Deep.DeepCutAuto
import Derived.Deep.CutBlock
namespace Go.Proofs.YbulkdqeqDoor
open Go.RowKit
/-- the sixteen bytes of two numbers -/
def bytes16 (hi lo : Nat) : Array Value := #[.int .u8 (((hi : Nat) : Int) / 72057594037927936 % 256), .int .u8 (((hi : Nat) : Int) / 281474976710656 % 256), .int .u8 (((hi : Nat) : Int) / 1099511627776 % 256), .int .u8 (((hi : Nat) : Int) / 4294967296 % 256), .int .u8 (((hi : Nat) : Int) / 16777216 % 256), .int .u8 (((hi : Nat) : Int) / 65536 % 256), .int .u8 (((hi : Nat) : Int) / 256 % 256), .int .u8 (((hi : Nat) : Int) % 256), .int .u8 (((lo : Nat) : Int) / 72057594037927936 % 256), .int .u8 (((lo : Nat) : Int) / 281474976710656 % 256), .int .u8 (((lo : Nat) : Int) / 1099511627776 % 256), .int .u8 (((lo : Nat) : Int) / 4294967296 % 256), .int .u8 (((lo : Nat) : Int) / 16777216 % 256), .int .u8 (((lo : Nat) : Int) / 65536 % 256), .int .u8 (((lo : Nat) : Int) / 256 % 256), .int .u8 (((lo : Nat) : Int) % 256)]
theorem size23 : (Ybad.prog.info? 23).map (·.size) = some 16 := by kernel_rfl
theorem bytes16_one (hi lo : Nat) : (bytes16 hi lo).all (·.oneCell') = true := by simp [bytes16, Value.oneCell']
theorem two_new (w : World) (A B : Obj) : ((w.alloc A).alloc B).drew.heap[w.heap.size + 1]? = some B := heap_alloc2_new w A B
set_option maxRecDepth 100000 in
set_option maxHeartbeats 1000000 in
theorem as16_any (hi lo : Nat) (z : Value) (w : World) (_hz : z.oneCell' = true) :
    Calls Ybad.prog 22 #[.agg #[.int .u64 hi, .int .u64 lo, z]] w fun e w' => e = .returned (.agg (bytes16 hi lo)) ∧ Below w.heap.size w w' := by
  go_enter Ybad.func22, Ybad.ntmps22
  go_wp2
  go_region_with (go_at_call 28; refine (put64_lo (w.heap.size + 1) hi _ 23 (.int .u8 0) (.int .u8 0) (.int .u8 0) (.int .u8 0) (.int .u8 0) (.int .u8 0) (.int .u8 0) (.int .u8 0) (.int .u8 0) (.int .u8 0) (.int .u8 0) (.int .u8 0) (.int .u8 0) (.int .u8 0) (.int .u8 0) (.int .u8 0) (two_new _ _ _)).mono ?_; rintro e w1 ⟨rfl, hO⟩)
  have hbox : w1.heap[w.heap.size]? = some (.cells #[.int .u64 hi, .int .u64 lo, z] 33) := (hO.block _ (by omega)).trans (heap_alloc2_old w _ _)
  have k1 : w1.cell? ⟨w.heap.size, 1, none⟩ = some (.int .u64 lo) := by simp [World.cell?, hbox]
  have HO : Hid (Only (w.heap.size + 1) _ _ w1) := hO
  clear hO hbox
  go_wp2
  go_region_with (go_at_call 28; refine (put64_hi (w.heap.size + 1) lo w1.drew 23 (.int .u8 (((hi : Nat) : Int) / 72057594037927936 % 256)) (.int .u8 (((hi : Nat) : Int) / 281474976710656 % 256)) (.int .u8 (((hi : Nat) : Int) / 1099511627776 % 256)) (.int .u8 (((hi : Nat) : Int) / 4294967296 % 256)) (.int .u8 (((hi : Nat) : Int) / 16777216 % 256)) (.int .u8 (((hi : Nat) : Int) / 65536 % 256)) (.int .u8 (((hi : Nat) : Int) / 256 % 256)) (.int .u8 (((hi : Nat) : Int) % 256)) (.int .u8 0) (.int .u8 0) (.int .u8 0) (.int .u8 0) (.int .u8 0) (.int .u8 0) (.int .u8 0) (.int .u8 0) HO.out.here).mono ?_; rintro e w2 ⟨rfl, hO2⟩)
  have hb2 : w2.heap[w.heap.size + 1]? = some (.cells (bytes16 hi lo) 23) := hO2.here
  have HB2 : Hid (w2.heap[w.heap.size + 1]? = some (.cells (bytes16 hi lo) 23)) := hb2
  have B2 : Hid (Below w.heap.size w w2) := by
    have b0 : Below w.heap.size w _ := ((((Below.refl w.heap.size w).alloc (Nat.le_refl _) (.cells #[.int .u64 hi, .int .u64 lo, z] 33)).alloc (by simp) (.cells #[.int .u8 0, .int .u8 0, .int .u8 0, .int .u8 0, .int .u8 0, .int .u8 0, .int .u8 0, .int .u8 0, .int .u8 0, .int .u8 0, .int .u8 0, .int .u8 0, .int .u8 0, .int .u8 0, .int .u8 0, .int .u8 0] 23))).drew
    exact ((b0.trans (HO.out.below (by omega))).drew).trans (hO2.below (by omega))
  clear hO2 hb2 HO k1
  have one := bytes16_one hi lo
  have ON : Hid ((bytes16 hi lo).all (·.oneCell') = true) := one
  have SZ : Hid ((Ybad.prog.info? 23).map (·.size) = some (bytes16 hi lo).size) := size23
  clear one
  generalize hX : bytes16 hi lo = X at *
  have HX : Hid (bytes16 hi lo = X) := hX
  clear hX
  go_upto_region 3 with fail
  refine wp_region_lit ?_
  refine wpList_load_row rfl 23 (.tmp 2) rfl (w.heap.size + 1) rfl 23 X (0, 0) _ HB2.out Ybad.underlying23 rfl SZ.out ?_
  refine wpList_store_row rfl 23 (.tmp 2) (.tmp 13) rfl (w.heap.size + 1) X rfl rfl 23 X HB2.out SZ.out rfl ON.out ?_
  refine wpList_nil ?_
  go_wp2
  refine bodyPost_ret (v := .agg X) (results_cell_row Ybad.results22 _ _ (w.heap.size + 1) 23 X (0, 0) _ rfl (setRow_heap w2 _ X X 23 (0, 0) HB2.out) Ybad.underlying23 rfl SZ.out) rfl ⟨by rw [HX.out], ?_⟩
  exact B2.out.trans ⟨rfl, rfl, rfl, by simp, fun k hk => setRow_other w2 _ k X (by omega)⟩
end Go.Proofs.YbulkdqeqDoor
