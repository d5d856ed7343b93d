import Derived.Test.YbulkdqeqDoorResp
namespace Go.Proofs.YbulkdqeqDoor
open Go.RowKit
theorem bv_ofNat {b : Nat} (h : b < 256) : bv (UInt8.ofNat b) = .int .u8 b := by
  unfold bv
  rw [UInt8.toNat_ofNat_of_lt' (by exact h)]
theorem row4 {b0 b1 b2 b3 lo : Nat} (h0 : b0 < 256) (h1 : b1 < 256) (h2 : b2 < 256) (h3 : b3 < 256) (hlo : lo = 281470681743360 + b0 * 16777216 + b1 * 65536 + b2 * 256 + b3) : (row true 0 lo).toList = bvs [UInt8.ofNat b0, UInt8.ofNat b1, UInt8.ofNat b2, UInt8.ofNat b3] := by
  have e0 : ((lo : Int) % 4294967296) / 16777216 = b0 := by omega
  have e1 : ((lo : Int) % 4294967296) / 65536 % 256 = b1 := by omega
  have e2 : ((lo : Int) % 4294967296) / 256 % 256 = b2 := by omega
  have e3 : ((lo : Int) % 4294967296) % 256 = b3 := by omega
  simp only [row, if_true, bytes4, bvs, List.map_cons, List.map_nil, bv_ofNat h0, bv_ofNat h1, bv_ofNat h2, bv_ofNat h3, e0, e1, e2, e3]
theorem by8 {b0 b1 b2 b3 b4 b5 b6 b7 hi : Nat} (h0 : b0 < 256) (h1 : b1 < 256) (h2 : b2 < 256) (h3 : b3 < 256) (h4 : b4 < 256) (h5 : b5 < 256) (h6 : b6 < 256) (h7 : b7 < 256) (hhi : hi = b0 * 72057594037927936 + b1 * 281474976710656 + b2 * 1099511627776 + b3 * 4294967296 + b4 * 16777216 + b5 * 65536 + b6 * 256 + b7) :
    (hi : Int) / 72057594037927936 % 256 = b0 ∧ (hi : Int) / 281474976710656 % 256 = b1 ∧ (hi : Int) / 1099511627776 % 256 = b2 ∧ (hi : Int) / 4294967296 % 256 = b3 ∧ (hi : Int) / 16777216 % 256 = b4 ∧ (hi : Int) / 65536 % 256 = b5 ∧ (hi : Int) / 256 % 256 = b6 ∧ (hi : Int) % 256 = b7 := by
  refine ⟨?_, ?_, ?_, ?_, ?_, ?_, ?_, ?_⟩ <;> omega
theorem row16 {b0 b1 b2 b3 b4 b5 b6 b7 b8 b9 b10 b11 b12 b13 b14 b15 hi lo : Nat} (h0 : b0 < 256) (h1 : b1 < 256) (h2 : b2 < 256) (h3 : b3 < 256) (h4 : b4 < 256) (h5 : b5 < 256) (h6 : b6 < 256) (h7 : b7 < 256) (h8 : b8 < 256) (h9 : b9 < 256) (h10 : b10 < 256) (h11 : b11 < 256) (h12 : b12 < 256) (h13 : b13 < 256) (h14 : b14 < 256) (h15 : b15 < 256) (hhi : hi = b0 * 72057594037927936 + b1 * 281474976710656 + b2 * 1099511627776 + b3 * 4294967296 + b4 * 16777216 + b5 * 65536 + b6 * 256 + b7) (hlo : lo = b8 * 72057594037927936 + b9 * 281474976710656 + b10 * 1099511627776 + b11 * 4294967296 + b12 * 16777216 + b13 * 65536 + b14 * 256 + b15) : (row false hi lo).toList = bvs [UInt8.ofNat b0, UInt8.ofNat b1, UInt8.ofNat b2, UInt8.ofNat b3, UInt8.ofNat b4, UInt8.ofNat b5, UInt8.ofNat b6, UInt8.ofNat b7, UInt8.ofNat b8, UInt8.ofNat b9, UInt8.ofNat b10, UInt8.ofNat b11, UInt8.ofNat b12, UInt8.ofNat b13, UInt8.ofNat b14, UInt8.ofNat b15] := by
  obtain ⟨e0, e1, e2, e3, e4, e5, e6, e7⟩ := by8 h0 h1 h2 h3 h4 h5 h6 h7 hhi
  obtain ⟨f0, f1, f2, f3, f4, f5, f6, f7⟩ := by8 h8 h9 h10 h11 h12 h13 h14 h15 hlo
  simp [row, bytes16, bvs, bv_ofNat h0, bv_ofNat h1, bv_ofNat h2, bv_ofNat h3, bv_ofNat h4, bv_ofNat h5, bv_ofNat h6, bv_ofNat h7, bv_ofNat h8, bv_ofNat h9, bv_ofNat h10, bv_ofNat h11, bv_ofNat h12, bv_ofNat h13, bv_ofNat h14, bv_ofNat h15, e0, e1, e2, e3, e4, e5, e6, e7, f0, f1, f2, f3, f4, f5, f6, f7]
theorem row0 : (row false 0 0).toList = bvs [0, 0, 0, 0, 0, 0, 0, 0, 0, 0, 0, 0, 0, 0, 0, 0] := by
  simp [row, bytes16, bvs, bv]
end Go.Proofs.YbulkdqeqDoor
