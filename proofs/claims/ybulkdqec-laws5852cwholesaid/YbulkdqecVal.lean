import Derived.Test.YbulkdqecPlain
import Derived.Test.YbulkdqecSkip
namespace Go.Proofs.Ybulkdqec
open Go.RowKit
theorem ret_int {k : IntKind} {a b : Int} (h : a = b) : Ending.returned (.int k a) = .returned (.int k b) := by rw [h]
/-- every byte is an ASCII digit -/
def Digits (s : ByteArray) : Prop := ∀ i (h : i < s.size), 48 ≤ s[i].toNat ∧ s[i].toNat ≤ 57

set_option maxRecDepth 100000 in
set_option maxHeartbeats 1000000 in
theorem val_any (s : ByteArray) (w : World) (hs : s.size ≤ 1048576) (hd : Hid (Digits s)) :
    Calls Yba.prog 4 #[.string s] w fun e w' => e = .returned (.int .i64 (val s.data.toList)) ∧ w' = w := by
  go_enter Yba.func4, Yba.ntmps4
  go_wp2
  go_loop [3, 4, 5] (fun v p j => ∃ k : Nat, k ≤ s.size ∧ j = .int .i64 ((k : Int) - 1) ∧ v = .int .i64 (val (s.data.toList.drop k)) ∧ p = .int .i64 (pow (s.size - k))) (fun _ _ j => ((intOf j) + 1).toNat)
  case atStart =>
    refine ⟨s.size, Nat.le_refl _, rfl, ?_, ?_⟩
    · rw [List.drop_of_length_le (by simp), val_nil]
    · rw [Nat.sub_self, pow_zero]
  case round =>
    obtain ⟨k, hk, rfl, rfl, rfl⟩ := hrel
    by_cases hlt : 0 < k
    · obtain ⟨j, rfl⟩ : ∃ j, k = j + 1 := ⟨k - 1, by omega⟩
      have hj : j < s.size := by omega
      obtain ⟨d1, d2⟩ := hd.out j hj
      have e1 : ((j + 1 : Nat) : Int) - 1 = (j : Int) := by omega
      rw [e1]; clear e1
      have hv := val_cons (s.data.toList.drop (j + 1)) s[j]
      rw [← drop_cons s j hj] at hv
      have hp := pow_succ (s.size - (j + 1))
      have hl : (s.data.toList.drop (j + 1)).length = s.size - (j + 1) := by simp
      have hj1 : s.size - (j + 1) + 1 = s.size - j := by omega
      rw [hl] at hv
      rw [hj1] at hp
      unfold dig at hv
      have HV : Hid (wrap64 (val (s.data.toList.drop (j + 1)) + wrap64 ((↑s[j].toNat - 48) * pow (s.size - (j + 1)))) = val (s.data.toList.drop j)) := hv
      have HP : Hid (wrap64 (pow (s.size - (j + 1)) * 10) = pow (s.size - j)) := hp
      clear hv hp hl hj1
      generalize val (s.data.toList.drop (j + 1)) = V at *
      generalize pow (s.size - (j + 1)) = PP at *
      go_wp2
      go_round
      case rel => exact ⟨j, by omega, rfl, by rw [HV.out], by rw [HP.out]⟩
      case measure => simp [intOf]
    · obtain rfl : k = 0 := by omega
      go_wp2
      go_ret
      exact ⟨rfl, rfl⟩
end Go.Proofs.Ybulkdqec
