import Derived.Test.YbulkdqeqDoorIP
namespace Go.Proofs.YbulkdqeqDoor
open Go.RowKit
/-- how many times a number can be divided by ten before it falls below ten -/
def dg (n : Nat) : Nat := if n < 10 then 0 else dg (n / 10) + 1
theorem dg_lo {n : Nat} (h : n < 10) : dg n = 0 := by rw [dg]; simp [h]
theorem dg_hi {n : Nat} (h : ¬ n < 10) : dg n = dg (n / 10) + 1 := by rw [dg]; simp [h]
theorem dg_le (n : Nat) : dg n ≤ n := by
  induction n using Nat.strongRecOn with
  | ind n ih =>
    by_cases h : n < 10
    · rw [dg_lo h]; omega
    · rw [dg_hi h]
      have := ih (n / 10) (by omega)
      omega
theorem ret_int {k : IntKind} {a b : Int} (h : a = b) : Ending.returned (.int k a) = .returned (.int k b) := by rw [h]
set_option maxRecDepth 100000 in
set_option maxHeartbeats 400000 in
theorem slen_any (n : Nat) (w : World) (hn : n ≤ 1048576) :
    Calls Ybad.prog 15 #[.int .i64 n] w fun e w' => e = .returned (.int .i64 ((dg n + 2 + n : Nat) : Int)) ∧ w' = w := by
  have hdg := dg_le n
  go_enter Ybad.func15, Ybad.ntmps15
  go_wp2
  go_loop [3, 4] (fun d m => ∃ j k : Nat, j ≤ n ∧ k + dg j = dg n ∧ d = .int .i64 ((k + 1 : Nat) : Int) ∧ m = .int .i64 (j : Nat)) (fun _ m => (intOf m).toNat)
  case atStart => exact ⟨n, 0, Nat.le_refl _, by simp, rfl, rfl⟩
  case round =>
    obtain ⟨j, k, hj, hjk, rfl, rfl⟩ := hrel
    by_cases h : j < 10
    · have e := dg_lo h
      have hk : k = dg n := by omega
      subst hk
      have h' : ¬ (10 : Int) ≤ (j : Int) := by omega
      clear e hjk
      generalize hD : dg n = D at *
      go_wp2
      go_ret
      exact ⟨ret_int (by omega), rfl⟩
    · have e := dg_hi h
      have hk : k ≤ dg n := by omega
      have HJ : Hid (k + 1 + dg (j / 10) = dg n) := by show _ = _; omega
      have h' : (10 : Int) ≤ (j : Int) := by omega
      clear e hjk
      generalize dg n = D at *
      go_wp2
      go_round
      case rel => exact ⟨j / 10, k + 1, by omega, HJ.out, by congr 1, by congr 1⟩
      case measure => simp [intOf]; omega
set_option maxRecDepth 100000 in
set_option maxHeartbeats 400000 in
theorem elen_any (s : ByteArray) (w : World) (hs : s.size ≤ 1048576) :
    Calls Ybad.prog 11 #[.string s] w fun e w' => e = .returned (.int .i64 ((dg s.size + 12 + s.size : Nat) : Int)) ∧ w' = w := by
  have hdg := dg_le s.size
  have h1 : Calls Ybad.prog 15 #[.int .i64 1] w fun e w' => e = .returned (.int .i64 3) ∧ w' = w := by
    have h := slen_any 1 w (by omega)
    rw [dg_lo (by omega : 1 < 10)] at h
    exact h
  have H1 : Hid (Calls Ybad.prog 15 #[.int .i64 1] w fun e w' => e = .returned (.int .i64 3) ∧ w' = w) := h1
  have H2 : Hid (Calls Ybad.prog 15 #[.int .i64 s.size] w fun e w' => e = .returned (.int .i64 ((dg s.size + 2 + s.size : Nat) : Int)) ∧ w' = w) := slen_any s.size w hs
  clear h1
  generalize dg s.size = D at *
  go_enter Ybad.func11, Ybad.ntmps11
  go_wp2_with fail
  refine H1.out.mono ?_
  rintro e w1 ⟨rfl, hw⟩
  rw [hw]
  clear hw w1
  go_wp2_with fail
  refine H2.out.mono ?_
  rintro e w1 ⟨rfl, hw⟩
  rw [hw]
  clear hw w1
  go_wp2_with fail
  refine H1.out.mono ?_
  rintro e w1 ⟨rfl, hw⟩
  rw [hw]
  clear hw w1
  go_wp2
  go_ret
  exact ⟨ret_int (by omega), rfl⟩
end Go.Proofs.YbulkdqeqDoor
