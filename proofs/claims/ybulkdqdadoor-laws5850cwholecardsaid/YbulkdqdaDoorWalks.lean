import Derived.Test.YbulkdqdaDoorProg
import Derived.WalkKit
import Derived.WalkSpells
import Derived.WalkLawsBesides
import Derived.Outline
import Derived.Below
namespace Go.Proofs.YbulkdqdaDoor

/-! ### the words, as plain functions -/
def charW (c : Int) : ByteArray := if c = 0 then { data := #[116, 114, 105, 109, 45, 98, 108, 97, 110, 107, 115] } else if c = 1 then { data := #[114, 101, 102, 117, 115, 101] } else if c = 2 then { data := #[99, 117, 116] } else { data := #[] }
def digitW (c : Int) : ByteArray := if c = 0 then { data := #[114, 111, 117, 110, 100] } else if c = 1 then { data := #[116, 114, 117, 110, 99, 97, 116, 101] } else { data := #[] }
def dateW (c : Int) : ByteArray := if c = 0 then { data := #[114, 101, 102, 117, 115, 101] } else if c = 1 then { data := #[99, 97, 115, 116] } else { data := #[] }
def dialW (c : Int) : ByteArray := if c = 0 then { data := #[115, 116, 97, 110, 100, 97, 114, 100] } else if c = 1 then { data := #[112, 111, 115, 116, 103, 114, 101, 115, 113, 108] } else { data := #[] }

set_option maxHeartbeats 400000 in
theorem char_any (c : Int) (w : World) : Calls Ybad.prog 7 #[.int .i64 c] w fun e w' => e = .returned (.string (charW c)) ∧ w' = w := by
  by_cases h0 : c = 0
  · subst h0
    go_enter Ybad.func7, Ybad.ntmps7
    go_wp2
    go_ret
    exact ⟨rfl, rfl⟩
  · by_cases h1 : c = 1
    · subst h1
      go_enter Ybad.func7, Ybad.ntmps7
      go_wp2
      go_ret
      exact ⟨rfl, rfl⟩
    · by_cases h2 : c = 2
      · subst h2
        go_enter Ybad.func7, Ybad.ntmps7
        go_wp2
        go_ret
        exact ⟨rfl, rfl⟩
      · have b0 : (c == 0) = false := by simpa using h0
        have b1 : (c == 1) = false := by simpa using h1
        have b2 : (c == 2) = false := by simpa using h2
        have e : charW c = { data := #[] } := by unfold charW; rw [if_neg h0, if_neg h1, if_neg h2]
        rw [e]; clear e
        go_enter Ybad.func7, Ybad.ntmps7
        go_wp2
        go_ret
        exact ⟨rfl, rfl⟩

set_option maxHeartbeats 400000 in
theorem digit_any (c : Int) (w : World) : Calls Ybad.prog 8 #[.int .i64 c] w fun e w' => e = .returned (.string (digitW c)) ∧ w' = w := by
  by_cases h0 : c = 0
  · subst h0
    go_enter Ybad.func8, Ybad.ntmps8
    go_wp2
    go_ret
    exact ⟨rfl, rfl⟩
  · by_cases h1 : c = 1
    · subst h1
      go_enter Ybad.func8, Ybad.ntmps8
      go_wp2
      go_ret
      exact ⟨rfl, rfl⟩
    · have b0 : (c == 0) = false := by simpa using h0
      have b1 : (c == 1) = false := by simpa using h1
      have e : digitW c = { data := #[] } := by unfold digitW; rw [if_neg h0, if_neg h1]
      rw [e]; clear e
      go_enter Ybad.func8, Ybad.ntmps8
      go_wp2
      go_ret
      exact ⟨rfl, rfl⟩

set_option maxHeartbeats 400000 in
theorem date_any (c : Int) (w : World) : Calls Ybad.prog 9 #[.int .i64 c] w fun e w' => e = .returned (.string (dateW c)) ∧ w' = w := by
  by_cases h0 : c = 0
  · subst h0
    go_enter Ybad.func9, Ybad.ntmps9
    go_wp2
    go_ret
    exact ⟨rfl, rfl⟩
  · by_cases h1 : c = 1
    · subst h1
      go_enter Ybad.func9, Ybad.ntmps9
      go_wp2
      go_ret
      exact ⟨rfl, rfl⟩
    · have b0 : (c == 0) = false := by simpa using h0
      have b1 : (c == 1) = false := by simpa using h1
      have e : dateW c = { data := #[] } := by unfold dateW; rw [if_neg h0, if_neg h1]
      rw [e]; clear e
      go_enter Ybad.func9, Ybad.ntmps9
      go_wp2
      go_ret
      exact ⟨rfl, rfl⟩

set_option maxHeartbeats 400000 in
theorem dial_any (c : Int) (w : World) : Calls Ybad.prog 10 #[.int .i64 c] w fun e w' => e = .returned (.string (dialW c)) ∧ w' = w := by
  by_cases h0 : c = 0
  · subst h0
    go_enter Ybad.func10, Ybad.ntmps10
    go_wp2
    go_ret
    exact ⟨rfl, rfl⟩
  · by_cases h1 : c = 1
    · subst h1
      go_enter Ybad.func10, Ybad.ntmps10
      go_wp2
      go_ret
      exact ⟨rfl, rfl⟩
    · have b0 : (c == 0) = false := by simpa using h0
      have b1 : (c == 1) = false := by simpa using h1
      have e : dialW c = { data := #[] } := by unfold dialW; rw [if_neg h0, if_neg h1]
      rw [e]; clear e
      go_enter Ybad.func10, Ybad.ntmps10
      go_wp2
      go_ret
      exact ⟨rfl, rfl⟩
end Go.Proofs.YbulkdqdaDoor
