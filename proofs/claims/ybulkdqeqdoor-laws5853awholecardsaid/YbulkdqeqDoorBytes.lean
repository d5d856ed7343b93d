import Derived.Test.YbulkdqeqDoorFrom
import Derived.Laws.BytesArg
namespace Go.Proofs.YbulkdqeqDoor
open Go.RowKit
/-- a slice, nil or not, that holds ds -/
structure Bytes (ad : Option Addr) (n cap : Nat) (ds : List UInt8) (w : World) : Prop where
  len : n = ds.length
  nil : ad = none → n = 0
  cell : ∀ a, ad = some a → ∀ i (hi : i < ds.length), w.cell? (a.add i) = some (bv ds[i])
  le : n ≤ cap
theorem Bytes.str {ad : Option Addr} {n cap : Nat} {ds : List UInt8} {w : World} (h : Bytes ad n cap ds w) : (convert 22 9 (.slice ad n cap)).run Ybad.prog w = .ok (.string ⟨ds.toArray⟩) w := by
  cases ad with
  | none =>
    have h0 := h.nil rfl
    have e : ds = [] := List.length_eq_zero_iff.1 (by rw [← h.len]; exact h0)
    subst e
    exact run_convert_bytes_nil w 22 5 Ybad.underlying22 Ybad.underlying5 n cap 9 Ybad.underlying9
  | some a =>
    rw [h.len]
    exact run_convert_bytes_back w 22 9 5 a cap ds Ybad.underlying22 Ybad.underlying5 Ybad.underlying9 (fun j hj => h.cell a rfl j hj)
theorem Bytes.src {ad : Option Addr} {n cap : Nat} {ds : List UInt8} {w : World} (h : Bytes ad n cap ds w) : SrcB 22 (.slice ad n cap) ds w := by
  cases ad with
  | none =>
    have h0 := h.nil rfl
    have e : ds = [] := List.length_eq_zero_iff.1 (by rw [← h.len]; exact h0)
    subst e
    rw [h0]
    exact SrcB.none w cap
  | some a =>
    rw [h.len]
    refine Src.ofSlice w Ybad.underlying22 a ds.length cap (bvs ds) (by rw [bvs_length, Nat.mul_one]) (fun j u hu => ?_) (bvs_one ds)
    have hj : j < ds.length := by
      have := (List.getElem?_eq_some_iff.1 hu).1
      rwa [bvs_length] at this
    rw [h.cell a rfl j hj]
    simp [bvs, hj] at hu
    rw [hu]
theorem Bytes.ofBuf {g n cap : Nat} {ds : List UInt8} {w : World} (hn : n = ds.length) (h : Buf w g cap ds) : Bytes (some ⟨g, 0, none⟩) n cap ds w := by
  refine ⟨hn, (fun h => by cases h), fun a ha i hi => ?_, by rw [hn]; exact h.le⟩
  cases ha
  have e : (⟨g, 0, none⟩ : Addr).add i = ⟨g, i, none⟩ := by unfold Addr.add; split <;> simp_all
  rw [e]
  exact h.cell hi
/-- the slice lies in blocks below M -/
theorem Bytes.keep {ad : Option Addr} {n cap : Nat} {ds : List UInt8} {w w' : World} (h : Bytes ad n cap ds w) (hk : ∀ a, ad = some a → 0 < n → w'.heap[a.block]? = w.heap[a.block]?) : Bytes ad n cap ds w' :=
  ⟨h.len, h.nil, fun a ha i hi => by
    have e : (a.add i).block = a.block := by unfold Addr.add; split <;> rfl
    rw [← h.cell a ha i hi]
    exact World.cell?_of_block (by rw [e]; exact hk a ha (by rw [h.len]; omega)), h.le⟩
theorem Bytes.lt {ad : Option Addr} {n cap : Nat} {ds : List UInt8} {w : World} (h : Bytes ad n cap ds w) {a : Addr} (ha : ad = some a) (h0 : 0 < n) : a.block < w.heap.size := by
  have hc := h.cell a ha 0 (by rw [← h.len]; exact h0)
  have e : (a.add 0).block = a.block := by unfold Addr.add; split <;> rfl
  rcases Nat.lt_or_ge a.block w.heap.size with hlt | hge
  · exact hlt
  · have : w.cell? (a.add 0) = none := by simp [World.cell?, e, Array.getElem?_eq_none hge]
    rw [this] at hc; cases hc
theorem Bytes.below {ad : Option Addr} {n cap : Nat} {ds : List UInt8} {w w' : World} (h : Bytes ad n cap ds w) (hb : Below w.heap.size w w') : Bytes ad n cap ds w' :=
  h.keep fun a ha h0 => hb.block a.block (h.lt ha h0)
set_option maxRecDepth 100000 in
set_option maxHeartbeats 400000 in
theorem equal_any (a1 a2 : Option Addr) (n1 n2 c1 c2 : Nat) (ds : List UInt8) (w : World) (h1 : Bytes a1 n1 c1 ds w) (h2 : Bytes a2 n2 c2 ds w) :
    Calls Ybad.prog 9 #[.slice a1 n1 c1, .slice a2 n2 c2] w fun e w' => e = .returned (.bool true) ∧ w' = w := by
  have s1 := h1.str
  have s2 := h2.str
  clear h1 h2
  go_enter Ybad.func9, Ybad.ntmps9
  go_wp2
  go_ret
  exact ⟨by simp, rfl⟩
set_option maxRecDepth 100000 in
set_option maxHeartbeats 400000 in
theorem clone_any (ad : Option Addr) (n cap : Nat) (ds : List UInt8) (w : World) (h : Hid (Bytes ad n cap ds w)) (hb : Hid (ds.length ≤ 1048576)) :
    Calls Ybad.prog 7 #[.slice ad n cap] w fun e w' => ∃ ad' cap', e = .returned (.slice ad' n cap') ∧ Hid (Bytes ad' n cap' ds w') ∧ Below w.heap.size w w' := by
  cases ad with
  | none =>
    have h0 := h.out.nil rfl
    subst h0
    have q : (binOp .eql 22 (.slice none 0 cap) (.slice none 0 0)).run Ybad.prog w = .ok (.bool true) w := Lib.run_eql_slice_nil w 22 5 _ _ _ _ _ Ybad.underlying22
    go_enter Ybad.func7, Ybad.ntmps7
    go_wp2
    go_ret
    exact ⟨none, 0, rfl, ⟨h.out.len, h.out.nil, (fun a ha => by cases ha), Nat.le_refl _⟩, Below.refl _ _⟩
  | some a =>
    have HB : Hid (Buf (w.alloc (.cells #[] 5)) w.heap.size 0 []) := ⟨⟨#[], heap_alloc_new w _, rfl, rfl⟩, Nat.le_refl _, Nat.zero_le _⟩
    have HS : Hid (SrcB 22 (.slice (some a) n cap) ds (w.alloc (.cells #[] 5))) := (h.out.below ((Below.refl _ _).alloc (Nat.le_refl _) _)).src
    have q : (binOp .eql 22 (.slice (some a) n cap) (.slice none 0 0)).run Ybad.prog w = .ok (.bool false) w := Lib.run_eql_slice_nil w 22 5 _ _ _ _ _ Ybad.underlying22
    go_enter Ybad.func7, Ybad.ntmps7
    go_wp2_with (at_builtin; refine wpList_ap rfl (.tmp 5) (.tmp 6) 22 rfl w.heap.size 0 [] ds 0 rfl rfl HB.out HS.out (by have := hb.out; simp; omega) ?_; intro g1 n1 c1 w1 hn1 hB1 hS1)
    go_ret
    refine ⟨some ⟨g1, 0, none⟩, c1, ?_, ?_, ?_⟩
    · rw [hn1.out, h.out.len]; rfl
    · exact Bytes.ofBuf h.out.len hB1.out
    · exact ((Below.refl _ _).alloc (Nat.le_refl _) _).trans ⟨hS1.out.os, hS1.out.tape, hS1.out.output, hS1.out.size, fun k hk => hS1.out.block k (by simp; omega) (by omega)⟩
end Go.Proofs.YbulkdqeqDoor
