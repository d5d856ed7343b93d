import Derived.Test.YbulkdqecRows
import Derived.Test.YbulkdqecLaw
import Derived.ProofKit
import Derived.OpenShut
import Derived.ShutString
import Derived.SliceStrings
import Derived.SizedLaws
import Derived.Carry
namespace Go.Proofs.Ybulkdqec
open Go.ChangeShapes Go.WideShapes Go.ChangeAt Go.RowKit
open Go.ChangeMaps (open_string shut_string)
set_option maxRecDepth 100000

theorem own : ownKnob Yba.prog.godebug = none := by kernel_rfl
theorem laidOut : laidOutB Yba.prog = true := by kernel_rfl
theorem cells9 : Yba.prog.cellsOf 9 = 1 := by kernel_rfl
theorem cells23 : Yba.prog.cellsOf 23 = 6 := by kernel_rfl

theorem six_of {l : List Value} (h : l.length = 6) : ∃ a b c d e f, l = [a, b, c, d, e, f] := by
  match l, h with
  | [a, b, c, d, e, f], _ => exact ⟨a, b, c, d, e, f, rfl⟩

theorem open_six {H : Type} {enc : TypeId × Value → H} {W : World} {r : Reach} {b0 base : Nat} {sp : Nat → Bool} {held : Bool} {v : Value} {d : DataW H} {p : List MemPlace} (hv : Value.okWide Yba.prog W r b0 23 v) (h : DataW.Trod enc Yba.prog W base sp held 23 v d p) :
    ∃ i0 i1 i2 i3 i4 i5 : Int, v = .agg #[.int .i64 i0, .int .i64 i1, .int .i64 i2, .int .i64 i3, .int .i64 i4, .int .i64 i5] := by
  simp only [Value.okWide, Yba.underlying23] at hv
  obtain ⟨cs, rfl, hsz, _⟩ := hv
  obtain ⟨fuel, hf⟩ := h
  obtain ⟨xs, m, rfl, _, hlen, hn, hel⟩ := DataW.trod_array Yba.underlying23 hf
  obtain ⟨l⟩ := cs
  simp only [cells3, cells23, Value.cells, Nat.mul_one] at hel hlen
  obtain ⟨c0, c1, c2, c3, c4, c5, rfl⟩ := six_of hlen
  have key : ∀ i, i < 6 → ∃ z : Int, ([c0, c1, c2, c3, c4, c5].drop i).take 1 = [.int .i64 z] := fun i hi => by
    have h0 := hel i hi
    rw [List.getElem?_eq_getElem (by omega)] at h0
    obtain ⟨z, hz, _⟩ := DataW.trod_int Yba.underlying3 h0
    exact ⟨z, hz⟩
  obtain ⟨z0, e0⟩ := key 0 (by omega)
  obtain ⟨z1, e1⟩ := key 1 (by omega)
  obtain ⟨z2, e2⟩ := key 2 (by omega)
  obtain ⟨z3, e3⟩ := key 3 (by omega)
  obtain ⟨z4, e4⟩ := key 4 (by omega)
  obtain ⟨z5, e5⟩ := key 5 (by omega)
  simp at e0 e1 e2 e3 e4 e5
  subst e0 e1 e2 e3 e4 e5
  exact ⟨z0, z1, z2, z3, z4, z5, rfl⟩

theorem str_weight {H : Type} {P : Program} {e : TypeId} : ∀ {l : List ByteArray} {s : ByteArray}, s ∈ l → s.size ∈ DataW.weightsAll (H := H) P e (strs l)
  | [], _, h => by simp at h
  | x :: l, s, h => by
    simp only [strs, List.map_cons, DataW.weightsAll, DataW.weights, List.mem_append]
    rcases List.mem_cons.1 h with rfl | h
    · left; simp
    · right; exact str_weight h
theorem sized_strs {H : Type} {P : Program} {ts : List TypeId} {ds : List (DataW H)} (h : (DataW.weightsEach P ts ds).all (· ≤ reachBytes) = true) {j : Nat} {t e : TypeId} {l sp : List ByteArray} (ht : ts[j]? = some t) (hd : ds[j]? = some (.slice (strs l) (strs sp)))
    (hu : P.underlying t = some (.slice e)) {s : ByteArray} (hs : s ∈ l) : s.size ≤ reachBytes := by
  have := List.all_eq_true.1 h _ (DataW.weights_mem_each ht hd s.size (by simp only [DataW.weights, hu, List.mem_cons, List.mem_append]; exact Or.inr (Or.inl (str_weight hs))))
  simpa using this

theorem lifted (os : Os) (started : os.Started) (H : Type) (enc : TypeId × Value → H) :
    ReturnsInHanded {} Yba.checked os 3 .any (Rows.lawS5852CWholeSpec.pre6 enc Yba.prog Yba.f3 Rows.lawS5852CWholeRow.domain false) (Rows.lawS5852CWholeSpec.post enc Yba.prog Yba.f3 false true false false) := by
  refine returnsInHanded_of_change_sized (C := Yba.checked) own started (by kernel_rfl) Yba.func3
    (ChangeSpec.witness6 (enc := enc) (C := Yba.checked) false ⟨#[], #[.string ⟨#[]⟩, .int .i64 0, .int .i64 0, .slice none 0 0, .int .u8 0, .int .i64 0, .int .i64 0, .agg #[.int .i64 0, .int .i64 0, .int .i64 0, .int .i64 0, .int .i64 0, .int .i64 0], .int .i64 0, .int .i64 0, .agg #[.int .i64 0, .int .i64 0, .int .i64 0, .int .i64 0, .int .i64 0, .int .i64 0]], []⟩ 8 (by kernel_rfl) (by kernel_rfl) (by kernel_rfl) (by kernel_rfl)) ?_
  intro W base args ds gs before hval0 hW hcnd0 hsz0 _
  have hval : ∀ (j : Nat) t v, Yba.f3.params[j]? = some t → args[j]? = some v → Value.okWide Yba.prog W .any base t v := hval0
  have hsz : (DataW.weightsEach Yba.prog (Yba.f3.params.toList ++ Rows.lawS5852CWholeSpec.plain.varTypes Yba.prog) (ds ++ gs)).all (· ≤ reachBytes) = true := hsz0
  have hW' := hW
  obtain ⟨p, q, hA0, hV, rfl, hfz, hnd⟩ := hW
  have hA : DataW.TrodAll enc Yba.prog W 0 (fun _ => true) true Yba.f3.params.toList args.toList ds p := hA0
  rw [Yba.params3] at hA hval hsz
  obtain ⟨v0, vs0, d0, ds0, p0, q0, hargs, rfl, rfl, h0, r0⟩ := trodAll_cons hA
  obtain ⟨v1, vs1, d1, ds1, p1, q1, rfl, rfl, rfl, h1, r1⟩ := trodAll_cons r0
  obtain ⟨v2, vs2, d2, ds2, p2, q2, rfl, rfl, rfl, h2, r2⟩ := trodAll_cons r1
  obtain ⟨v3, vs3, d3, ds3, p3, q3, rfl, rfl, rfl, h3, r3⟩ := trodAll_cons r2
  obtain ⟨v4, vs4, d4, ds4, p4, q4, rfl, rfl, rfl, h4, r4⟩ := trodAll_cons r3
  obtain ⟨v5, vs5, d5, ds5, p5, q5, rfl, rfl, rfl, h5, r5⟩ := trodAll_cons r4
  obtain ⟨v6, vs6, d6, ds6, p6, q6, rfl, rfl, rfl, h6, r6⟩ := trodAll_cons r5
  obtain ⟨v7, vs7, d7, ds7, p7, q7, rfl, rfl, rfl, h7, r7⟩ := trodAll_cons r6
  obtain ⟨v8, vs8, d8, ds8, p8, q8, rfl, rfl, rfl, h8, r8⟩ := trodAll_cons r7
  obtain ⟨v9, vs9, d9, ds9, p9, q9, rfl, rfl, rfl, h9, r9⟩ := trodAll_cons r8
  obtain ⟨v10, vs10, d10, ds10, p10, q10, rfl, rfl, rfl, h10, r10⟩ := trodAll_cons r9
  obtain ⟨rfl, rfl, rfl⟩ := trodAll_nil r10
  obtain rfl : args = #[v0, v1, v2, v3, v4, v5, v6, v7, v8, v9, v10] := by cases args; simp_all
  obtain ⟨rfl, rfl⟩ := trodVars_none hV
  obtain ⟨a0, rfl, rfl, rfl, w0⟩ := open_string Yba.underlying9 (hval 0 9 v0 rfl rfl) h0
  obtain ⟨a1, rfl, rfl, rfl, w1⟩ := open_int Yba.underlying3 (hval 1 3 v1 rfl rfl) h1
  obtain ⟨a2, rfl, rfl, rfl, w2⟩ := open_int Yba.underlying3 (hval 2 3 v2 rfl rfl) h2
  obtain ⟨a4, rfl, rfl, rfl, w4⟩ := open_int Yba.underlying5 (hval 4 5 v4 rfl rfl) h4
  obtain ⟨a5, rfl, rfl, rfl, w5⟩ := open_int Yba.underlying3 (hval 5 3 v5 rfl rfl) h5
  obtain ⟨a6, rfl, rfl, rfl, w6⟩ := open_int Yba.underlying3 (hval 6 3 v6 rfl rfl) h6
  obtain ⟨a8, rfl, rfl, rfl, w8⟩ := open_int Yba.underlying3 (hval 8 3 v8 rfl rfl) h8
  obtain ⟨a9, rfl, rfl, rfl, w9⟩ := open_int Yba.underlying3 (hval 9 3 v9 rfl rfl) h9
  obtain ⟨i0, i1, i2, i3, i4, i5, rfl⟩ := open_six (hval 7 23 v7 rfl rfl) h7
  obtain ⟨o0, o1, o2, o3, o4, o5, rfl⟩ := open_six (hval 10 23 v10 rfl rfl) h10
  obtain ⟨ad, len, cap, rfl⟩ := okWide_slice Yba.underlying22 (hval 3 22 v3 rfl rfl)
  have lt3 : ∀ x ∈ p3, x.block < W.heap.size := by obtain ⟨m, hm⟩ := h3; exact DataW.trod_lt m _ _ _ hm
  have lt7 : ∀ x ∈ p7, x.block < W.heap.size := by obtain ⟨m, hm⟩ := h7; exact DataW.trod_lt m _ _ _ hm
  have lt10 : ∀ x ∈ p10, x.block < W.heap.size := by obtain ⟨m, hm⟩ := h10; exact DataW.trod_lt m _ _ _ hm
  obtain ⟨b, o, ss, hlen, hbb, hadr, hcell, hss⟩ : ∃ (b o : Nat) (ss : List ByteArray), len ≤ maxLen ∧ (0 < len → b < W.heap.size) ∧ (0 < len → ad = some ⟨b, o, none⟩) ∧ (∀ i, i < len → W.cell? ⟨b, o + i, none⟩ = some (.string (ss.getD i ByteArray.empty))) ∧
      (∀ i, i < len → (ss.getD i ByteArray.empty).size ≤ 140737488355328) := by
    obtain ⟨fuel, hf⟩ := h3
    rcases open_strings Yba.underlying22 Yba.underlying9 cells9 hf with ⟨hcs, _⟩ | ⟨x, l, c, ss, hcs, _, hl, hm, hz, hx, hcell, hws⟩
    · simp [Value.cells] at hcs
      obtain ⟨rfl, rfl, rfl⟩ := hcs
      exact ⟨0, 0, [], by simp [maxLen], fun h => absurd h (by omega), fun h => absurd h (by omega), fun i hi => absurd hi (by omega), fun i hi => absurd hi (by omega)⟩
    · simp [Value.cells] at hcs
      obtain ⟨rfl, rfl, rfl⟩ := hcs
      simp only [if_true] at hz
      simp only [Prod.mk.injEq] at hx
      have hsl : ∀ i, i < len → (ss.getD i ByteArray.empty).size ≤ 140737488355328 := fun i hi => by
        have hd : ([DataW.lit (.string a0.data.toList), DataW.lit (.int .i64 a1), DataW.lit (.int .i64 a2), d3, DataW.lit (.int .u8 a4), DataW.lit (.int .i64 a5), DataW.lit (.int .i64 a6), d7, DataW.lit (.int .i64 a8), DataW.lit (.int .i64 a9), d10] ++ ([] : List (DataW H)))[3]? = some (.slice (strs (ss.take len)) (strs (ss.drop len))) := by
          rw [hx.1]; rfl
        have hi2 : i < ss.length := by omega
        have hmem : ss.getD i ByteArray.empty ∈ ss.take len := by
          rw [List.getD_eq_getElem?_getD, List.getElem?_eq_getElem hi2]
          show ss[i] ∈ ss.take len
          rw [List.mem_take_iff_getElem]
          exact ⟨i, by omega, rfl⟩
        have := sized_strs hsz (j := 3) (t := 22) (e := 9) rfl hd Yba.underlying22 hmem
        simp only [reachBytes] at this
        omega
      by_cases h0l : 0 < len
      · obtain ⟨b, o, spot⟩ := x
        have hc0 := hcell 0 (by omega)
        have hspot : spot = none := by simpa [Addr.add] using World.cell?_spot hc0
        subst hspot
        have hbl : b < W.heap.size := by
          rcases Nat.lt_or_ge b W.heap.size with h | h
          · exact h
          · exact absurd hc0 (by simp [Addr.add, World.cell?, h])
        exact ⟨b, o, ss, by omega, fun _ => hbl, fun _ => rfl, fun i hi => by
          have e1 : (⟨b, o, none⟩ : Addr).add i = ⟨b, o + i, none⟩ := by unfold Addr.add; split <;> simp_all
          rw [← e1]; exact hcell i (by omega), hsl⟩
      · exact ⟨0, 0, ss, by omega, fun h => absurd h h0l, fun h => absurd h h0l, fun i hi => absurd hi (by omega), hsl⟩
  clear hA0 hval0
  obtain ⟨s0, s1⟩ := bounds_u8 w4
  refine (law_any a0 a1 a2 ad len cap a4 a5 a6 i0 i1 i2 i3 i4 i5 a8 a9 o0 o1 o2 o3 o4 o5 b o ss W s0 s1 hlen hbb hadr hcell hss).mono fun e W' ⟨he, bel⟩ => ?_
  subst he
  exact ⟨_, rfl, _, _, _, [], _, [], hW', trodAll_mk1 (shut_bool Yba.underlying4 _),
    (trodAll_cons_mk (shut_string Yba.underlying9 w0) (trodAll_cons_mk (shut_int Yba.underlying3 w1) (trodAll_cons_mk (shut_int Yba.underlying3 w2)
      (trodAll_cons_mk (Below.trod laidOut (by kernel_rfl) (of_decide_eq_true (by kernel_rfl)) h3 bel lt3) (trodAll_cons_mk (shut_int Yba.underlying5 w4) (trodAll_cons_mk (shut_int Yba.underlying3 w5) (trodAll_cons_mk (shut_int Yba.underlying3 w6)
      (trodAll_cons_mk (Below.trod laidOut (by kernel_rfl) (of_decide_eq_true (by kernel_rfl)) h7 bel lt7) (trodAll_cons_mk (shut_int Yba.underlying3 w8) (trodAll_cons_mk (shut_int Yba.underlying3 w9)
      (trodAll_cons_mk (Below.trod laidOut (by kernel_rfl) (of_decide_eq_true (by kernel_rfl)) h10 bel lt10) trodAll_mk0))))))))))),
    rfl, bel.frame _, fun h => by cases h⟩

theorem proved : Rows.LawS5852CWholeSaid :=
  OpenClaim.holds_of_wide 3 Yba.f3 rfl rfl rfl rfl rfl rfl rfl ⟨rfl, rfl, rfl, rfl, rfl⟩ rfl rfl rfl rfl rfl (by kernel_rfl) Yba.func3 (by kernel_rfl)
    (of_decide_eq_true (by kernel_rfl)) (by unfold Func.isWrapper; first | (rw [if_pos (by decide +kernel)]; kernel_rfl) | (rw [if_neg (by decide +kernel)]; exact ⟨rfl, rfl⟩))
    (fun os started H enc _ => lifted os started H enc)
end Go.Proofs.Ybulkdqec
