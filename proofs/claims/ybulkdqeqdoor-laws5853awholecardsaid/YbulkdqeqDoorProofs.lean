import Derived.Test.YbulkdqeqDoorRows
import Derived.Test.YbulkdqeqDoorCards
import Derived.Test.YbulkdqeqDoorTie
import Derived.Test.YbulkdqeqDoorLaw
import Derived.ProofKit
import Derived.LaidMore
import Derived.Lay
import Derived.OpenShut
import Derived.ShutString
import Derived.SevenTiedAt
import Derived.Stop.Joined
import Derived.SizedLaws
import Derived.Carry
namespace Go.Proofs.YbulkdqeqDoor
open Go.ChangeShapes Go.WideShapes Go.ChangeAt Go.RowKit
open Go.ChangeMaps (open_string shut_string)
set_option maxRecDepth 100000

theorem own : ownKnob Ybad.prog.godebug = none := by kernel_rfl
theorem laidOut : laidOutB Ybad.prog = true := by kernel_rfl
abbrev laid6 : List (String × DataW Unit) := Rows.lawS5853AWholeRow.laid
theorem cells5 : Ybad.prog.cellsOf 5 = 1 := by kernel_rfl
theorem cells23 : Ybad.prog.cellsOf 23 = 16 := by kernel_rfl
theorem cells25 : Ybad.prog.cellsOf 25 = 20 := by kernel_rfl
theorem cells29 : Ybad.prog.cellsOf 29 = 1 := by kernel_rfl
theorem cells31 : Ybad.prog.cellsOf 31 = 1 := by kernel_rfl
theorem cells97 : Ybad.prog.cellsOf 97 = 2 := by kernel_rfl
theorem gt0 : (Ybad.prog.globals[0]?).map (·.type) = some 31 := by kernel_rfl
theorem gt1 : (Ybad.prog.globals[1]?).map (·.type) = some 31 := by kernel_rfl

/-- a listed handle: its one cell points somewhere; the places of what it points to are among the places read -/
theorem handle_open {W : World} {fuel : Nat} {cs : List Value} {x : DataW Unit} {p : List MemPlace} (hd : DataW.trod (fun _ => ()) Ybad.prog W 0 (fun _ => true) false fuel 31 cs = some (.agg [.ptr x], p)) :
    ∃ a : Addr, cs = [.pointer (some a)] ∧ MemPlace.cell a.block a.off ∈ p := by
  obtain ⟨y0, n, hx, hl, hy⟩ := trod_struct1 Ybad.underlying31 hd
  rw [cells31] at hl
  simp only [Prod.mk.injEq, DataW.agg.injEq, List.cons.injEq, and_true] at hx
  obtain ⟨h1, rfl⟩ := hx
  obtain ⟨d0, q0⟩ := y0
  dsimp only at h1
  subst h1
  obtain ⟨f', a, cs', q, hcs, hcells, _, hq⟩ := ptr_of_trod Ybad.underlying29 hy
  have hcs' : cs = [.pointer (some a)] := by
    rw [cells29] at hcs
    match cs, hl with
    | [c], _ => simpa using hcs
  refine ⟨a, hcs', ?_⟩
  show _ ∈ q0
  rw [hq, cells97]
  simp [MemPlace.row]

theorem of_laid {W : World} (h : laidMetH Ybad.prog laid6 W) : ∃ a4 a6 : Addr, Z W.heap.size a4 a6 W := by
  rw [MakeChecks.laidMetH_plain _ _ _ (by kernel_rfl)] at h
  obtain ⟨ps, ⟨g0, t0, cs0, f0, p0, q0, hg0, ht0, hv0, hd0, ⟨g1, t1, cs1, f1, p1, q1, hg1, ht1, hv1, hd1, ⟨g2, t2, cs2, f2, p2, q2, hg2, ht2, hv2, hd2, ⟨g3, t3, cs3, f3, p3, q3, hg3, ht3, hv3, hd3, ⟨g4, t4, cs4, f4, p4, q4, hg4, ht4, hv4, hd4, _, rfl⟩, rfl⟩, rfl⟩, rfl⟩, rfl⟩, hnd, hfz⟩ := h
  obtain rfl := Option.some.inj ((show Ybad.prog.globalNamed _ = some 0 by kernel_rfl).symm.trans hg3)
  obtain rfl := Option.some.inj ((show Ybad.prog.globalNamed _ = some 1 by kernel_rfl).symm.trans hg4)
  obtain rfl := Option.some.inj (gt0.symm.trans ht3)
  obtain rfl := Option.some.inj (gt1.symm.trans ht4)
  obtain ⟨a4, e4, m4⟩ := handle_open hd3
  obtain ⟨a6, e6, m6⟩ := handle_open hd4
  have c4 : W.cell? ⟨0, 0, none⟩ = some (.pointer (some a4)) := by
    obtain rfl : cs3 = #[.pointer (some a4)] := by cases cs3; simp_all
    simpa using World.var?_cell hg3 hv3 0
  have c6 : W.cell? ⟨1, 0, none⟩ = some (.pointer (some a6)) := by
    obtain rfl : cs4 = #[.pointer (some a6)] := by cases cs4; simp_all
    simpa using World.var?_cell hg4 hv4 0
  have f4 := (hfz a4.block a4.off (by simp [m4])).1
  have f6 := (hfz a6.block a6.off (by simp [m6])).1
  refine ⟨a4, a6, ⟨c4, c6, ?_, f4, f6, ?_, ?_, ?_, Nat.le_refl _⟩⟩
  · intro e
    subst e
    have n0 := (List.nodup_append.1 hnd).2.1
    have n1 := (List.nodup_append.1 n0).2.1
    have n2 := (List.nodup_append.1 n1).2.1
    exact (List.nodup_append.1 n2).2.2 _ (List.mem_append_right _ m4) _ (List.mem_append_left _ (List.mem_append_right _ m6)) rfl
  · rcases Nat.lt_or_ge 1 W.heap.size with h | h
    · exact h
    · exact absurd c6 (by simp [World.cell?, h])
  · obtain ⟨c, t, h⟩ := f4
    exact (Array.getElem?_eq_some_iff.1 h).1
  · obtain ⟨c, t, h⟩ := f6
    exact (Array.getElem?_eq_some_iff.1 h).1

theorem bvs_of : ∀ (l : List Value), (∀ v ∈ l, ∃ z, v = bv z) → ∃ ids, l = bvs ids
  | [], _ => ⟨[], rfl⟩
  | v :: l, h => by
    obtain ⟨z, rfl⟩ := h v List.mem_cons_self
    obtain ⟨ids, rfl⟩ := bvs_of l fun u hu => h u (List.mem_cons_of_mem _ hu)
    exact ⟨z :: ids, rfl⟩
theorem bv_of {z : Int} (h : (Lit.int .u8 z).wf = true) : ∃ c, Value.int .u8 z = bv c := by
  obtain ⟨h0, h1⟩ := bounds_u8 h
  refine ⟨UInt8.ofNat z.toNat, ?_⟩
  rw [bv_ofNat (by omega)]
  congr 1
  omega
/-- an array of bytes -/
theorem open_row {H : Type} {enc : TypeId × Value → H} {W : World} {r : Reach} {b0 base : Nat} {sp : Nat → Bool} {held : Bool} {v : Value} {d : DataW H} {p : List MemPlace} {t n : Nat} (ht : Ybad.prog.underlying t = some (.array n 5)) (hc : Ybad.prog.cellsOf t = n)
    (hv : Value.okWide Ybad.prog W r b0 t v) (h : DataW.Trod enc Ybad.prog W base sp held t v d p) : ∃ ids : List UInt8, ids.length = n ∧ v = .agg (bvs ids).toArray := by
  simp only [Value.okWide, ht] at hv
  obtain ⟨cs, rfl, hsz, _⟩ := hv
  obtain ⟨fuel, hf⟩ := h
  obtain ⟨xs, m, rfl, _, hlen, hn, hel⟩ := DataW.trod_array ht hf
  simp only [cells5, hc, Value.cells, Nat.mul_one] at hel hlen
  obtain ⟨ids, hids⟩ := bvs_of cs.toList fun v hv => by
    obtain ⟨i, hi, rfl⟩ := List.getElem_of_mem hv
    have h0 := hel i (by omega)
    rw [List.getElem?_eq_getElem (by omega)] at h0
    obtain ⟨z, hz, _, hw⟩ := DataW.trod_int Ybad.underlying5 h0
    obtain ⟨c, hc⟩ := bv_of hw
    refine ⟨c, ?_⟩
    rw [← hc]
    have e : (cs.toList.drop i).take 1 = [cs.toList[i]] := by
      rw [List.drop_eq_getElem_cons hi]
      rfl
    rw [e] at hz
    exact List.head_eq_of_cons_eq hz
  refine ⟨ids, ?_, ?_⟩
  · rw [← hlen, hids, bvs_length]
  · rw [← hids]
theorem sixteen {l : List UInt8} (h : l.length = 16) : ∃ b0 b1 b2 b3 b4 b5 b6 b7 b8 b9 b10 b11 b12 b13 b14 b15, l = [b0, b1, b2, b3, b4, b5, b6, b7, b8, b9, b10, b11, b12, b13, b14, b15] := by
  match l, h with
  | [b0, b1, b2, b3, b4, b5, b6, b7, b8, b9, b10, b11, b12, b13, b14, b15], _ => exact ⟨_, _, _, _, _, _, _, _, _, _, _, _, _, _, _, _, rfl⟩
/-- a slice of bytes that came in -/
theorem open_bytes {H : Type} {enc : TypeId × Value → H} {W : World} {r : Reach} {b0 : Nat} {held : Bool} {v : Value} {d : DataW H} {p : List MemPlace} (hval : Value.okWide Ybad.prog W r b0 22 v) (h : DataW.Trod enc Ybad.prog W 0 (fun _ => true) held 22 v d p) :
    ∃ ad n cap ds, v = .slice ad n cap ∧ Bytes ad n cap ds W ∧ n ≤ maxLen := by
  obtain ⟨ad, n, cap, rfl⟩ := okWide_slice Ybad.underlying22 hval
  obtain ⟨fuel, hf⟩ := h
  rcases open_ints Ybad.underlying22 Ybad.underlying5 cells5 hf with ⟨hcs, hx⟩ | ⟨a, len', cap', zs, hcs, _, hl, hm, hz, hx, hcell, hwz⟩
  · simp [Value.cells] at hcs
    obtain ⟨rfl, rfl, rfl⟩ := hcs
    exact ⟨none, 0, 0, [], rfl, ⟨rfl, fun _ => rfl, (fun a ha => by cases ha), Nat.le_refl _⟩, Nat.zero_le _⟩
  · simp [Value.cells] at hcs
    obtain ⟨rfl, rfl, rfl⟩ := hcs
    simp only [if_true] at hz
    refine ⟨some a, n, cap, (zs.take n).map fun z => UInt8.ofNat z.toNat, rfl, ⟨by simp; omega, (fun h => by cases h), fun b hb i hi => ?_, hl⟩, by omega⟩
    cases hb
    simp at hi
    have hzb := bounds_u8 (hwz (zs.getD i 0) ?_)
    · rw [hcell i (by omega)]
      simp only [List.getElem_map, List.getElem_take]
      rw [bv_ofNat (by have := hzb; simp [List.getD, List.getElem?_eq_getElem (show i < zs.length by omega)] at this; omega)]
      simp [List.getD, List.getElem?_eq_getElem (show i < zs.length by omega)] at hzb ⊢
      omega
    · simp [List.getD, List.getElem?_eq_getElem (show i < zs.length by omega)]

theorem lifted (os : Os) (started : os.Started) (H : Type) (enc : TypeId × Value → H) :
    ReturnsInHanded {} Ybad.checked os 3 .any (fun w args => (Rows.lawS5853AWholeSpec.pre enc Ybad.prog Ybad.f3 [] false w args ∧ laidMetH Ybad.prog laid6 w) ∧ sizedMet enc Ybad.prog Ybad.f3 (OpenSpec.ofChange Rows.lawS5853AWholeSpec) false w args)
      (Rows.lawS5853AWholeSpec.post enc Ybad.prog Ybad.f3 false true false false) := by
  refine returnsInHanded_of_change_and (C := Ybad.checked) (X := fun w _ => laidMetH Ybad.prog laid6 w) (fun _ _ _ hh h => h.of_heap hh) own started (by kernel_rfl) Ybad.func3
    (ChangeSpec.witness_shaped (enc := enc) (C := Ybad.checked) (os := os) (X := fun w _ => laidMetH Ybad.prog laid6 w) false (World.laidAll Ybad.prog os laid6) #[.slice none 0 0, .string ⟨#[]⟩, .int .u8 0, .agg #[.int .u8 0, .int .u8 0, .int .u8 0, .int .u8 0, .int .u8 0, .int .u8 0, .int .u8 0, .int .u8 0, .int .u8 0, .int .u8 0, .int .u8 0, .int .u8 0, .int .u8 0, .int .u8 0, .int .u8 0, .int .u8 0], .int .u16 0, .agg #[.int .u8 0, .int .u8 0, .int .u8 0, .int .u8 0, .int .u8 0, .int .u8 0, .int .u8 0, .int .u8 0, .int .u8 0, .int .u8 0, .int .u8 0, .int .u8 0, .int .u8 0, .int .u8 0, .int .u8 0, .int .u8 0, .int .u8 0, .int .u8 0, .int .u8 0, .int .u8 0]] 8 (World.laidAll_os _ _ _) (World.shaped_of_ZipB (by kernel_rfl) (by kernel_rfl)) (by kernel_rfl) (by kernel_rfl) (by kernel_rfl) (by rw [MakeChecks.laidMetH_plain _ _ _ (by kernel_rfl)]; exact laidMet_laidAll _ (by kernel_rfl) (by kernel_rfl))) ?_
  intro W base args ds gs before hval0 hW _ _ hL _
  have hval : ∀ (j : Nat) t v, Ybad.f3.params[j]? = some t → args[j]? = some v → Value.okWide Ybad.prog W .any base t v := hval0
  have hW' := hW
  obtain ⟨p, q, hA0, hV, rfl, hfz, hnd⟩ := hW
  have hA : DataW.TrodAll enc Ybad.prog W 0 (fun _ => true) true Ybad.f3.params.toList args.toList ds p := hA0
  rw [Ybad.params3] at hA hval
  obtain ⟨v0, vs0, d0, ds0, p0, q0, hargs, rfl, rfl, h0, r0⟩ := trodAll_cons hA
  obtain ⟨v1, vs1, d1, ds1, p1, q1, rfl, rfl, rfl, h1, r1⟩ := trodAll_cons r0
  obtain ⟨v2, vs2, d2, ds2, p2, q2, rfl, rfl, rfl, h2, r2⟩ := trodAll_cons r1
  obtain ⟨v3, vs3, d3, ds3, p3, q3, rfl, rfl, rfl, h3, r3⟩ := trodAll_cons r2
  obtain ⟨v4, vs4, d4, ds4, p4, q4, rfl, rfl, rfl, h4, r4⟩ := trodAll_cons r3
  obtain ⟨v5, vs5, d5, ds5, p5, q5, rfl, rfl, rfl, h5, r5⟩ := trodAll_cons r4
  obtain ⟨rfl, rfl, rfl⟩ := trodAll_nil r5
  obtain rfl : args = #[v0, v1, v2, v3, v4, v5] := by cases args; simp_all
  obtain ⟨rfl, rfl⟩ := trodVars_none hV
  obtain ⟨ad, n, cap, bs, rfl, hB, _⟩ := open_bytes (hval 0 22 v0 rfl rfl) h0
  obtain ⟨a1, rfl, rfl, rfl, w1⟩ := open_string Ybad.underlying9 (hval 1 9 v1 rfl rfl) h1
  obtain ⟨a2, rfl, rfl, rfl, w2⟩ := open_int Ybad.underlying5 (hval 2 5 v2 rfl rfl) h2
  obtain ⟨ips, li, rfl⟩ := open_row Ybad.underlying23 cells23 (hval 3 23 v3 rfl rfl) h3
  obtain ⟨a4, rfl, rfl, rfl, w4⟩ := open_int Ybad.underlying24 (hval 4 24 v4 rfl rfl) h4
  obtain ⟨ids, ld, rfl⟩ := open_row Ybad.underlying25 cells25 (hval 5 25 v5 rfl rfl) h5
  have lt0 : ∀ x ∈ p0, x.block < W.heap.size := by obtain ⟨m, hm⟩ := h0; exact DataW.trod_lt m _ _ _ hm
  have lt3 : ∀ x ∈ p3, x.block < W.heap.size := by obtain ⟨m, hm⟩ := h3; exact DataW.trod_lt m _ _ _ hm
  have lt5 : ∀ x ∈ p5, x.block < W.heap.size := by obtain ⟨m, hm⟩ := h5; exact DataW.trod_lt m _ _ _ hm
  obtain ⟨z4, z6, hZ⟩ := of_laid hL
  obtain ⟨k0, k1⟩ := bounds_u8 w2
  obtain ⟨s0, s1⟩ := bounds_u16 w4
  obtain ⟨b0, b1, b2, b3, b4, b5, b6, b7, b8, b9, b10, b11, b12, b13, b14, b15, rfl⟩ := sixteen li
  obtain ⟨k, rfl⟩ : ∃ k : Nat, a2 = k := ⟨a2.toNat, by omega⟩
  obtain ⟨pt, rfl⟩ : ∃ k : Nat, a4 = k := ⟨a4.toNat, by omega⟩
  clear hA0 hval0
  refine (law_any W ad n cap W.heap.size bs a1 k pt b0.toNat b1.toNat b2.toNat b3.toNat b4.toNat b5.toNat b6.toNat b7.toNat b8.toNat b9.toNat b10.toNat b11.toNat b12.toNat b13.toNat b14.toNat b15.toNat z4 z6 (bvs ids).toArray ids hB (by omega) (by omega)
    b0.toNat_lt b1.toNat_lt b2.toNat_lt b3.toNat_lt b4.toNat_lt b5.toNat_lt b6.toNat_lt b7.toNat_lt b8.toNat_lt b9.toNat_lt b10.toNat_lt b11.toNat_lt b12.toNat_lt b13.toNat_lt b14.toNat_lt b15.toNat_lt hZ (show _ = _ by simp) (by simp [bvs_length, ld])).mono fun e W' ⟨he, bel⟩ => ?_
  subst he
  exact ⟨_, rfl, _, _, _, [], _, [], hW', trodAll_mk1 (shut_bool Ybad.underlying4 _),
    (trodAll_cons_mk (Below.trod laidOut (by kernel_rfl) (of_decide_eq_true (by kernel_rfl)) h0 bel lt0) (trodAll_cons_mk (shut_string Ybad.underlying9 w1) (trodAll_cons_mk (shut_int Ybad.underlying5 w2)
      (trodAll_cons_mk (Below.trod laidOut (by kernel_rfl) (of_decide_eq_true (by kernel_rfl)) h3 bel lt3) (trodAll_cons_mk (shut_int Ybad.underlying24 w4)
      (trodAll_cons_mk (Below.trod laidOut (by kernel_rfl) (of_decide_eq_true (by kernel_rfl)) h5 bel lt5) trodAll_mk0)))))),
    rfl, bel.frame _, fun h => by cases h⟩

theorem row_holds : Rows.LawS5853AWholeSaid :=
  OpenClaim.holds_of_wide 3 Ybad.f3 rfl rfl rfl rfl rfl rfl rfl ⟨rfl, rfl, rfl, rfl, rfl⟩ rfl rfl rfl rfl rfl (by kernel_rfl) Ybad.func3 (by kernel_rfl)
    (of_decide_eq_true (by kernel_rfl)) (by unfold Func.isWrapper; first | (rw [if_pos (by decide +kernel)]; kernel_rfl) | (rw [if_neg (by decide +kernel)]; exact ⟨rfl, rfl⟩))
    (fun os started H enc _ => lifted os started H enc)

theorem card_holds : Rows.LawS5853AWholeCardSaid :=
  Claim7.holds_tied_plain_at .later [] [.data, .data, .data, .called, .called, .zero] true (true, "2ffb3fc496eb829a122126775c54a046b8eab264d9746a19e68c88d084817e0f") false
    row_holds (fun _ h => by cases h) (by kernel_rfl) (fun _ h => by cases h) lawS5853AWhole_row_tie rfl ⟨rfl, rfl⟩ (by kernel_rfl) rfl
    (fun f fn hf hfn => by
      obtain rfl : f = 3 := Option.some.inj ((show Ybad.prog.funcNamed Rows.lawS5853AWholeRow.func = some 3 by kernel_rfl).symm.trans hf) |>.symm
      obtain rfl : fn = Ybad.f3 := (Option.some.inj (Ybad.func3.symm.trans hfn)).symm
      exact ⟨by kernel_rfl, fun j t ht => by
        rw [Ybad.params3] at ht
        have hm : t ∈ [22, 9, 5, 23, 24, 25] := by simpa using Array.mem_of_getElem? ht
        have hall : ([22, 9, 5, 23, 24, 25].all fun u => !Ybad.prog.wantsStandIn u) = true := by kernel_rfl
        exact (show Ybad.prog.wantsStandIn t = false by simpa using List.all_eq_true.1 hall t hm)⟩)
    (by kernel_rfl)
end Go.Proofs.YbulkdqeqDoor
