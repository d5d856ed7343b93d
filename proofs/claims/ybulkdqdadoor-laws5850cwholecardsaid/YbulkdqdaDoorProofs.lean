import Derived.Test.YbulkdqdaDoorRows
import Derived.Test.YbulkdqdaDoorCards
import Derived.Test.YbulkdqdaDoorTie
import Derived.Test.YbulkdqdaDoorLaw
import Derived.ProofKit
import Derived.LaidMore
import Derived.OpenShut
import Derived.ShutString
import Derived.OpenVars
import Derived.Maps.StringElems
import Derived.SevenTiedAt
import Derived.Stop.Joined
namespace Go.Proofs.YbulkdqdaDoor
open Go.ChangeShapes Go.WideShapes Go.ChangeAt Go.WideMaps Go.WideElems Go.RowKit
open Go.Maps (int_keyed keyOf_int_mk Keyed)
open Go.ChangeMaps (open_string shut_string)

set_option maxRecDepth 100000
theorem own : ownKnob Ybad.prog.godebug = none := by kernel_rfl
theorem laidOut : laidOutB Ybad.prog = true := by kernel_rfl
abbrev laid4 : List (String × DataW Unit) := Rows.lawS5850CWholeRow.laid
theorem zero9 (w : World) : (zeroValue 9).run Ybad.prog w = .ok (.string ⟨#[]⟩) w := by kernel_rfl

/-- A listed map of strings keyed by an int type: its cell, and what each look-up gives in every world grown out of this one. -/
theorem map_look {W : World} {t k : TypeId} (ht : Ybad.prog.underlying t = some (.map k 9)) (hk : Ybad.prog.underlying k = some (.int .i64)) {E : List (Lit × DataW Unit)} {p : List MemPlace} {fuel : Nat} {cs : Array Value}
    (hd : DataW.trod (fun _ => ()) Ybad.prog W 0 (fun _ => true) false fuel t cs.toList = some (.map E, p)) :
    ∃ bm, cs = #[.map (some bm)] ∧ ∀ W', Below W.heap.size W W' → ∀ c : Int, (Lit.int .i64 c).wf = true →
      ∃ s : ByteArray, (Instr.lookup t (.map (some bm)) (.int .i64 c) false).run Ybad.prog W' = .ok (.string s) W' ∧ (DataW.map E).atKey (.int .i64 c) (.lit (.string [])) = .lit (.string s.data.toList) := by
  rcases open_map ht hd with ⟨_, hx⟩ | ⟨bm, es, clock, m, rfl, hcs, hb, _, F, hx⟩
  · simp at hx
  simp only [Prod.mk.injEq] at hx
  refine ⟨bm, Array.eq_one_of_toList hcs, fun W' hB c hc => ?_⟩
  have hown := World.ownsMap_of_fit (R := plainElem Ybad.prog 9) hb F (fun x _ z hz => elemAt_plainElem_string Ybad.underlying9 hz)
  have hbm : bm < W.heap.size := (Array.getElem?_eq_some_iff.1 hb).1
  rw [← hx.1] at hown
  obtain ⟨es', clock', hb', F', hle, hDD⟩ := hown
  have hown' : W'.ownsMap Ybad.prog k (plainElem Ybad.prog 9) bm es.size (DataW.map E) := ⟨es', clock', by rw [hB.block bm hbm]; exact hb', F', hle, hDD⟩
  obtain ⟨v, ps, hrun, hv⟩ := hown'.lookup (int_keyed hk) ht (zero9 _) (zd := .lit (.string [])) (zp := []) (plainElem_string Ybad.underlying9 (s := ⟨#[]⟩) (Nat.zero_le _)) (keyOf_int_mk hk hc)
  obtain ⟨s, rfl, hz, _⟩ := plainElem_string_inv Ybad.underlying9 hv
  simp only [Prod.mk.injEq] at hz
  exact ⟨s, hrun, hz.1⟩

theorem bytes_eq {s : ByteArray} {l : List UInt8} (h : DataW.lit (H := Unit) (.string s.data.toList) = .lit (.string l)) : s = ⟨l.toArray⟩ := by
  obtain ⟨⟨x⟩⟩ := s
  simp at h
  rw [h]

theorem char_at (c : Int) {s : ByteArray} (h : (Rows.laid_example_com_columnfit_columnfit_characterWords (H := Unit)).atKey (.int .i64 c) (.lit (.string [])) = .lit (.string s.data.toList)) : s = charW c := by
  by_cases h0 : c = 0
  · subst h0; exact bytes_eq h.symm
  by_cases h1 : c = 1
  · subst h1; exact bytes_eq h.symm
  by_cases h2 : c = 2
  · subst h2; exact bytes_eq h.symm
  have e : (Rows.laid_example_com_columnfit_columnfit_characterWords (H := Unit)).atKey (.int .i64 c) (.lit (.string [])) = .lit (.string []) := by
    simp [Rows.laid_example_com_columnfit_columnfit_characterWords, DataW.atKey, List.find?, Lit.sameKey, Ne.symm h0, Ne.symm h1, Ne.symm h2]
  rw [e] at h
  unfold charW
  rw [if_neg h0, if_neg h1, if_neg h2]
  exact bytes_eq h.symm
theorem digit_at (c : Int) {s : ByteArray} (h : (Rows.laid_example_com_columnfit_columnfit_digitWords (H := Unit)).atKey (.int .i64 c) (.lit (.string [])) = .lit (.string s.data.toList)) : s = digitW c := by
  by_cases h0 : c = 0
  · subst h0; exact bytes_eq h.symm
  by_cases h1 : c = 1
  · subst h1; exact bytes_eq h.symm
  have e : (Rows.laid_example_com_columnfit_columnfit_digitWords (H := Unit)).atKey (.int .i64 c) (.lit (.string [])) = .lit (.string []) := by
    simp [Rows.laid_example_com_columnfit_columnfit_digitWords, DataW.atKey, List.find?, Lit.sameKey, Ne.symm h0, Ne.symm h1]
  rw [e] at h
  unfold digitW
  rw [if_neg h0, if_neg h1]
  exact bytes_eq h.symm
theorem date_at (c : Int) {s : ByteArray} (h : (Rows.laid_example_com_columnfit_columnfit_datetimeWords (H := Unit)).atKey (.int .i64 c) (.lit (.string [])) = .lit (.string s.data.toList)) : s = dateW c := by
  by_cases h0 : c = 0
  · subst h0; exact bytes_eq h.symm
  by_cases h1 : c = 1
  · subst h1; exact bytes_eq h.symm
  have e : (Rows.laid_example_com_columnfit_columnfit_datetimeWords (H := Unit)).atKey (.int .i64 c) (.lit (.string [])) = .lit (.string []) := by
    simp [Rows.laid_example_com_columnfit_columnfit_datetimeWords, DataW.atKey, List.find?, Lit.sameKey, Ne.symm h0, Ne.symm h1]
  rw [e] at h
  unfold dateW
  rw [if_neg h0, if_neg h1]
  exact bytes_eq h.symm
theorem dial_at (c : Int) {s : ByteArray} (h : (Rows.laid_example_com_columnfit_columnfit_dialectWords (H := Unit)).atKey (.int .i64 c) (.lit (.string [])) = .lit (.string s.data.toList)) : s = dialW c := by
  by_cases h0 : c = 0
  · subst h0; exact bytes_eq h.symm
  by_cases h1 : c = 1
  · subst h1; exact bytes_eq h.symm
  have e : (Rows.laid_example_com_columnfit_columnfit_dialectWords (H := Unit)).atKey (.int .i64 c) (.lit (.string [])) = .lit (.string []) := by
    simp [Rows.laid_example_com_columnfit_columnfit_dialectWords, DataW.atKey, List.find?, Lit.sameKey, Ne.symm h0, Ne.symm h1]
  rw [e] at h
  unfold dialW
  rw [if_neg h0, if_neg h1]
  exact bytes_eq h.symm

theorem g0t : (Ybad.prog.globals[0]?).map (·.type) = some 73 := by kernel_rfl
theorem g1t : (Ybad.prog.globals[1]?).map (·.type) = some 74 := by kernel_rfl
theorem g2t : (Ybad.prog.globals[2]?).map (·.type) = some 75 := by kernel_rfl
theorem g3t : (Ybad.prog.globals[3]?).map (·.type) = some 76 := by kernel_rfl

theorem one_cell {W : World} {n : String} {g b : Nat} {cs : Array Value} (hg : Ybad.prog.globalNamed n = some g) (hv : W.var? Ybad.prog n = some cs) (hc : cs = #[.map (some b)]) : W.cell? ⟨g, 0, none⟩ = some (.map (some b)) := by
  subst hc
  simpa using World.var?_cell hg hv 0

theorem of_laid {W : World} (h : laidMetH Ybad.prog laid4 W) : ∃ b0 b1 b2 b3 : Nat, ∀ c d t l : Int, (Lit.int .i64 c).wf = true → (Lit.int .i64 d).wf = true → (Lit.int .i64 t).wf = true → (Lit.int .i64 l).wf = true →
    Looks c d t l (charW c) (digitW d) (dateW t) (dialW l) b0 b1 b2 b3 W := by
  rw [MakeChecks.laidMetH_plain _ _ _ (by kernel_rfl)] at h
  obtain ⟨ps, ⟨g0, t0, cs0, f0, p0, q0, hg0, ht0, hv0, hd0, ⟨g1, t1, cs1, f1, p1, q1, hg1, ht1, hv1, hd1, ⟨g2, t2, cs2, f2, p2, q2, hg2, ht2, hv2, hd2, ⟨g3, t3, cs3, f3, p3, q3, hg3, ht3, hv3, hd3, _, _⟩, _⟩, _⟩, _⟩, _, _⟩ := h
  obtain rfl := Option.some.inj ((show Ybad.prog.globalNamed _ = some 0 by kernel_rfl).symm.trans hg0)
  obtain rfl := Option.some.inj ((show Ybad.prog.globalNamed _ = some 1 by kernel_rfl).symm.trans hg1)
  obtain rfl := Option.some.inj ((show Ybad.prog.globalNamed _ = some 2 by kernel_rfl).symm.trans hg2)
  obtain rfl := Option.some.inj ((show Ybad.prog.globalNamed _ = some 3 by kernel_rfl).symm.trans hg3)
  obtain rfl := Option.some.inj (g0t.symm.trans ht0)
  obtain rfl := Option.some.inj (g1t.symm.trans ht1)
  obtain rfl := Option.some.inj (g2t.symm.trans ht2)
  obtain rfl := Option.some.inj (g3t.symm.trans ht3)
  obtain ⟨b0, e0, k0⟩ := map_look Ybad.underlying73 Ybad.underlying46 hd0
  obtain ⟨b1, e1, k1⟩ := map_look Ybad.underlying74 Ybad.underlying47 hd1
  obtain ⟨b2, e2, k2⟩ := map_look Ybad.underlying75 Ybad.underlying48 hd2
  obtain ⟨b3, e3, k3⟩ := map_look Ybad.underlying76 Ybad.underlying49 hd3
  have c3 := one_cell hg3 hv3 e3
  refine ⟨b0, b1, b2, b3, fun c d t l wc wd wt wl => ⟨one_cell hg0 hv0 e0, one_cell hg1 hv1 e1, one_cell hg2 hv2 e2, c3, ?_, ?_, ?_, ?_, ?_⟩⟩
  · rcases Nat.lt_or_ge 3 W.heap.size with h | h
    · exact h
    · exact absurd c3 (by simp [World.cell?, h])
  · intro W' hB
    obtain ⟨s, hr, ha⟩ := k0 W' hB c wc
    rw [hr, char_at c ha]
  · intro W' hB
    obtain ⟨s, hr, ha⟩ := k1 W' hB d wd
    rw [hr, digit_at d ha]
  · intro W' hB
    obtain ⟨s, hr, ha⟩ := k2 W' hB t wt
    rw [hr, date_at t ha]
  · intro W' hB
    obtain ⟨s, hr, ha⟩ := k3 W' hB l wl
    rw [hr, dial_at l ha]

theorem vars_len {H : Type} {enc : TypeId × Value → H} {P : Program} {w : World} {sp : Nat → Bool} : ∀ {ns : List String} {gs : List (DataW H)} {ps : List MemPlace}, DataW.TrodVars enc P w sp ns gs ps → gs.length = ns.length
  | [], [], _, _ => rfl
  | [], _ :: _, _, h => h.elim
  | _ :: _, [], _, h => h.elim
  | _ :: ns, _ :: ds, _, h => by
    obtain ⟨_, _, _, _, _, _, _, _, _, _, hs, _⟩ := h
    simp [vars_len hs]

theorem door_met (os : Os) (args : Array Value) : laidMetH Ybad.prog laid4 ((World.doorLaid Ybad.prog 84 os).forCall (fun _ _ => 0) ⟨#[], args, []⟩).memory :=
  laidMetH_of_parts3 (fuel := 8) (laidMet_of_run' 8 (by kernel_rfl) (by kernel_rfl)) (by kernel_rfl) (by kernel_rfl)

theorem lifted (os : Os) (started : os.Started) (H : Type) (enc : TypeId × Value → H) :
    ReturnsInHanded {} Ybad.checked os 4 .any (fun w args => (Rows.lawS5850CWholeSpec.pre enc Ybad.prog Ybad.f4 [] false w args ∧ laidMetH Ybad.prog laid4 w) ∧ sizedMet enc Ybad.prog Ybad.f4 (OpenSpec.ofChange Rows.lawS5850CWholeSpec) false w args)
      (Rows.lawS5850CWholeSpec.post enc Ybad.prog Ybad.f4 false true false false) := by
  refine returnsInHanded_of_change_and (C := Ybad.checked) (X := fun w _ => laidMetH Ybad.prog laid4 w) (fun _ _ _ hh h => h.of_heap hh) own started (by kernel_rfl) Ybad.func4
    (ChangeSpec.witness_shaped (enc := enc) (C := Ybad.checked) (os := os) (X := fun w _ => laidMetH Ybad.prog laid4 w) false (World.doorLaid Ybad.prog 84 os) #[.string ⟨#[]⟩, .int .u8 0, .int .i64 0, .int .u8 0, .int .i64 0, .int .u8 0, .int .i64 0, .int .u8 0, .int .i64 0] 8 rfl (World.shaped_of_RefB (by kernel_rfl) (by kernel_rfl)) (by kernel_rfl) (by kernel_rfl) (by kernel_rfl) (door_met os _)) ?_
  intro W base args ds gs before hval0 hW _ _ hL _
  have hval : ∀ (j : Nat) t v, Ybad.f4.params[j]? = some t → args[j]? = some v → Value.okWide Ybad.prog W .any base t v := hval0
  have hW' := hW
  obtain ⟨p, q, hA0, hV, rfl, hfz, hnd⟩ := hW
  have hA : DataW.TrodAll enc Ybad.prog W 0 (fun _ => true) true Ybad.f4.params.toList args.toList ds p := hA0
  rw [Ybad.params4] at hA hval
  obtain ⟨v0, vs0, d0, ds0, p0, q0, hargs, rfl, rfl, h0, r0⟩ := trodAll_cons hA
  obtain ⟨v1, vs1, d1, ds1, p1, q1, rfl, rfl, rfl, h1, r1⟩ := trodAll_cons r0
  obtain ⟨v2, vs2, d2, ds2, p2, q2, rfl, rfl, rfl, h2, r2⟩ := trodAll_cons r1
  obtain ⟨v3, vs3, d3, ds3, p3, q3, rfl, rfl, rfl, h3, r3⟩ := trodAll_cons r2
  obtain ⟨v4, vs4, d4, ds4, p4, q4, rfl, rfl, rfl, h4, r4⟩ := trodAll_cons r3
  obtain ⟨v5, vs5, d5, ds5, p5, q5, rfl, rfl, rfl, h5, r5⟩ := trodAll_cons r4
  obtain ⟨v6, vs6, d6, ds6, p6, q6, rfl, rfl, rfl, h6, r6⟩ := trodAll_cons r5
  obtain ⟨v7, vs7, d7, ds7, p7, q7, rfl, rfl, rfl, h7, r7⟩ := trodAll_cons r6
  obtain ⟨v8, vs8, d8, ds8, p8, q8, rfl, rfl, rfl, h8, r8⟩ := trodAll_cons r7
  obtain ⟨rfl, rfl, rfl⟩ := trodAll_nil r8
  obtain rfl : args = #[v0, v1, v2, v3, v4, v5, v6, v7, v8] := by cases args; simp_all
  obtain ⟨a0, rfl, rfl, rfl, w0⟩ := open_string Ybad.underlying9 (hval 0 9 v0 rfl rfl) h0
  obtain ⟨a1, rfl, rfl, rfl, w1⟩ := open_int Ybad.underlying5 (hval 1 5 v1 rfl rfl) h1
  obtain ⟨a2, rfl, rfl, rfl, w2⟩ := open_int Ybad.underlying3 (hval 2 3 v2 rfl rfl) h2
  obtain ⟨a3, rfl, rfl, rfl, w3⟩ := open_int Ybad.underlying5 (hval 3 5 v3 rfl rfl) h3
  obtain ⟨a4, rfl, rfl, rfl, w4⟩ := open_int Ybad.underlying3 (hval 4 3 v4 rfl rfl) h4
  obtain ⟨a5, rfl, rfl, rfl, w5⟩ := open_int Ybad.underlying5 (hval 5 5 v5 rfl rfl) h5
  obtain ⟨a6, rfl, rfl, rfl, w6⟩ := open_int Ybad.underlying3 (hval 6 3 v6 rfl rfl) h6
  obtain ⟨a7, rfl, rfl, rfl, w7⟩ := open_int Ybad.underlying5 (hval 7 5 v7 rfl rfl) h7
  obtain ⟨a8, rfl, rfl, rfl, w8⟩ := open_int Ybad.underlying3 (hval 8 3 v8 rfl rfl) h8
  obtain ⟨b0, b1, b2, b3, L⟩ := of_laid hL
  have hlen := vars_len hV
  match gs, hlen, hV, hW' with
  | [e0, e1, e2, e3], _, hV, hW' =>
    clear hA0 hval0
    refine (law_any a0 a1 a2 a3 a4 a5 a6 a7 a8 (bounds_u8 w1) (bounds_u8 w3) (bounds_u8 w5) (bounds_u8 w7) w2 w4 w6 w8 b0 b1 b2 b3 W L).mono fun e W' ⟨he, bel⟩ => ?_
    subst he
    exact ⟨_, rfl, _, _, _, [], _, q, hW', trodAll_mk1 (shut_bool Ybad.underlying4 _),
      (trodAll_cons_mk (shut_string Ybad.underlying9 w0) (trodAll_cons_mk (shut_int Ybad.underlying5 w1) (trodAll_cons_mk (shut_int Ybad.underlying3 w2) (trodAll_cons_mk (shut_int Ybad.underlying5 w3) (trodAll_cons_mk (shut_int Ybad.underlying3 w4) (trodAll_cons_mk (shut_int Ybad.underlying5 w5) (trodAll_cons_mk (shut_int Ybad.underlying3 w6) (trodAll_cons_mk (shut_int Ybad.underlying5 w7) (trodAll_cons_mk (shut_int Ybad.underlying3 w8) trodAll_mk0))))))))),
      Below.trodVars laidOut bel (by kernel_rfl) hV, bel.frame _, fun h => by cases h⟩

theorem row_holds : Rows.LawS5850CWholeSaid :=
  OpenClaim.holds_of_wide 4 Ybad.f4 rfl rfl rfl rfl rfl rfl rfl ⟨rfl, rfl, rfl, rfl, rfl⟩ rfl rfl rfl rfl rfl (by kernel_rfl) Ybad.func4 (by kernel_rfl)
    (of_decide_eq_true (by kernel_rfl)) (by unfold Func.isWrapper; first | (rw [if_pos (by decide +kernel)]; kernel_rfl) | (rw [if_neg (by decide +kernel)]; exact ⟨rfl, rfl⟩))
    (fun os started H enc _ => lifted os started H enc)

theorem card_holds : Rows.LawS5850CWholeCardSaid :=
  Claim7.holds_tied_plain_at .later [] [.mapped, .mapped, .mapped, .mapped] true (true, "edf34a95d2e94c985d198e8f96797fe854845dd16f9a61ccd7ad7ccdafab36b4") true
    row_holds (fun _ h => by cases h) (by kernel_rfl) (fun _ h => by cases h) lawS5850CWhole_row_tie rfl ⟨rfl, rfl⟩ (by kernel_rfl) rfl
    (fun f fn hf hfn => by
      obtain rfl : f = 4 := Option.some.inj ((show Ybad.prog.funcNamed Rows.lawS5850CWholeRow.func = some 4 by kernel_rfl).symm.trans hf) |>.symm
      obtain rfl : fn = Ybad.f4 := (Option.some.inj (Ybad.func4.symm.trans hfn)).symm
      exact ⟨by kernel_rfl, fun j t ht => by
        rw [Ybad.params4] at ht
        have hm : t ∈ [9, 5, 3, 5, 3, 5, 3, 5, 3] := by simpa using Array.mem_of_getElem? ht
        have hall : ([9, 5, 3, 5, 3, 5, 3, 5, 3].all fun u => !Ybad.prog.wantsStandIn u) = true := by kernel_rfl
        exact (show Ybad.prog.wantsStandIn t = false by simpa using List.all_eq_true.1 hall t hm)⟩)
    (by kernel_rfl)
end Go.Proofs.YbulkdqdaDoor
