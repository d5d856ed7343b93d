import Derived.Test.YbulkdqecDoorRows
import Derived.Test.YbulkdqecDoorCards
import Derived.Test.YbulkdqecDoorTie
import Derived.Test.YbulkdqecDoorLaw
import Derived.ProofKit
import Derived.LaidMore
import Derived.OpenShut
import Derived.ShutString
import Derived.OpenVars
import Derived.SevenTiedAt
import Derived.Stop.Joined
namespace Go.Proofs.YbulkdqecDoor
open Go.ChangeShapes Go.WideShapes Go.ChangeAt Go.WideMaps Go.WideElems Go.RowKit
set_option maxRecDepth 100000

theorem own : ownKnob Ybad.prog.godebug = none := by kernel_rfl
theorem laidOut : laidOutB Ybad.prog = true := by kernel_rfl
abbrev laid1 : List (String × DataW Unit) := Rows.lawS5852AWholeRow.laid
theorem cells2 : Ybad.prog.cellsOf 2 = 1 := by kernel_rfl
theorem cells34 : Ybad.prog.cellsOf 34 = 2 := by kernel_rfl

theorem pick_cell {l : List Value} {i : Nat} {v : Value} (h : ((((l.drop (i * 2)).take 2).drop 1).take 1) = [v]) : l[2 * i + 1]? = some v := by
  have h1 := congrArg (fun x : List Value => x[0]?) h
  simp [List.getElem?_drop] at h1
  rw [show 2 * i + 1 = i * 2 + 1 by omega]
  exact h1

theorem seconds_of {W : World} {fuel : Nat} {cs : List Value} {L : List (DataW Unit)} {p : List MemPlace} (hd : DataW.trod (fun _ => ()) Ybad.prog W 0 (fun _ => true) false fuel 35 cs = some (.agg L, p)) (i : Nat) (hi : i < 7) {a : DataW Unit} {k : Int}
    (hL : L[i]? = some (.agg [a, .lit (.int .i64 k)])) : cs[2 * i + 1]? = some (.int .i64 k) := by
  obtain ⟨xs, m1, rfl, hx1, hlen, hn, hel⟩ := DataW.trod_array Ybad.underlying35 hd
  have h0 := hel i hi
  simp only [Prod.mk.injEq, DataW.agg.injEq] at hx1
  obtain ⟨hLx, _⟩ := hx1
  have hix : i < xs.length := by omega
  rw [List.getElem?_eq_getElem hix] at h0
  obtain ⟨y0, y1, n, hx, _, _, hy1⟩ := trod_struct2 Ybad.underlying34 h0
  obtain ⟨z, hz, rfl, _⟩ := DataW.trod_int Ybad.underlying2 hy1
  simp only [cells34, cells2] at hz
  have hk : (DataW.agg [y0.1, .lit (.int .i64 z)] : DataW Unit) = .agg [a, .lit (.int .i64 k)] := by
    have e1 : L[i]? = some (xs[i].1) := by rw [hLx, List.getElem?_map, List.getElem?_eq_getElem hix]; rfl
    rw [hx] at e1
    exact Option.some.inj (e1.symm.trans hL)
  have hzk : z = k := by simp at hk; exact hk.2
  subst hzk
  exact pick_cell hz

theorem of_laid {W : World} (h : laidMetH Ybad.prog laid1 W) : Units W := by
  rw [MakeChecks.laidMetH_plain _ _ _ (by kernel_rfl)] at h
  obtain ⟨ps, ⟨g0, t0, cs0, f0, p0, q0, hg0, ht0, hv0, hd0, _, _⟩, _, _⟩ := h
  obtain rfl := Option.some.inj ((show Ybad.prog.globalNamed _ = some 0 by kernel_rfl).symm.trans hg0)
  obtain rfl := Option.some.inj ((show (Ybad.prog.globals[0]?).map (·.type) = some 35 by kernel_rfl).symm.trans ht0)
  have key : ∀ (i : Nat) (k : Int), i < 7 → cs0.toList[2 * i + 1]? = some (.int .i64 k) → W.cell? ⟨0, 2 * i + 1, none⟩ = some (.int .i64 k) := fun i k _ hc => by
    have := World.var?_cell hg0 hv0 (2 * i + 1)
    rw [this]
    simpa using hc
  have c1 := key 0 1 (by omega) (seconds_of hd0 0 (by omega) rfl)
  refine ⟨c1, key 3 86400 (by omega) (seconds_of hd0 3 (by omega) rfl), key 5 2419200 (by omega) (seconds_of hd0 5 (by omega) rfl), key 6 31536000 (by omega) (seconds_of hd0 6 (by omega) rfl), ?_⟩
  rcases Nat.lt_or_ge 0 W.heap.size with h | h
  · exact h
  · exact absurd c1 (by simp [World.cell?, h])

theorem vars_len {H : Type} {enc : TypeId × Value → H} {P : Program} {w : World} {sp : Nat → Bool} : ∀ {ns : List String} {gs : List (DataW H)} {ps : List MemPlace}, DataW.TrodVars enc P w sp ns gs ps → gs.length = ns.length
  | [], [], _, _ => rfl
  | [], _ :: _, _, h => h.elim
  | _ :: _, [], _, h => h.elim
  | _ :: ns, _ :: ds, _, h => by
    obtain ⟨_, _, _, _, _, _, _, _, _, _, hs, _⟩ := h
    simp [vars_len hs]

theorem door_met (os : Os) (args : Array Value) : laidMetH Ybad.prog laid1 ((World.doorLaid Ybad.prog 28 os).forCall (fun _ _ => 0) ⟨#[], args, []⟩).memory :=
  laidMetH_of_parts3 (fuel := 8) (laidMet_of_run' 8 (by kernel_rfl) (by kernel_rfl)) (by kernel_rfl) (by kernel_rfl)
end Go.Proofs.YbulkdqecDoor
