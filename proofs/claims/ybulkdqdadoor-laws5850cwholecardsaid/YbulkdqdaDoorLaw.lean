import Derived.Test.YbulkdqdaDoorSw
import Derived.Deep.DeepCutAuto
import Derived.Deep.CutBlock
import Derived.Deep.LoopGhost
import Derived.Deep.QuietTactic
import Derived.BigQuiet
import Derived.LoopN
namespace Go.Proofs.YbulkdqdaDoor
open Go.RowKit

theorem Looks.below {c d t l : Int} {S1 S2 S3 S4 : ByteArray} {b0 b1 b2 b3 : Nat} {w w' : World} (h : Looks c d t l S1 S2 S3 S4 b0 b1 b2 b3 w) (hb : Below w.heap.size w w') : Looks c d t l S1 S2 S3 S4 b0 b1 b2 b3 w' where
  c0 := (hb.cell (p := ⟨0, 0, none⟩) (by have := h.sz; simp; omega)).trans h.c0
  c1 := (hb.cell (p := ⟨1, 0, none⟩) (by have := h.sz; simp; omega)).trans h.c1
  c2 := (hb.cell (p := ⟨2, 0, none⟩) (by have := h.sz; simp; omega)).trans h.c2
  c3 := (hb.cell (p := ⟨3, 0, none⟩) (by have := h.sz; simp; omega)).trans h.c3
  sz := Nat.lt_of_lt_of_le h.sz hb.size
  l0 := fun W' k => h.l0 W' (hb.trans (k.mono hb.size))
  l1 := fun W' k => h.l1 W' (hb.trans (k.mono hb.size))
  l2 := fun W' k => h.l2 W' (hb.trans (k.mono hb.size))
  l3 := fun W' k => h.l3 W' (hb.trans (k.mono hb.size))

set_option maxRecDepth 100000 in
set_option maxHeartbeats 1000000 in
theorem law_any (name : ByteArray) (cs craw ds draw ts traw ls lraw : Int) (hcs : 0 ≤ cs ∧ cs ≤ 255) (hds : 0 ≤ ds ∧ ds ≤ 255) (hts : 0 ≤ ts ∧ ts ≤ 255) (hls : 0 ≤ ls ∧ ls ≤ 255)
    (wcr : Hid ((Lit.int .i64 craw).wf = true)) (wdr : Hid ((Lit.int .i64 draw).wf = true)) (wtr : Hid ((Lit.int .i64 traw).wf = true)) (wlr : Hid ((Lit.int .i64 lraw).wf = true))
    (b0 b1 b2 b3 : Nat) (w : World) (L : Hid (∀ c d t l : Int, (Lit.int .i64 c).wf = true → (Lit.int .i64 d).wf = true → (Lit.int .i64 t).wf = true → (Lit.int .i64 l).wf = true → Looks c d t l (charW c) (digitW d) (dateW t) (dialW l) b0 b1 b2 b3 w)) :
    Calls Ybad.prog 4 #[.string name, .int .u8 cs, .int .i64 craw, .int .u8 ds, .int .i64 draw, .int .u8 ts, .int .i64 traw, .int .u8 ls, .int .i64 lraw] w fun e w' => e = .returned (.bool true) ∧ Below w.heap.size w w' := by
  obtain ⟨hcs0, hcs1⟩ := hcs
  obtain ⟨hds0, hds1⟩ := hds
  obtain ⟨hts0, hts1⟩ := hts
  obtain ⟨hls0, hls1⟩ := hls
  go_enter Ybad.func4, Ybad.ntmps4
  go_upto_block 0 with fail
  go_cut [19] from 30 to 38 (fun v w' => ∃ c : Int, v = .int .i64 c ∧ Hid ((Lit.int .i64 c).wf = true) ∧ w' = w)
  case first =>
    go_wp2
    all_goals
      go_meet
      case rel => exact ⟨_, rfl, by first | exact wcr | exact wdr | exact wtr | exact wlr | exact (show (Lit.int .i64 _).wf = true from rfl), rfl⟩
  case rest =>
    obtain ⟨c, rfl, wc0, rfl⟩ := hcut
    go_upto_block 1 with fail
    go_cut [20] from 39 to 45 (fun v w' => ∃ c : Int, v = .int .i64 c ∧ Hid ((Lit.int .i64 c).wf = true) ∧ w' = wc)
    case first =>
      go_wp2
      all_goals
        go_meet
        case rel => exact ⟨_, rfl, by first | exact wcr | exact wdr | exact wtr | exact wlr | exact (show (Lit.int .i64 _).wf = true from rfl), rfl⟩
    case rest =>
      obtain ⟨d, rfl, wd, rfl⟩ := hcut
      go_upto_block 2 with fail
      go_cut [21] from 46 to 52 (fun v w' => ∃ c : Int, v = .int .i64 c ∧ Hid ((Lit.int .i64 c).wf = true) ∧ w' = wc)
      case first =>
        go_wp2
        all_goals
          go_meet
          case rel => exact ⟨_, rfl, by first | exact wcr | exact wdr | exact wtr | exact wlr | exact (show (Lit.int .i64 _).wf = true from rfl), rfl⟩
      case rest =>
        obtain ⟨t, rfl, wt, rfl⟩ := hcut
        go_upto_block 3 with fail
        go_cut [22] from 53 to 59 (fun v w' => ∃ c : Int, v = .int .i64 c ∧ Hid ((Lit.int .i64 c).wf = true) ∧ w' = wc)
        case first =>
          go_wp2
          all_goals
            go_meet
            case rel => exact ⟨_, rfl, by first | exact wcr | exact wdr | exact wtr | exact wlr | exact (show (Lit.int .i64 _).wf = true from rfl), rfl⟩
        case rest =>
          obtain ⟨l, rfl, wl, rfl⟩ := hcut
          have L1 := L.out c d t l wc0.out wd.out wt.out wl.out
          have f7 := char_any c
          have f8 := digit_any d
          have f9 := date_any t
          have f10 := dial_any l
          generalize charW c = S1 at *
          generalize digitW d = S2 at *
          generalize dateW t = S3 at *
          generalize dialW l = S4 at *
          have F7 : Hid (∀ w : World, Calls Ybad.prog 7 #[.int .i64 c] w fun e w' => e = .returned (.string S1) ∧ w' = w) := f7
          have F8 : Hid (∀ w : World, Calls Ybad.prog 8 #[.int .i64 d] w fun e w' => e = .returned (.string S2) ∧ w' = w) := f8
          have F9 : Hid (∀ w : World, Calls Ybad.prog 9 #[.int .i64 t] w fun e w' => e = .returned (.string S3) ∧ w' = w) := f9
          have F10 : Hid (∀ w : World, Calls Ybad.prog 10 #[.int .i64 l] w fun e w' => e = .returned (.string S4) ∧ w' = w) := f10
          have HL : Hid (Looks c d t l S1 S2 S3 S4 b0 b1 b2 b3 wc) := L1
          clear f7 f8 f9 f10 L1 L hcs0 hcs1 hds0 hds1 hts0 hts1 hls0 hls1
          go_wp2_with (first | (go_at_call 7; refine (F7.out _).mono ?_; rintro e w' ⟨rfl, rfl⟩) | (go_at_call 8; refine (F8.out _).mono ?_; rintro e w' ⟨rfl, rfl⟩) | (go_at_call 9; refine (F9.out _).mono ?_; rintro e w' ⟨rfl, rfl⟩) | (go_at_call 10; refine (F10.out _).mono ?_; rintro e w' ⟨rfl, rfl⟩))
          refine (switches_any name c d t l S1 S2 S3 S4 b0 b1 b2 b3 _ (HL.out.below (((Below.refl _ _).alloc (Nat.le_refl _) _).alloc (by simp) _))).mono ?_
          rintro e w' ⟨rfl, rfl⟩
          go_wp2
          refine wp_loop_rounds 5 ?_
          rw [rounds_succ]
          go_wp2
          go_quiet (fail)
          go_wp2
          rw [rounds_succ]
          go_wp2
          go_quiet (fail)
          go_wp2
          rw [rounds_succ]
          go_wp2
          go_quiet (fail)
          go_wp2
          rw [rounds_succ]
          go_wp2
          go_quiet (fail)
          go_wp2
          rw [rounds_succ]
          go_wp2
          refine wp_loop_rounds 5 ?_
          rw [rounds_succ]
          go_wp2
          rw [rounds_succ]
          go_wp2
          rw [rounds_succ]
          go_wp2
          rw [rounds_succ]
          go_wp2
          rw [rounds_succ]
          go_wp2_with fail
          refine (switches_any name c d t l S1 S2 S3 S4 b0 b1 b2 b3 _ (HL.out.below ?hb)).mono ?_
          case hb => exact ((((((((below_drewN (((((Below.refl _ _).alloc (Nat.le_refl _) _).alloc (by simp) _).alloc (by simp; omega) _).alloc (by simp; omega) _) _).setCell (by simp; omega) _).setCell (by simp; omega) _).setCell (by simp; omega) _).setCell (by simp; omega) _).setCell (by simp; omega) _).setCell (by simp; omega) _).setCell (by simp; omega) _).setCell (by simp; omega) _
          rintro e w' ⟨rfl, rfl⟩
          go_wp2
          refine wp_loop_rounds 5 ?_
          rw [rounds_succ]
          go_wp2
          go_quiet (fail)
          go_wp2
          rw [rounds_succ]
          go_wp2
          go_quiet (fail)
          go_wp2
          rw [rounds_succ]
          go_wp2
          go_quiet (fail)
          go_wp2
          rw [rounds_succ]
          go_wp2
          go_quiet (fail)
          go_wp2
          rw [rounds_succ]
          go_wp2
          go_ret
          refine ⟨rfl, ?_⟩
          exact below_drewN ((((((((((((below_drewN (((((Below.refl _ _).alloc (Nat.le_refl _) _).alloc (by simp) _).alloc (by simp; omega) _).alloc (by simp; omega) _) _).setCell (by simp; omega) _).setCell (by simp; omega) _).setCell (by simp; omega) _).setCell (by simp; omega) _).setCell (by simp; omega) _).setCell (by simp; omega) _).setCell (by simp; omega) _).setCell (by simp; omega) _).alloc (by simp; omega) _).alloc (by simp; omega) _)) _
end Go.Proofs.YbulkdqdaDoor
