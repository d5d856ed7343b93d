import Derived.Test.YbulkdqecEq
import Derived.Deep.QuietTactic
import Derived.BigQuiet
namespace Go.Proofs.Ybulkdqec
open Go.RowKit

theorem info9 : (Yba.prog.info? 9).map (fun i => (i.zero, i.size, i.bytes)) = some (some (.string ⟨#[]⟩), 1, 16) := by kernel_rfl
theorem info5 : (Yba.prog.info? 5).map (fun i => (i.zero, i.size, i.bytes)) = some (some (.int .u8 0), 1, 1) := by kernel_rfl

set_option maxRecDepth 100000 in
set_option maxHeartbeats 2000000 in
theorem law_any (src : ByteArray) (off pos : Int) (a : Option Addr) (len cap : Nat) (sel first last i0 i1 i2 i3 i4 i5 nsec digits o0 o1 o2 o3 o4 o5 : Int) (b o : Nat) (ss : List ByteArray) (w : World)
    (hsel0 : 0 ≤ sel) (hsel1 : sel ≤ 255) (hlen : len ≤ maxLen) (HBB : Hid (0 < len → b < w.heap.size))
    (ha : Hid (0 < len → a = some ⟨b, o, none⟩)) (hcell : Hid (∀ i, i < len → w.cell? ⟨b, o + i, none⟩ = some (.string (ss.getD i ByteArray.empty)))) (hss : Hid (∀ i, i < len → (ss.getD i ByteArray.empty).size ≤ 140737488355328)) :
    Calls Yba.prog 3 #[.string src, .int .i64 off, .int .i64 pos, .slice a len cap, .int .u8 sel, .int .i64 first, .int .i64 last, .agg #[.int .i64 i0, .int .i64 i1, .int .i64 i2, .int .i64 i3, .int .i64 i4, .int .i64 i5],
      .int .i64 nsec, .int .i64 digits, .agg #[.int .i64 o0, .int .i64 o1, .int .i64 o2, .int .i64 o3, .int .i64 o4, .int .i64 o5]] w fun e w' => e = .returned (.bool true) ∧ Below w.heap.size w w' := by
  unfold maxLen at hlen
  go_enter Yba.func3, Yba.ntmps3
  go_upto_block 0 with fail
  go_cut [] from 43 to 57 (fun w' => w' = (w.alloc (.cells #[.int .i64 i0, .int .i64 i1, .int .i64 i2, .int .i64 i3, .int .i64 i4, .int .i64 i5] 23)).alloc (.cells #[.int .i64 o0, .int .i64 o1, .int .i64 o2, .int .i64 o3, .int .i64 o4, .int .i64 o5] 23) ∧ tot ss len ≤ 1048576)
  case first =>
    go_wp2
    go_loop [23, 24] (fun t i => ∃ k : Nat, k ≤ len ∧ i = .int .i64 k ∧ t = .int .i64 (tot ss k : Nat) ∧ tot ss k ≤ 1048576) (fun _ i => len - (intOf i).toNat)
    case atStart => exact ⟨0, Nat.zero_le _, rfl, rfl, by simp [tot]⟩
    case round =>
      obtain ⟨k, hk, rfl, rfl, ht⟩ := hrel
      by_cases hlt : k < len
      · have hb := HBB.out (by omega)
        have e := ha.out (by omega)
        subst e
        have hc := hcell.out k hlt
        have hz := hss.out k hlt
        have HT : Hid (tot ss (k + 1) = tot ss k + (ss.getD k ByteArray.empty).size) := rfl
        generalize ss.getD k ByteArray.empty = d at *
        generalize tot ss k = T at *
        have hc2 : ((w.alloc (.cells #[.int .i64 i0, .int .i64 i1, .int .i64 i2, .int .i64 i3, .int .i64 i4, .int .i64 i5] 23)).alloc (.cells #[.int .i64 o0, .int .i64 o1, .int .i64 o2, .int .i64 o3, .int .i64 o4, .int .i64 o5] 23)).cell? ⟨b, o + k, none⟩ = some (.string d) :=
          ((((Below.refl _ _).alloc (Nat.le_refl _) _).alloc (by simp) _).cell (p := ⟨b, o + k, none⟩) hb).trans hc
        by_cases hgt : T + d.size ≤ 1048576
        · go_wp2
          go_round
          case rel => exact ⟨k + 1, by omega, by go_num, by rw [HT.out]; go_num, by rw [HT.out]; omega⟩
          case measure => simp [intOf]; omega
        · go_wp2
          go_ret
          exact ⟨rfl, ((Below.refl _ _).alloc (Nat.le_refl _) _).alloc (by simp) _⟩
      · obtain rfl : k = len := by omega
        go_wp2
        go_meet
        case rel => exact ⟨rfl, ht⟩
  case rest =>
    obtain ⟨rfl, ht⟩ := hcut
    obtain ⟨fr, hfr⟩ : ∃ fr : Nat, (fr : Int) = sel % 6 := ⟨(sel % 6).toNat, by omega⟩
    have hfr6 : fr < 6 := by omega
    have HSR : Hid (sel % 6 = (fr : Int)) := hfr.symm
    obtain ⟨n, hn1, hn2, hn3⟩ : ∃ n : Nat, n ≤ len ∧ fr + n ≤ 6 ∧ (n = len ∨ (fr + n = 6 ∧ n < len)) := by
      rcases Nat.lt_or_ge (6 - fr) len with h | h
      · exact ⟨6 - fr, by omega, by omega, by omega⟩
      · exact ⟨len, by omega, by omega, by omega⟩
    go_upto_if 66 with fail
    go_cut [25, 26] from 58 to 68 (fun u v w' => u = .int .i64 fr ∧ v = .int .i64 n ∧ Hid (Base i0 i1 i2 i3 i4 i5 o0 o1 o2 o3 o4 o5 w w'))
    case first =>
      rcases hn3 with h | ⟨h, h'⟩
      · subst h
        go_wp2
        go_meet
        case rel => exact ⟨by rw [HSR.out], rfl, Base.mk' ..⟩
      · have hsr : sel % 6 = (fr : Int) := HSR.out
        clear hfr
        go_wp2
        go_meet
        case rel => exact ⟨by first | rfl | rw [HSR.out], by go_num, Base.mk' ..⟩
    case rest =>
      obtain ⟨rfl, rfl, HB⟩ := hcut
      clear hn3 HSR hsel0 hsel1 hfr
      have hmk : ∀ w : World, (Instr.makeSlice 22 (.int .i64 (n : Int)) (.int .i64 (n : Int))).run Yba.prog w = .ok (.slice (some ⟨w.heap.size, 0, none⟩) n n) (w.alloc (.cells (strCells (dd ss) n 0) 9)) := by
        intro w
        have := run_make_row' (P := Yba.prog) 22 9 (.string ⟨#[]⟩) 16 Yba.underlying22 info9 rfl .i64 .i64 n (by omega) (by omega) w
        rw [strCells_made (dd ss)] at this
        exact this
      go_upto_block 2 with fail
      go_cut [] from 69 to 112 (fun w' => Hid (Two wc (dd ss) n n w'))
      case first =>
        clear hmk
        go_wp2
        go_loopw [29] (fun i w' => ∃ k : Nat, k ≤ n ∧ i = .int .i64 k ∧ Hid (Two wc (dd ss) n k w')) (fun i _ => n - (intOf i).toNat)
        case atStart => exact ⟨0, Nat.zero_le _, rfl, Two.start wc (dd ss) n⟩
        case round =>
          obtain ⟨k, hk, rfl, T2⟩ := hrel
          by_cases hlt : k < n
          · have hb := HBB.out (by omega)
            have e := ha.out (by omega)
            subst e
            have hc : wr.cell? ⟨b, o + k, none⟩ = some (.string (ss.getD k ByteArray.empty)) := by
              rw [← hcell.out k (by omega)]
              exact ((T2.out.bel.cell (p := ⟨b, o + k, none⟩) (by have := HB.out.size; show b < _; omega)).trans (HB.out.bel.cell (p := ⟨b, o + k, none⟩) hb))
            have hdd : Hid (dd ss k = digs (ss.getD k ByteArray.empty)) := rfl
            have hsz : (ss.getD k ByteArray.empty).size ≤ 1048576 := Nat.le_trans (tot_le ss (show k < len by omega)) ht
            generalize ss.getD k ByteArray.empty = d at *
            have hmk : ∀ w : World, (Instr.makeSlice 24 (.int .i64 (d.size : Int)) (.int .i64 (d.size : Int))).run Yba.prog w = .ok (.slice (some ⟨w.heap.size, 0, none⟩) d.size d.size) (w.alloc (.cells (byteCells d 0) 5)) := by
              intro w
              have := run_make_row' (P := Yba.prog) 24 5 (.int .u8 0) 1 Yba.underlying24 info5 rfl .i64 .i64 d.size (by omega) (by omega) w
              rw [byteCells_made] at this
              exact this
            go_wp2
            go_loopw [31] (fun i w' => ∃ j : Nat, j ≤ d.size ∧ i = .int .i64 j ∧ w' = wr.alloc (.cells (byteCells d j) 5)) (fun i _ => d.size - (intOf i).toNat)
            case atStart => exact ⟨0, Nat.zero_le _, rfl, rfl⟩
            case round =>
              obtain ⟨j, hj, rfl, rfl⟩ := hrel
              by_cases hjl : j < d.size
              · have hbc := byteCells_at d (k := j) hjl
                have hrc : (wr.alloc (.cells (byteCells d j) 5)).cell? ⟨b, o + k, none⟩ = some (.string d) := by
                  rw [← hc]
                  have h2 : b < wr.heap.size := by have := T2.out.size; have := HB.out.size; omega
                  exact ((Below.refl wr.heap.size wr).alloc (Nat.le_refl _) _).cell (p := ⟨b, o + k, none⟩) h2
                have hset := byteCells_set d hjl
                rw [if_neg (by omega)] at hbc
                have HS : Hid ((byteCells d j).setIfInBounds j (.int .u8 (48 + (d[j].toNat : Int) % 10)) = byteCells d (j + 1)) := hset
                clear hset
                go_wp2
                rw [HS.out]
                go_roundw
                case rel => exact ⟨j + 1, by omega, by go_num, rfl⟩
                case measure => simp [intOf]; omega
              · obtain rfl : j = d.size := by omega
                have hcv := conv_run (wr.alloc (.cells (byteCells d d.size) 5)) d wr.heap.size (heap_last wr _)
                have hs2 := T2.out.size
                have q1 : (wr.alloc (.cells (byteCells d d.size) 5)).heap[wc.heap.size]? = some (.cells (strCells (dd ss) n k) 9) := (Below.heap_alloc _ _ _ (by omega)).trans T2.out.h1
                have q2 : (wr.alloc (.cells (byteCells d d.size) 5)).heap[wc.heap.size + 1]? = some (.cells (strCells (dd ss) n k) 9) := (Below.heap_alloc _ _ _ (by omega)).trans T2.out.h2
                have k1 := (cell_of (i := k) q1).trans (strCells_at (dd ss) hlt)
                have k2 := (cell_of (i := k) q2).trans (strCells_at (dd ss) hlt)
                have f1 := frozen_of (i := k) q1
                have f2 := frozen_of (i := k) q2
                rw [if_neg (by omega)] at k1 k2
                clear q1 q2 hs2
                rw [← hdd.out] at hcv
                have T3 : Hid (Two wc (dd ss) n (k + 1) (((wr.alloc (.cells (byteCells d d.size) 5)).setCell ⟨wc.heap.size, k, none⟩ (.string (dd ss k))).setCell ⟨wc.heap.size + 1, k, none⟩ (.string (dd ss k)))) := T2.out.next hlt _
                clear hdd T2
                generalize dd ss k = dk at *
                go_wp2
                go_roundw
                case rel =>
                  exact ⟨k + 1, by omega, by go_num, T3⟩
                case measure => simp [intOf]; omega
          · obtain rfl : k = n := by omega
            go_wp2
            go_meet
            case rel => exact T2
      case rest =>
        have T2 : Hid (Two _ (dd ss) n n wc) := hcut
        clear hcut hmk
        obtain ⟨W2, hW2⟩ : ∃ W2, W2 = wc := ⟨_, rfl⟩
        subst hW2
        have hz1 := T2.out.size
        have hz0 := HB.out.size
        have BB : Hid (Below w.heap.size w W2) := HB.out.bel.trans (T2.out.bel.mono (by omega))
        have bi : W2.heap[w.heap.size]? = some (.cells #[.int .i64 i0, .int .i64 i1, .int .i64 i2, .int .i64 i3, .int .i64 i4, .int .i64 i5] 23) := (T2.out.bel.block _ (by omega)).trans HB.out.hi
        have bo : W2.heap[w.heap.size + 1]? = some (.cells #[.int .i64 o0, .int .i64 o1, .int .i64 o2, .int .i64 o3, .int .i64 o4, .int .i64 o5] 23) := (T2.out.bel.block _ (by omega)).trans HB.out.ho
        have hb1 : Hid (W2.heap[w.heap.size + 2]? = some (.cells (strCells (dd ss) n n) 9)) := by have := T2.out.h1; rw [hz0] at this; exact this
        have hb2 : Hid (W2.heap[w.heap.size + 3]? = some (.cells (strCells (dd ss) n n) 9)) := by have := T2.out.h2; rw [hz0] at this; exact this
        rw [hz0]
        have hsz : w.heap.size + 4 ≤ W2.heap.size := by omega
        clear T2 hz1 hz0 HB
        have ci0 : W2.cell? ⟨w.heap.size, 0, none⟩ = some (.int .i64 i0) := (cell_of (i := 0) bi).trans rfl
        have ci1 : W2.cell? ⟨w.heap.size, 1, none⟩ = some (.int .i64 i1) := (cell_of (i := 1) bi).trans rfl
        have ci2 : W2.cell? ⟨w.heap.size, 2, none⟩ = some (.int .i64 i2) := (cell_of (i := 2) bi).trans rfl
        have ci3 : W2.cell? ⟨w.heap.size, 3, none⟩ = some (.int .i64 i3) := (cell_of (i := 3) bi).trans rfl
        have ci4 : W2.cell? ⟨w.heap.size, 4, none⟩ = some (.int .i64 i4) := (cell_of (i := 4) bi).trans rfl
        have ci5 : W2.cell? ⟨w.heap.size, 5, none⟩ = some (.int .i64 i5) := (cell_of (i := 5) bi).trans rfl
        have co0 : W2.cell? ⟨w.heap.size + 1, 0, none⟩ = some (.int .i64 o0) := (cell_of (i := 0) bo).trans rfl
        have co1 : W2.cell? ⟨w.heap.size + 1, 1, none⟩ = some (.int .i64 o1) := (cell_of (i := 1) bo).trans rfl
        have co2 : W2.cell? ⟨w.heap.size + 1, 2, none⟩ = some (.int .i64 o2) := (cell_of (i := 2) bo).trans rfl
        have co3 : W2.cell? ⟨w.heap.size + 1, 3, none⟩ = some (.int .i64 o3) := (cell_of (i := 3) bo).trans rfl
        have co4 : W2.cell? ⟨w.heap.size + 1, 4, none⟩ = some (.int .i64 o4) := (cell_of (i := 4) bo).trans rfl
        have co5 : W2.cell? ⟨w.heap.size + 1, 5, none⟩ = some (.int .i64 o5) := (cell_of (i := 5) bo).trans rfl
        clear bi bo
        have hl0 : w.heap.size < W2.heap.size := by omega
        have hl1 : w.heap.size + 1 < W2.heap.size := by omega
        obtain ⟨s0, hs0⟩ : ∃ s0 : St, s0 = ⟨off, pos, last, [i0, i1, i2, i3, i4, i5], [(o0, o0), (o1, o1), (o2, o2), (o3, o3), (o4, o4), (o5, o5)]⟩ := ⟨_, rfl⟩
        have HS0 : Hid (s0 = ⟨off, pos, last, [i0, i1, i2, i3, i4, i5], [(o0, o0), (o1, o1), (o2, o2), (o3, o3), (o4, o4), (o5, o5)]⟩) := hs0
        clear hs0
        go_upto_block 6 with fail
        go_cut [] from 113 to 136 (fun w' => Hid (Three W2 (.cells (sCells src s0) 26) (.cells (wCells first s0.last s0.fl nsec digits) 29) (.cells (aCells src s0.at_) 31) w'))
        case first =>
          go_wp2
          refine wp_loop_rounds 7 ?_
          rw [rounds_succ]
          go_wp2
          go_region
          go_wp2
          rw [rounds_succ]
          go_wp2
          go_region
          go_wp2
          rw [rounds_succ]
          go_wp2
          go_region
          go_wp2
          rw [rounds_succ]
          go_wp2
          go_region
          go_wp2
          rw [rounds_succ]
          go_wp2
          go_region
          go_wp2
          rw [rounds_succ]
          go_wp2
          go_region
          go_wp2
          rw [rounds_succ]
          go_wp2
          go_meet
          case rel =>
            rw [HS0.out]
            exact Three.mk' ..
        case rest =>
          clear ci0 ci1 ci2 ci3 ci4 ci5 co0 co1 co2 co3 co4 co5
          have TH : Hid (Three W2 (.cells (sCells src s0) 26) (.cells (wCells first s0.last s0.fl nsec digits) 29) (.cells (aCells src s0.at_) 31) wc) := hcut
          clear hcut hl0 hl1
          have lf0 : s0.fl.length = 6 := by rw [HS0.out]; rfl
          have la0 : s0.at_.length = 6 := by rw [HS0.out]; rfl
          have LF : Hid (s0.fl.length = 6) := lf0
          have LA : Hid (s0.at_.length = 6) := la0
          clear lf0 la0
          have H5 : Hid (Five W2.heap.size W2 src first nsec digits s0 s0 ((wc.alloc (.cells (wCells first s0.last s0.fl nsec digits) 29)).alloc (.cells (aCells src s0.at_) 31))) := Five.start TH.out LF.out LA.out
          have zw : Hid ((Yba.prog.info? 29).map (·.size) = some (wCells first s0.last s0.fl nsec digits).size) := by show _ = _; rw [wCells_size LF.out]; exact size29
          have za : Hid ((Yba.prog.info? 31).map (·.size) = some (aCells src s0.at_).size) := by show _ = _; rw [aCells_size LA.out]; exact size31
          have nw : Hid (10 = (wCells first s0.last s0.fl nsec digits).size) := by show _ = _; rw [wCells_size LF.out]
          have na : Hid (18 = (aCells src s0.at_).size) := by show _ = _; rw [aCells_size LA.out]
          have ow : Hid ((wCells first s0.last s0.fl nsec digits).all (·.oneCell') = true) := wCells_one LF.out
          have oa : Hid ((aCells src s0.at_).all (·.oneCell') = true) := aCells_one LA.out
          have bw : Hid (wc.heap[W2.heap.size + 1]? = some (.cells (wCells first s0.last s0.fl nsec digits) 29)) := TH.out.hw
          have ba : Hid ((wc.alloc (.cells (wCells first s0.last s0.fl nsec digits) 29)).heap[W2.heap.size + 1 + 1]? = some (.cells (aCells src s0.at_) 31)) := by
            show _ = _
            rw [Below.heap_alloc _ _ _ (by have := TH.out.size; omega)]
            exact TH.out.ha
          have HZ3 : Hid (wc.heap.size = W2.heap.size + 3) := TH.out.size
          generalize wCells first s0.last s0.fl nsec digits = X29 at *
          generalize aCells src s0.at_ = X31 at *
          go_upto_region 31 with fail
          refine wp_region_lit ?_
          refine wpList_load_row rfl 29 (.tmp 33) rfl (W2.heap.size + 1) rfl 29 X29 (0, 0) _ bw.out Yba.underlying29 rfl zw.out ?_
          refine wpList_step (fun K hK => ?_)
          go_simp
          refine hK _ _ ?_
          clear hK K
          refine wpList_store_last rfl 29 (.tmp 36) (.tmp 137) rfl wc 29 _ X29 rfl rfl zw.out nw.out ow.out ?_
          refine wpList_nil ?_
          go_upto_region 32 with fail
          refine wp_region_lit ?_
          refine wpList_load_row rfl 31 (.tmp 34) rfl (W2.heap.size + 1 + 1) rfl 31 X31 (0, 0) _ ba.out Yba.underlying31 rfl za.out ?_
          refine wpList_step (fun K hK => ?_)
          go_simp
          refine hK _ _ ?_
          clear hK K
          refine wpList_store_last rfl 31 (.tmp 37) (.tmp 138) rfl (wc.alloc (.cells X29 29)) 31 _ X31 (by rw [World.size_alloc]; rfl) rfl za.out na.out oa.out ?_
          refine wpList_nil ?_
          go_upto_block 8 with fail
          have HB2 : Hid (W2.heap[w.heap.size + 2 + 1]? = some (.cells (strCells (dd ss) n n) 9)) := hb2
          clear hb2
          rw [HZ3.out]
          clear zw za nw na ow oa bw ba TH HZ3
          have hdl : w.heap.size + 2 + 1 < W2.heap.size := by omega
          clear hsz
          obtain ⟨bd, hbd⟩ : ∃ bd, w.heap.size + 2 = bd := ⟨_, rfl⟩
          rw [hbd] at hb1 HB2 hdl ⊢
          have HBD : Hid (w.heap.size + 2 = bd) := hbd
          clear hbd
          obtain ⟨M, hM⟩ : ∃ M, W2.heap.size = M := ⟨_, rfl⟩
          rw [hM] at hdl H5 ⊢
          have HM : Hid (W2.heap.size = M) := hM
          clear hM
          obtain ⟨bw, hbw⟩ : ∃ bw, M + 1 = bw := ⟨_, rfl⟩
          obtain ⟨ba, hba⟩ : ∃ ba, bw + 1 = ba := ⟨_, rfl⟩
          obtain ⟨be, hbe⟩ : ∃ be, M + 3 = be := ⟨_, rfl⟩
          obtain ⟨bq, hbq⟩ : ∃ bq, be + 1 = bq := ⟨_, rfl⟩
          rw [hbw, hba, hbe, hbq]
          have HE1 : Hid (M + 1 = bw ∧ M + 2 = ba ∧ M + 3 = be ∧ M + 4 = bq) := ⟨hbw, by omega, hbe, by omega⟩
          clear hbw hba hbe hbq
          go_cut [38, 39] from 137 to 189 (fun c p w' => Hid (Five M W2 src first nsec digits s0 (runTo fr (dsl ss n) s0 n) w') ∧ c = .int .i64 (runTo fr (dsl ss n) s0 n).off ∧ p = .int .i64 (runTo fr (dsl ss n) s0 n).pos)
          case first =>
            have hst0 : off = s0.off ∧ pos = s0.pos := by rw [HS0.out]; exact ⟨rfl, rfl⟩
            have HST : Hid (off = s0.off ∧ pos = s0.pos) := hst0
            clear hst0
            go_wp2
            go_loopw [38, 39, 40] (fun c p i w' => ∃ k : Nat, k ≤ n ∧ i = .int .i64 k ∧ c = .int .i64 (runTo fr (dsl ss n) s0 k).off ∧ p = .int .i64 (runTo fr (dsl ss n) s0 k).pos ∧ Hid (Five M W2 src first nsec digits s0 (runTo fr (dsl ss n) s0 k) w')) (fun _ _ i _ => n - (intOf i).toNat)
            case atStart => exact ⟨0, Nat.zero_le _, rfl, by rw [HST.out.1]; rfl, by rw [HST.out.2]; rfl, H5⟩
            case round =>
              obtain ⟨k, hk, rfl, rfl, rfl, F5⟩ := hrel
              by_cases hlt : k < n
              · have hn0 : Hid (runTo fr (dsl ss n) s0 (k + 1) = St.step fr k (dd ss k) (runTo fr (dsl ss n) s0 k)) := by
                  show St.step fr k ((dsl ss n).getD k ByteArray.empty) _ = _
                  rw [dsl_at ss hlt]
                have hcd : wr.cell? ⟨bd, k, none⟩ = some (.string (dd ss k)) := by
                  rw [(F5.out.bel.cell (p := ⟨bd, k, none⟩) (show bd < M by omega)), cell_of hb1.out, strCells_at (dd ss) hlt, if_pos hlt]
                have DG : Hid (Digits (dd ss k)) := digs_digits _
                have dsz : (dd ss k).size ≤ 1048576 := by
                  show (digs _).size ≤ _
                  rw [digs_size]
                  exact Nat.le_trans (tot_le ss (show k < len by omega)) ht
                have HCD : Hid (∀ w', Below M W2 w' → w'.cell? ⟨bd, k, none⟩ = some (.string (dd ss k))) := fun w' hb' => by
                  rw [(hb'.cell (p := ⟨bd, k, none⟩) (show bd < M by omega)), cell_of hb1.out, strCells_at (dd ss) hlt, if_pos hlt]
                generalize dd ss k = d at *
                generalize runTo fr (dsl ss n) s0 k = s at *
                go_upto_if 147 with fail
                go_cut [38, 39] from 141 to 189 (fun c p w' => c = .int .i64 (s.lead k).off ∧ p = .int .i64 (s.lead k).pos ∧ Hid (Five M W2 src first nsec digits s0 (s.lead k) w'))
                case first =>
                  by_cases h0 : k = 0
                  · subst h0
                    go_wp2
                    go_meet
                    case rel => exact ⟨rfl, rfl, F5.out.lead 0⟩
                  · have hpos : 0 < k := by omega
                    have hld := St.lead_pos s h0
                    have HLD : Hid (s.lead k = s.hop 1) := hld
                    clear hld
                    go_wp2
                    go_meet
                    case rel =>
                      rw [HLD.out]
                      exact ⟨rfl, rfl, F5.out.hop 1⟩
                case rest =>
                  clear F5 hcd
                  obtain ⟨rfl, rfl, F5⟩ := hcut
                  have hcd := HCD.out _ F5.out.bel
                  by_cases hsz : d.size = 0
                  · have hde : d = ⟨#[]⟩ := by
                      obtain ⟨⟨l⟩⟩ := d
                      simp [ByteArray.size] at hsz
                      subst hsz; rfl
                    subst hde
                    go_wp2
                    go_roundw
                    case rel =>
                      refine ⟨k + 1, by omega, by go_num, ?_, ?_, ?_⟩
                      · rw [hn0.out]; rfl
                      · rw [hn0.out]; rfl
                      · rw [hn0.out]; exact F5
                    case measure => simp [intOf]; omega
                  · have hemp : d.toList.isEmpty = false := by
                      have : d.toList.length = d.size := by rw [ByteArray.toList_eq]; rfl
                      cases h : d.toList with
                      | nil => rw [h] at this; simp at this; omega
                      | cons _ _ => rfl
                    obtain ⟨f, hf⟩ : ∃ f : Nat, f = fr + k := ⟨_, rfl⟩
                    have hf6 : f < 6 := by omega
                    have hff : (fr : Int) + (k : Int) = (f : Int) := by omega
                    have HF : Hid (f = fr + k) := hf
                    clear hf
                    have hn1 : Hid (runTo fr (dsl ss n) s0 (k + 1) = ((s.lead k).put f d).hop d.size) := by
                      show _ = _
                      rw [hn0.out, HF.out]
                      unfold St.step
                      rw [if_neg hsz]
                    clear hn0
                    generalize s.lead k = s1 at *
                    obtain ⟨v0, ca0⟩ := aCells_at (src := src) F5.out.la hf6 0 (by omega)
                    obtain ⟨v1, ca1⟩ := aCells_at (src := src) F5.out.la hf6 1 (by omega)
                    obtain ⟨v2, ca2⟩ := aCells_at (src := src) F5.out.la hf6 2 (by omega)
                    have hq : wc.heap[bq]? = some (.cells (aCells src s1.at_) 31) := by rw [← HE1.out.2.2.2]; exact F5.out.hq
                    have ca0' := (cell_of (i := f * 3 + 0) hq).trans ca0
                    have ca1' := (cell_of (i := f * 3 + 1) hq).trans ca1
                    have ca2' := (cell_of (i := f * 3 + 2) hq).trans ca2
                    have fa : ∀ i, wc.frozen? ⟨bq, i, none⟩ = false := fun i => frozen_of hq
                    have HQ : Hid (wc.heap[bq]? = some (.cells (aCells src s1.at_) 31)) := hq
                    clear ca0 ca1 ca2 hq
                    rw [Nat.add_zero] at ca0'
                    go_upto_region 42 with fail
                    go_cut [] from 160 to 165 (fun w' => Hid (Five M W2 src first nsec digits s0 (s1.mark f) w'))
                    case first =>
                      go_wp2
                      go_meet
                      case rel =>
                        have hO := Only.set3' HQ.out (f * 3) (f * 3 + 1) (f * 3 + 2) (.string src) (.int .i64 s1.off) (.int .i64 s1.pos)
                        rw [aCells_set F5.out.la hf6, ← HE1.out.2.2.2] at hO
                        rw [← HE1.out.2.2.2]
                        exact F5.out.mark f hO
                    case rest =>
                      clear ca0' ca1' ca2' fa HQ F5 hcd hemp
                      have F5 : Hid (Five M W2 src first nsec digits s0 (s1.mark f) wc) := hcut
                      clear hcut
                      have hcd := HCD.out _ F5.out.bel
                      have he : wc.heap[be]? = some (.cells (wCells first (s1.mark f).last (s1.mark f).fl nsec digits) 29) := by rw [← HE1.out.2.2.1]; exact F5.out.he
                      obtain ⟨v0, cw0⟩ := wCells_at (first := first) (last := (s1.mark f).last) (nsec := nsec) (digits := digits) F5.out.lf hf6
                      have cw0' := (cell_of (i := 2 + f) he).trans cw0
                      have cw1' : wc.cell? ⟨be, 1, none⟩ = some (.int .i64 (s1.mark f).last) := (cell_of (i := 1) he).trans rfl
                      have fw : ∀ i, wc.frozen? ⟨be, i, none⟩ = false := fun i => frozen_of he
                      have HE : Hid (wc.heap[be]? = some (.cells (wCells first (s1.mark f).last (s1.mark f).fl nsec digits) 29)) := he
                      clear cw0 he
                      have hne1 : ¬ bd = be := by have := HE1.out.2.2.1; omega
                      have hne2 : ¬ be = bd := by have := HE1.out.2.2.1; omega
                      go_wp2_with (go_at_call 4; refine (val_any d _ dsz DG).mono ?_; rintro e w' ⟨rfl, rfl⟩)
                      go_roundw
                      case rel =>
                        have hO := Only.set2 HE.out (2 + f) 1 (.int .i64 (val d.data.toList)) (.int .i64 f)
                        rw [wCells_set F5.out.lf hf6, ← HE1.out.2.2.1] at hO
                        rw [← HE1.out.2.2.1]
                        refine ⟨k + 1, by omega, by go_num, ?_, ?_, ?_⟩
                        · rw [hn1.out]; rfl
                        · rw [hn1.out]; rfl
                        · rw [hn1.out]; exact (F5.out.write f d hO).hop d.size
                      case measure => simp [intOf]; omega
              · obtain rfl : k = n := by omega
                go_wp2
                go_meet
                case rel => exact ⟨F5, rfl, rfl⟩
          case rest =>
            clear H5
            obtain ⟨H5, rfl, rfl⟩ := hcut
            go_wp2_with fail
            have D1 : Hid (∀ i, i < n → Digits ((dsl ss n).getD i ByteArray.empty) ∧ ((dsl ss n).getD i ByteArray.empty).size ≤ 1048576) := fun i hi => by
              rw [dsl_at ss hi]
              refine ⟨digs_digits _, ?_⟩
              show (digs _).size ≤ _
              rw [digs_size]
              exact Nat.le_trans (tot_le ss (show i < len by omega)) ht
            have hz5 := H5.out.size
            obtain ⟨e1, e2, e3, e4⟩ := HE1.out
            have Hh : Has wc M bw ba src first nsec digits s0 := by
              rw [← e1, ← e2]
              exact ⟨H5.out.hs, H5.out.hw, H5.out.ha, LF.out, LA.out⟩
            refine (fields_any M bw ba bd n src first nsec digits s0 fr (dsl ss n) _ hn2 D1 (show _ ∧ _ from by refine ⟨?_, ?_, ?_, ?_, ?_, ?_, ?_, ?_, ?_, ?_⟩ <;> omega)
              (fun i hi => by rw [dsl_at ss hi, (H5.out.bel.cell (p := ⟨bd, i, none⟩) (show bd < M by omega)), cell_of hb1.out, strCells_at (dd ss) hi, if_pos hi]) Hh).mono ?_
            rintro e w6 ⟨rfl, H6, K6⟩
            have G1 : Hid (w6.heap[be]? = some (.cells (wCells first (runTo fr (dsl ss n) s0 n).last (runTo fr (dsl ss n) s0 n).fl nsec digits) 29)) := by
              show _ = _
              rw [K6.block be (by omega) (by omega) (by omega) (by omega), ← e3]; exact H5.out.he
            have G2 : Hid (w6.heap[bq]? = some (.cells (aCells src (runTo fr (dsl ss n) s0 n).at_) 31)) := by
              show _ = _
              rw [K6.block bq (by omega) (by omega) (by omega) (by omega), ← e4]; exact H5.out.hq
            have G3 : Hid (w6.heap[bd]? = some (.cells (strCells (dd ss) n n) 9)) := by
              show _ = _
              rw [K6.block bd (by omega) (by omega) (by omega) (by omega), H5.out.bel.block bd (by omega)]; exact hb1
            have G4 : Hid (w6.heap[bd + 1]? = some (.cells (strCells (dd ss) n n) 9)) := by
              show _ = _
              rw [K6.block (bd + 1) (by omega) (by omega) (by omega) (by omega), H5.out.bel.block (bd + 1) (by omega)]; exact HB2
            have B6 : Hid (Below w.heap.size w w6) := by
              have q1 := HBD.out
              have q2 := HM.out
              refine (BB.out.trans (H5.out.bel.mono (by omega))).trans ⟨K6.os, K6.tape, K6.output, K6.size, fun k hk => K6.block k (by omega) (by omega) (by omega) (by omega)⟩
            have G5 : Hid (Has w6 M bw ba src first nsec digits (runTo fr (dsl ss n) s0 n)) := H6
            clear H6 K6 H5 Hh hz5 e1 e2 e3 e4 D1 HB2 hb1 BB HE1 LF LA HS0 hdl
            generalize runTo fr (dsl ss n) s0 n = st at *
            have s0c : w6.cell? ⟨M, 0, none⟩ = some (.string src) := (cell_of (i := 0) G5.out.hs).trans rfl
            have s1c : w6.cell? ⟨M, 1, none⟩ = some (.int .i64 st.off) := (cell_of (i := 1) G5.out.hs).trans rfl
            have s2c : w6.cell? ⟨M, 2, none⟩ = some (.int .i64 st.pos) := (cell_of (i := 2) G5.out.hs).trans rfl
            have zw : Hid ((Yba.prog.info? 29).map (·.size) = some (wCells first st.last st.fl nsec digits).size) := by show _ = _; rw [wCells_size G5.out.lf]; exact size29
            have za : Hid ((Yba.prog.info? 31).map (·.size) = some (aCells src st.at_).size) := by show _ = _; rw [aCells_size G5.out.la]; exact size31
            have e29 := fun w => neq29 w first st.last nsec digits G5.out.lf
            have e31 := fun w => neq31 w src G5.out.la
            have b1 : Hid (w6.heap[bw]? = some (.cells (wCells first st.last st.fl nsec digits) 29)) := G5.out.hw
            have b2 : Hid (w6.heap[ba]? = some (.cells (aCells src st.at_) 31)) := G5.out.ha
            generalize wCells first st.last st.fl nsec digits = X29 at *
            generalize aCells src st.at_ = X31 at *
            go_upto_region 50 with fail
            refine wp_region_lit ?_
            refine wpList_load_row rfl 29 (.tmp 33) rfl bw rfl 29 X29 (0, 0) _ b1.out Yba.underlying29 rfl zw.out ?_
            refine wpList_load_row rfl 29 (.tmp 36) rfl be rfl 29 X29 (0, 0) _ G1.out Yba.underlying29 rfl zw.out ?_
            refine wpList_step (fun K hK => ?_)
            go_simp
            refine hK _ _ ?_
            clear hK K
            refine wpList_step (fun K hK => ?_)
            go_simp
            refine hK _ _ ?_
            clear hK K
            refine wpList_load_row_want rfl 31 (.tmp 34) rfl ba rfl 31 X31 (0, 0) _ b2.out Yba.underlying31 rfl za.out ?_
            refine wpList_load_row_want rfl 31 (.tmp 37) rfl bq rfl 31 X31 (0, 0) _ G2.out Yba.underlying31 rfl za.out ?_
            refine wpList_step (fun K hK => ?_)
            go_simp
            refine hK _ _ ?_
            clear hK K
            refine wpList_step (fun K hK => ?_)
            go_simp
            refine hK _ _ ?_
            clear hK K
            refine wpList_nil ?_
            clear zw za e29 e31 b1 b2 G1 G2 s0c s1c s2c
            go_wp2
            go_loopw [42] (fun i w' => ∃ k : Nat, k ≤ n ∧ i = .int .i64 k ∧ ∃ m, w' = w6.drewN m) (fun i _ => n - (intOf i).toNat)
            case atStart => exact ⟨0, Nat.zero_le _, rfl, 0, rfl⟩
            case round =>
              obtain ⟨k, hk, rfl, m, rfl⟩ := hrel
              by_cases hlt : k < n
              · have q1 : w6.cell? ⟨bd, k, none⟩ = some (.string (dd ss k)) := by rw [cell_of G3.out, strCells_at (dd ss) hlt, if_pos hlt]
                have q2 : w6.cell? ⟨bd + 1, k, none⟩ = some (.string (dd ss k)) := by rw [cell_of G4.out, strCells_at (dd ss) hlt, if_pos hlt]
                generalize dd ss k = d at *
                go_wp2
                go_quiet (fail)
                go_wp2
                go_roundw
                case rel => exact ⟨k + 1, by omega, by go_num, _, rfl⟩
                case measure => simp [intOf]; omega
              · obtain rfl : k = n := by omega
                go_wp2
                go_ret
                exact ⟨rfl, below_drewN B6.out _⟩
end Go.Proofs.Ybulkdqec
