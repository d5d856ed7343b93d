import Derived.Test.YbulkdqecState
import Derived.Deep.DeepCutAuto
import Derived.Deep.CutBlock
import Derived.Deep.LoopGhost
namespace Go.Proofs.Ybulkdqec
open Go.RowKit

set_option maxRecDepth 100000 in
set_option maxHeartbeats 1000000 in
theorem fields_any (bs bw ba bd n : Nat) (src : ByteArray) (first nsec digits : Int) (s0 : St) (fr : Nat) (ds : List ByteArray) (w : World) (hfr : fr + n ≤ 6)
    (hdg : Hid (∀ i, i < n → Digits (ds.getD i ByteArray.empty) ∧ (ds.getD i ByteArray.empty).size ≤ 1048576))
    (hne : Hid (bs ≠ bw ∧ bs ≠ ba ∧ bw ≠ ba ∧ bd ≠ bs ∧ bd ≠ bw ∧ bd ≠ ba ∧ bs < w.heap.size ∧ bw < w.heap.size ∧ ba < w.heap.size ∧ bd < w.heap.size))
    (hd : Hid (∀ i, i < n → w.cell? ⟨bd, i, none⟩ = some (.string (ds.getD i ByteArray.empty)))) (H : Hid (Has w bs bw ba src first nsec digits s0)) :
    Calls Yba.prog 5 #[.pointer (some ⟨bs, 0, none⟩), .pointer (some ⟨bw, 0, none⟩), .slice (some ⟨bd, 0, none⟩) n n, .pointer (some ⟨ba, 0, none⟩), .int .i64 fr] w
      fun e w' => e = .returned (.tuple #[]) ∧ Has w' bs bw ba src first nsec digits (runTo fr ds s0 n) ∧ Kept bs bw ba w w' := by
  go_enter Yba.func5, Yba.ntmps5
  go_wp2
  go_loopw [18] (fun i w' => ∃ k : Nat, k ≤ n ∧ i = .int .i64 k ∧ Hid (Has w' bs bw ba src first nsec digits (runTo fr ds s0 k)) ∧ Hid (Kept bs bw ba w w')) (fun i _ => n - (intOf i).toNat)
  case atStart => exact ⟨0, Nat.zero_le _, rfl, H, ⟨rfl, rfl, rfl, Nat.le_refl _, fun _ _ _ _ _ => rfl⟩⟩
  case round =>
    obtain ⟨k, hk, rfl, Hk, Kk⟩ := hrel
    by_cases hlt : k < n
    · have hn0 : Hid (runTo fr ds s0 (k + 1) = St.step fr k (ds.getD k ByteArray.empty) (runTo fr ds s0 k)) := rfl
      have hcd : wr.cell? ⟨bd, k, none⟩ = some (.string (ds.getD k ByteArray.empty)) := by
        have h1 := hd.out k hlt
        obtain ⟨n1, n2, n3, n4, n5, n6, n7, n8, n9, n10⟩ := hne.out
        rw [← h1]
        exact World.cell?_of_block (Kk.out.block bd n10 n4 n5 n6)
      obtain ⟨dg, dsz⟩ := hdg.out k hlt
      have DG : Hid (Digits (ds.getD k ByteArray.empty)) := dg
      clear dg hdg hd
      generalize ds.getD k ByteArray.empty = d at *
      generalize runTo fr ds s0 k = s at *
      go_upto_if 24 with fail
      go_cut [] from 19 to 64 (fun w' => Hid (Has w' bs bw ba src first nsec digits (s.lead k)) ∧ Hid (Kept bs bw ba w w'))
      case first =>
        by_cases h0 : k = 0
        · subst h0
          go_wp2
          go_meet
          case rel => exact ⟨Hk, Kk⟩
        · have hpos : 0 < k := by omega
          go_wp2_with fail
          refine (skip_only bs src s.off s.pos 1 _ Hk.out.hs).mono ?_
          rintro e w1 ⟨rfl, hO⟩
          go_wp2
          go_meet
          case rel =>
            obtain ⟨n1, n2, n3, n4, n5, n6, n7, n8, n9, n10⟩ := hne.out
            rw [St.lead_pos s h0]
            exact ⟨Hk.out.hop 1 hO n1 n2, Kk.out.only hO (Or.inl rfl)⟩
      case rest =>
        obtain ⟨Hc, Kc⟩ := hcut
        clear Hk Kk hcd
        by_cases hsz : d.size = 0
        · have hde : d = ⟨#[]⟩ := by
            obtain ⟨⟨l⟩⟩ := d
            simp [ByteArray.size] at hsz
            subst hsz; rfl
          subst hde
          go_wp2
          go_roundw
          case rel =>
            refine ⟨k + 1, by omega, by go_num, ?_, Kc⟩
            rw [hn0.out]
            exact Hc
          case measure => simp [intOf]; omega
        · have hemp : d.toList.isEmpty = false := by
            have : d.toList.length = d.size := by rw [ByteArray.toList_eq]; rfl
            cases h : d.toList with
            | nil => rw [h] at this; simp at this; omega
            | cons _ _ => rfl
          obtain ⟨f, hf⟩ : ∃ f : Nat, f = fr + k := ⟨_, rfl⟩
          have hf6 : f < 6 := by omega
          have hff : (fr : Int) + (k : Int) = (f : Int) := by omega
          have HF : Hid (f = fr + k) := hf
          clear hf
          have hn1 : Hid (runTo fr ds s0 (k + 1) = ((s.lead k).put f d).hop d.size) := by
            show _ = _
            rw [hn0.out, HF.out]
            unfold St.step
            rw [if_neg hsz]
          clear hn0
          generalize s.lead k = s1 at *
          have cs0 := cell_of (i := 0) Hc.out.hs
          have cs1 := cell_of (i := 1) Hc.out.hs
          have cs2 := cell_of (i := 2) Hc.out.hs
          simp only [sCells] at cs0 cs1 cs2
          obtain ⟨v0, ca0⟩ := aCells_at (src := src) Hc.out.la hf6 0 (by omega)
          obtain ⟨v1, ca1⟩ := aCells_at (src := src) Hc.out.la hf6 1 (by omega)
          obtain ⟨v2, ca2⟩ := aCells_at (src := src) Hc.out.la hf6 2 (by omega)
          have ca0' := (cell_of (i := f * 3 + 0) Hc.out.ha).trans ca0
          have ca1' := (cell_of (i := f * 3 + 1) Hc.out.ha).trans ca1
          have ca2' := (cell_of (i := f * 3 + 2) Hc.out.ha).trans ca2
          have fa : ∀ i, wc.frozen? ⟨ba, i, none⟩ = false := fun i => frozen_of Hc.out.ha
          clear ca0 ca1 ca2
          rw [Nat.add_zero] at ca0'
          go_wp2
          go_cut [] from 32 to 38 (fun w' => Hid (Has w' bs bw ba src first nsec digits (s1.mark f)) ∧ Hid (Kept bs bw ba w w'))
          case first =>
            go_wp2
            go_region
            go_wp2
            go_meet
            case rel =>
              obtain ⟨n1, n2, n3, n4, n5, n6, n7, n8, n9, n10⟩ := hne.out
              have hO := Only.set3 Hc.out.ha (f * 3) (f * 3 + 1) (f * 3 + 2) (.string src) (.int .i64 s1.off) (.int .i64 s1.pos)
              rw [aCells_set Hc.out.la hf6] at hO
              exact ⟨Hc.out.mark f hO n2 n3, Kc.out.only hO (Or.inr (Or.inr rfl))⟩
          case rest =>
            clear cs0 cs1 cs2 ca0' ca1' ca2' fa hemp Hc Kc
            obtain ⟨Hc, Kc⟩ := hcut
            go_wp2
            go_loopw [13] (fun v w' => ∃ pos : Nat, pos ≤ d.size ∧ w' = wc.iter d pos ∧ v = .int .i64 (val (d.data.toList.take pos))) (fun _ w' => d.size - w'.iterPos wc.heap.size)
            case atStart => exact ⟨0, Nat.zero_le _, rfl, by rw [List.take_zero, val_nil]⟩
            case round =>
              obtain ⟨pos, hpos, rfl, rfl⟩ := hrel
              by_cases hp : pos < d.size
              · obtain ⟨d1, d2⟩ := DG.out pos hp
                have hnx := fun ty => run_next_ascii (P := Yba.prog) wc d pos ty hp (by omega)
                have HV := val_snoc (d.data.toList.take pos) d[pos]
                rw [← take_snoc d pos hp] at HV
                unfold dig at HV
                have HV' : Hid (wrap64 (wrap64 (val (d.data.toList.take pos) * 10) + (↑d[pos].toNat - 48)) = val (d.data.toList.take (pos + 1))) := HV
                clear HV
                generalize val (d.data.toList.take pos) = V at *
                go_wp2
                go_roundw
                case rel => exact ⟨pos + 1, by omega, rfl, by rw [HV'.out]⟩
                case measure => simp; omega
              · obtain rfl : pos = d.size := by omega
                have hnx := fun ty => run_next_end (P := Yba.prog) wc d d.size ty hp
                obtain ⟨n1, n2, n3, n4, n5, n6, n7, n8, n9, n10⟩ := hne.out
                have hsz2 := Kc.out.size
                have Hi := Hc.out.iter d d.size (by omega) (by omega) (by omega)
                have Ki := Kc.out.iter d d.size
                obtain ⟨v0, cw0⟩ := wCells_at (first := first) (last := (s1.mark f).last) (nsec := nsec) (digits := digits) Hi.lf hf6
                have cw0' := (cell_of (i := 2 + f) Hi.hw).trans cw0
                have cw1' : (wc.iter d d.size).cell? ⟨bw, 1, none⟩ = some (.int .i64 (s1.mark f).last) := (cell_of (i := 1) Hi.hw).trans rfl
                have fw : ∀ i, (wc.iter d d.size).frozen? ⟨bw, i, none⟩ = false := fun i => frozen_of Hi.hw
                have HHi : Hid (Has (wc.iter d d.size) bs bw ba src first nsec digits (s1.mark f)) := Hi
                have HKi : Hid (Kept bs bw ba w (wc.iter d d.size)) := Ki
                have hvd : val (d.data.toList.take d.size) = val d.data.toList := by rw [List.take_of_length_le (by simp)]
                rw [hvd]
                have HN : Hid (bs ≠ bw ∧ bs ≠ ba ∧ bw ≠ ba) := ⟨n1, n2, n3⟩
                clear hvd Hi Ki cw0 hsz2 n1 n2 n3 n4 n5 n6 n7 n8 n9 n10
                go_wp2_with fail
                have hO := Only.set2 HHi.out.hw (2 + f) 1 (.int .i64 (val d.data.toList)) (.int .i64 f)
                rw [wCells_set HHi.out.lf hf6] at hO
                obtain ⟨n1, n2, n3⟩ := HN.out
                have Hw := HHi.out.write f d hO n1 n3
                have Kw := HKi.out.only hO (Or.inr (Or.inl rfl))
                refine (skip_only bs src ((s1.mark f).write f d).off ((s1.mark f).write f d).pos d.size _ Hw.hs).mono ?_
                rintro e w1 ⟨rfl, hO2⟩
                have Hz : Hid (Has w1 bs bw ba src first nsec digits (((s1.mark f).write f d).hop d.size)) := Hw.hop d.size hO2 n1 n2
                have Kz : Hid (Kept bs bw ba w w1) := Kw.only hO2 (Or.inl rfl)
                clear Hw Kw hO hO2 n1 n2 n3 HHi HKi cw0' cw1' fw hnx
                go_wp2
                go_roundw
                case rel =>
                  refine ⟨k + 1, by omega, by go_num, ?_, Kz⟩
                  rw [hn1.out]
                  exact Hz
                case measure => simp [intOf]; omega
    · obtain rfl : k = n := by omega
      go_wp2
      go_end0
      exact ⟨rfl, Hk, Kk⟩
end Go.Proofs.Ybulkdqec
