import Derived.Test.YbulkdqeqDoorBuf
namespace Go.Proofs.YbulkdqeqDoor
open Go.RowKit

theorem room_row (w : World) (tx ty : TypeId) (i : TypeInfo) (hi : Ybad.prog.info? 5 = some i) (g sLen sCap : Nat) (cur : Array Value) (hg : w.heap[g]? = some (.cells cur 5 (0, 0))) (x : Value) (n : Nat) (news : List Value)
    (hs : Src Ybad.prog i.size tx x n news w) (hroom : sLen + n ≤ sCap) (hfit : sLen * i.size + news.length ≤ cur.size) :
    (Builtin.append_ #[22, tx] ty #[.slice (some ⟨g, 0, none⟩) sLen sCap, x]).run Ybad.prog w = .ok (.slice (some ⟨g, 0, none⟩) (sLen + n) sCap) (w.setRow g (cur.toList.take (sLen * i.size) ++ news ++ cur.toList.drop (sLen * i.size + news.length)).toArray) := by
  have hst := run_storeCells_at Ybad.prog g (sLen * i.size) 5 news 0 cur w hg (by simpa using hfit) hs.one
  simp only [Nat.add_zero] at hst
  rcases hs.kind with ⟨e', hk⟩ | hk <;> simp [Builtin.append_, run_underlying Ybad.underlying22, run_underlying hk, sizeOf, typeInfo, hi, hs.len, hroom, hs.cells, Addr.add_lit, hst]

theorem grown_buf (w : World) (zs : List UInt8) (old : Nat) (hb : zs.length ≤ maxLen) :
    Buf (w.drew.alloc (.cells ((bvs zs).toArray ++ Builtin.zeroCells #[.int .u8 0] (grownCap w zs.length old 5 - zs.length)) 5)) w.heap.size (grownCap w zs.length old 5) zs := by
  have hge := grownCap_ge w zs.length old 5
  refine ⟨⟨_, heap_alloc_new w.drew _, ?_, ?_⟩, hge, grownCap_le_maxLen w _ _ _ hb⟩
  · simp only [Array.size_append, List.size_toArray, size_zeroCells, bvs_length]
    simp
    omega
  · rw [Array.toList_append, List.toList_toArray, List.take_append_of_le_length (by rw [bvs_length]; exact Nat.le_refl _), List.take_of_length_le (by rw [bvs_length]; exact Nat.le_refl _)]

/-- append to a slice of one's own -/
theorem append_buf (w : World) (ty tx : TypeId) (g cap : Nat) (xs ys : List UInt8) (x : Value) (hB : Buf w g cap xs) (hs : SrcB tx x ys w) (hb : xs.length + ys.length ≤ 140737488355328) :
    ∃ g' cap' w', (Builtin.append_ #[22, tx] ty #[.slice (some ⟨g, 0, none⟩) xs.length cap, x]).run Ybad.prog w = .ok (.slice (some ⟨g', 0, none⟩) (xs ++ ys).length cap') w' ∧ Buf w' g' cap' (xs ++ ys) ∧ Step w w' g g' := by
  obtain ⟨i, hi, hzz⟩ := Option.map_eq_some_iff.1 info5
  simp only [Prod.mk.injEq] at hzz
  obtain ⟨hz, hsz, hby⟩ := hzz
  have hlt := hB.lt
  obtain ⟨cur, hg, hcs, htk⟩ := hB.row
  have hle := hB.le
  have hmx := hB.max
  have hs' : Src Ybad.prog i.size tx x ys.length (bvs ys) w := by rw [hsz]; exact hs
  by_cases hroom : xs.length + ys.length ≤ cap
  · have hr := room_row w tx ty i hi g xs.length cap cur hg x ys.length (bvs ys) hs' hroom (by rw [hsz, bvs_length]; omega)
    rw [List.length_append]
    refine ⟨g, cap, _, hr, ⟨⟨_, setRow_heap w g cur _ 5 _ hg, ?_, ?_⟩, by rw [List.length_append]; exact hroom, hmx⟩, ⟨rfl, rfl, rfl, by simp, .inl rfl, fun k _ hk => setRow_other w g k _ hk⟩⟩
    · simp only [List.size_toArray, List.length_append, List.length_take, List.length_drop, Array.length_toList, bvs_length, hsz]
      omega
    · simp only [hsz, Nat.mul_one, htk]
      rw [List.append_assoc, bvs_append, ← List.append_assoc, List.take_append_of_le_length (by simp [bvs_length]), List.take_of_length_le (by simp [bvs_length])]
  · have hcell : ∀ j u, (bvs xs)[j]? = some u → w.drew.cell? ((⟨g, 0, none⟩ : Addr).add j) = some u := fun j u hu => by
      have hj : j < xs.length := by
        have := (List.getElem?_eq_some_iff.1 hu).1
        rwa [bvs_length] at this
      have e : (⟨g, 0, none⟩ : Addr).add j = ⟨g, j, none⟩ := by unfold Addr.add; split <;> simp_all
      rw [e]
      have := hB.drew.cell hj
      rw [this]
      simp [bvs, hj] at hu
      rw [hu]
    have hold := run_firstCells_some (P := Ybad.prog) w.drew i.size xs.length ⟨g, 0, none⟩ xs.length cap (bvs xs) (by rw [bvs_length, hsz, Nat.mul_one]) hcell
    have hr := run_append_grow_src (P := Ybad.prog) w 22 tx ty 5 i (.int .u8 0) Ybad.underlying22 hi hz (some ⟨g, 0, none⟩) xs.length cap (bvs xs) hold x ys.length (bvs ys) hs' (by omega) (by omega) (by rw [hby]; exact grow_fits hb (by omega))
    rw [← bvs_append] at hr
    rw [← List.length_append] at hr
    exact ⟨w.heap.size, _, _, hr, grown_buf w (xs ++ ys) cap (by rw [List.length_append]; simp only [maxLen]; omega), ⟨rfl, rfl, rfl, by simp, .inr (Nat.le_refl _), fun k hk _ => Below.heap_alloc w.drew _ k hk⟩⟩

/-- append to a slice that has no room: a new row. -/
theorem append_full (w : World) (ty tx : TypeId) (ao : Option Addr) (xs ys : List UInt8) (x : Value) (hx : (Builtin.firstCells 1 xs.length (.slice ao xs.length xs.length)).run Ybad.prog w.drew = .ok (bvs xs).toArray w.drew) (hs : SrcB tx x ys w) (hy : 0 < ys.length) (hb : xs.length + ys.length ≤ 140737488355328) :
    ∃ g' cap' w', (Builtin.append_ #[22, tx] ty #[.slice ao xs.length xs.length, x]).run Ybad.prog w = .ok (.slice (some ⟨g', 0, none⟩) (xs ++ ys).length cap') w' ∧ Buf w' g' cap' (xs ++ ys) ∧ w.heap.size ≤ g' ∧ Below w.heap.size w w' := by
  obtain ⟨i, hi, hzz⟩ := Option.map_eq_some_iff.1 info5
  simp only [Prod.mk.injEq] at hzz
  obtain ⟨hz, hsz, hby⟩ := hzz
  have hs' : Src Ybad.prog i.size tx x ys.length (bvs ys) w := by rw [hsz]; exact hs
  have hr := run_append_grow_src (P := Ybad.prog) w 22 tx ty 5 i (.int .u8 0) Ybad.underlying22 hi hz ao xs.length xs.length (bvs xs) (by rw [hsz]; exact hx) x ys.length (bvs ys) hs' (by omega) (by omega) (by rw [hby]; exact grow_fits hb (by omega))
  rw [← bvs_append] at hr
  rw [← List.length_append] at hr
  exact ⟨w.heap.size, _, _, hr, grown_buf w (xs ++ ys) xs.length (by rw [List.length_append]; simp only [maxLen]; omega), Nat.le_refl _, ⟨rfl, rfl, rfl, by simp, fun k hk => Below.heap_alloc w.drew _ k hk⟩⟩

/-! ### as the walk meets them -/
theorem wp_append_buf {o : Oper} {a : Act} {w : World} {K : Act → World → Prop} {Q : Exit → Act → World → Prop} (s x : Operand) (tx : TypeId)
    (ho : o.op = .call { callee := .builtin .append, args := #[s, x], argTypes := #[22, tx] }) (g cap : Nat) (xs ys : List UInt8) (n : Nat) (hn : n = xs.length) (hsv : a.eval s = .slice (some ⟨g, 0, none⟩) n cap)
    (hB : Buf w g cap xs) (hs : SrcB tx (a.eval x) ys w) (hb : xs.length + ys.length ≤ 140737488355328)
    (h : ∀ g' cap' w', Buf w' g' cap' (xs ++ ys) → Step w w' g g' → K (a.put o.dst (.slice (some ⟨g', 0, none⟩) (xs ++ ys).length cap')) w') : o.wp Ybad.prog a w K Q := by
  subst hn
  obtain ⟨g', cap', w', hr, h2, h3⟩ := append_buf w o.type tx g cap xs ys (a.eval x) hB hs hb
  unfold Oper.wp execOp
  simp only [ho, resolve, invoke, builtin, Sem.run_bind, Sem.run_pure, Result.andThen_ok, List.map_toArray, List.map_cons, List.map_nil, hsv, hr]
  exact h g' cap' w' h2 h3
theorem wpList_append_buf {ops : Array Oper} {rest : List Oper} {o : Oper} {a : Act} {w : World} {Q : Exit → Act → World → Prop} (hgd : o.guard = none) (s x : Operand) (tx : TypeId)
    (ho : o.op = .call { callee := .builtin .append, args := #[s, x], argTypes := #[22, tx] }) (g cap : Nat) (xs ys : List UInt8) (n : Nat) (hn : n = xs.length) (hsv : a.eval s = .slice (some ⟨g, 0, none⟩) n cap)
    (hB : Buf w g cap xs) (hs : SrcB tx (a.eval x) ys w) (hb : xs.length + ys.length ≤ 140737488355328)
    (h : ∀ g' cap' w', Buf w' g' cap' (xs ++ ys) → Step w w' g g' → wpList Ybad.prog ops Q rest (a.put o.dst (.slice (some ⟨g', 0, none⟩) (xs ++ ys).length cap')) w') : wpList Ybad.prog ops Q (o :: rest) a w :=
  wpList_plain hgd fun _ hK => wp_append_buf s x tx ho g cap xs ys n hn hsv hB hs hb fun g' cap' w' h2 h3 => hK _ _ (h g' cap' w' h2 h3)

/-- how an append function ends: a slice that holds zs, its row where it was or new -/
def AP (w : World) (g : Nat) (zs : List UInt8) (e : Ending) (w' : World) : Prop :=
  ∃ g' n' cap', Hid (n' = zs.length) ∧ e = .returned (.slice (some ⟨g', 0, none⟩) n' cap') ∧ Hid (Buf w' g' cap' zs) ∧ Hid (Step w w' g g')
theorem wpList_ap {ops : Array Oper} {rest : List Oper} {o : Oper} {a : Act} {w : World} {Q : Exit → Act → World → Prop} (hgd : o.guard = none) (s x : Operand) (tx : TypeId)
    (ho : o.op = .call { callee := .builtin .append, args := #[s, x], argTypes := #[22, tx] }) (g cap : Nat) (xs ys : List UInt8) (n : Nat) (hn : n = xs.length) (hsv : a.eval s = .slice (some ⟨g, 0, none⟩) n cap)
    (hB : Buf w g cap xs) (hs : SrcB tx (a.eval x) ys w) (hb : xs.length + ys.length ≤ 140737488355328)
    (h : ∀ g' n' cap' w', Hid (n' = (xs ++ ys).length) → Hid (Buf w' g' cap' (xs ++ ys)) → Hid (Step w w' g g') → wpList Ybad.prog ops Q rest (a.put o.dst (.slice (some ⟨g', 0, none⟩) n' cap')) w') : wpList Ybad.prog ops Q (o :: rest) a w :=
  wpList_append_buf hgd s x tx ho g cap xs ys n hn hsv hB hs hb fun g' cap' w' h2 h3 => h g' _ cap' w' rfl h2 h3
end Go.Proofs.YbulkdqeqDoor
