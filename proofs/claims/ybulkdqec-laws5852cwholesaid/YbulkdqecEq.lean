import Derived.Test.YbulkdqecTools
import Derived.ChangeKeysEq
namespace Go.Proofs.Ybulkdqec
open Go.RowKit
theorem cells3 : Yba.prog.cellsOf 3 = 1 := by kernel_rfl
theorem cells26 : Yba.prog.cellsOf 26 = 3 := by kernel_rfl
theorem eq26 (w : World) (d : Nat) (src : ByteArray) (a b : Int) : (Op.equalIn (d + 2) 26 (.agg #[.string src, .int .i64 a, .int .i64 b]) (.agg #[.string src, .int .i64 a, .int .i64 b])).run Yba.prog w = .ok true w := by
  go_simp
theorem eq23 (w : World) (d : Nat) (a0 a1 a2 a3 a4 a5 : Int) : (Op.equalIn (d + 2) 23 (.agg #[.int .i64 a0, .int .i64 a1, .int .i64 a2, .int .i64 a3, .int .i64 a4, .int .i64 a5]) (.agg #[.int .i64 a0, .int .i64 a1, .int .i64 a2, .int .i64 a3, .int .i64 a4, .int .i64 a5])).run Yba.prog w = .ok true w := by
  obtain ⟨i, hi⟩ := info_of_underlying Yba.underlying3
  rw [run_equalIn_array w (d + 1) _ _ Yba.underlying23 hi, cells3, show List.range 6 = [0, 1, 2, 3, 4, 5] from rfl]
  clear hi
  simp only [Op.eqItems]
  go_simp
theorem eq29 (w : World) (d : Nat) (x y z u a0 a1 a2 a3 a4 a5 : Int) : (Op.equalIn (d + 3) 29 (.agg #[.int .i64 x, .int .i64 y, .int .i64 a0, .int .i64 a1, .int .i64 a2, .int .i64 a3, .int .i64 a4, .int .i64 a5, .int .i64 z, .int .i64 u])
    (.agg #[.int .i64 x, .int .i64 y, .int .i64 a0, .int .i64 a1, .int .i64 a2, .int .i64 a3, .int .i64 a4, .int .i64 a5, .int .i64 z, .int .i64 u])).run Yba.prog w = .ok true w := by
  have h := fun w => eq23 w d a0 a1 a2 a3 a4 a5
  go_simp
set_option maxRecDepth 100000 in
theorem eq31 (w : World) (d : Nat) (src : ByteArray) (a0 b0 a1 b1 a2 b2 a3 b3 a4 b4 a5 b5 : Int) :
    (Op.equalIn (d + 3) 31 (.agg #[.string src, .int .i64 a0, .int .i64 b0, .string src, .int .i64 a1, .int .i64 b1, .string src, .int .i64 a2, .int .i64 b2, .string src, .int .i64 a3, .int .i64 b3, .string src, .int .i64 a4, .int .i64 b4, .string src, .int .i64 a5, .int .i64 b5])
      (.agg #[.string src, .int .i64 a0, .int .i64 b0, .string src, .int .i64 a1, .int .i64 b1, .string src, .int .i64 a2, .int .i64 b2, .string src, .int .i64 a3, .int .i64 b3, .string src, .int .i64 a4, .int .i64 b4, .string src, .int .i64 a5, .int .i64 b5])).run Yba.prog w = .ok true w := by
  obtain ⟨i, hi⟩ := info_of_underlying Yba.underlying26
  rw [run_equalIn_array w (d + 2) _ _ Yba.underlying31 hi, cells26, show List.range 6 = [0, 1, 2, 3, 4, 5] from rfl]
  clear hi
  have h := fun w a b => eq26 w d src a b
  simp only [Op.eqItems]
  go_simp
theorem neq29 (w : World) (first last nsec digits : Int) {l : List Int} (hl : l.length = 6) : (binOp .neq 29 (.agg (wCells first last l nsec digits)) (.agg (wCells first last l nsec digits))).run Yba.prog w = .ok (.bool false) w := by
  match l, hl with
  | [a0, a1, a2, a3, a4, a5], _ =>
    rw [run_neq_struct]
    have := eq29 w 9997 first last nsec digits a0 a1 a2 a3 a4 a5
    rw [show wCells first last [a0, a1, a2, a3, a4, a5] nsec digits = #[.int .i64 first, .int .i64 last, .int .i64 a0, .int .i64 a1, .int .i64 a2, .int .i64 a3, .int .i64 a4, .int .i64 a5, .int .i64 nsec, .int .i64 digits] from rfl, this]
    rfl
theorem neq31 (w : World) (src : ByteArray) {l : List (Int × Int)} (hl : l.length = 6) : (binOp .neq 31 (.agg (aCells src l)) (.agg (aCells src l))).run Yba.prog w = .ok (.bool false) w := by
  match l, hl with
  | [(a0, b0), (a1, b1), (a2, b2), (a3, b3), (a4, b4), (a5, b5)], _ =>
    rw [run_neq_struct]
    have := eq31 w 9997 src a0 b0 a1 b1 a2 b2 a3 b3 a4 b4 a5 b5
    rw [show aCells src [(a0, b0), (a1, b1), (a2, b2), (a3, b3), (a4, b4), (a5, b5)] = #[.string src, .int .i64 a0, .int .i64 b0, .string src, .int .i64 a1, .int .i64 b1, .string src, .int .i64 a2, .int .i64 b2, .string src, .int .i64 a3, .int .i64 b3, .string src, .int .i64 a4, .int .i64 b4, .string src, .int .i64 a5, .int .i64 b5] from rfl, this]
    rfl
/-- a whole row loaded by a guarded operation that is wanted -/
theorem wpList_load_row_want {P : Program} {ops : Array Oper} {rest : List Oper} {o : Oper} {a : Act} {w : World} {Q : Exit → Act → World → Prop} (hw : Region.wanted o (yielded ops a.tmps) = true) (ty : TypeId) (x : Operand) (ho : o.op = .load ty x)
    (g : Nat) (hx : a.eval x = .pointer (some ⟨g, 0, none⟩)) (t : TypeId) (cs : Array Value) (fr : Nat × Nat) (d : TypeDesc) (hg : w.heap[g]? = some (.cells cs t fr))
    (hu : P.underlying ty = some d) (hd : (match d with | .struct _ | .array _ _ => true | _ => false) = true) (hi : (P.info? ty).map (·.size) = some cs.size)
    (h : wpList P ops Q rest (a.put o.dst (.agg cs)) w) : wpList P ops Q (o :: rest) a w :=
  wpList_step fun K hK => by rw [if_pos hw]; exact wp_load_row ty x ho g hx t cs fr d hg hu hd hi (hK _ _ h)
end Go.Proofs.Ybulkdqec
