/-
  Seat b3784aD: the walks of 'zzs3784anames' (7) and 'zzs3784abases' (10).
-/
import Derived.Test.YbulkbzioDoorTypes
import Derived.Deep.MidRow
import Derived.Deep.WholeRow
import Derived.Laws.CopyOwn
namespace Go.Proofs.YbulkbzioDoor
open Go Go.RowKit

/-- A build, its value told. -/
theorem wpList_build_is {P : Program} {ops : Array Oper} {rest : List Oper} {o : Oper} {a : Act} {w : World} {Q : Exit → Act → World → Prop} (hg : o.guard = none) (t : TypeId) (parts : Array (Nat × Operand)) (ho : o.op = .build t parts) (cs : Array Value)
    (hf : P.built t (parts.map fun (i, x) => (i, a.eval x)).toList = some cs)
    (h : wpList P ops Q rest (a.put o.dst (.agg cs)) w) : wpList P ops Q (o :: rest) a w :=
  wpList_build hg t parts ho (by rw [hf]; rfl) (by rw [hf]; exact h)

theorem names_any (w : World) : Calls Ybad.prog 7 #[] w fun e w' => e = .returned (.agg NAMES) ∧ w' = w.alloc (.cells NAMES 23) := by
  go_enter Ybad.func7, Ybad.ntmps7
  go_wp2
  exact bodyPost_ret (v := .agg NAMES) (by simp [results, Ybad.results7, go_sem]; rfl) rfl ⟨rfl, rfl⟩

/-- The zero value of the table: ten rows of noughts. -/
def Z37 : Array Value := ((List.range 10).flatMap fun _ => (List.replicate 5 (.int .i64 0) ++ (tyc 0 ++ tyc 0 ++ tyc 0) ++ List.replicate 3 (.bool false) : List Value)).toArray
theorem zero37 (w : World) : (zeroValue 37).run Ybad.prog w = .ok (.agg Z37) w := by kernel_rfl
theorem size37 : (Ybad.prog.info? 37).map (·.size) = some BASES.size := by kernel_rfl
theorem sizeZ37 : Z37.size = BASES.size := by kernel_rfl
theorem oneB : BASES.all (·.oneCell') = true := by kernel_rfl

theorem below_new {w w1 : World} {Z : Obj} (h : Below (w.heap.size + 1) (w.alloc Z) w1) : w1.heap[w.heap.size]? = some Z :=
  (h.block w.heap.size (Nat.lt_succ_self _)).trans (heap_alloc_new w Z)
/-- The end of the walk: the result's block holds the table. -/
theorem bases_end {w w1 : World} {a : Act} (h : Below (w.heap.size + 1) (w.alloc (.cells Z37 37)) w1) (hp : a.tmps.getD 0 undef = .pointer (some ⟨w.heap.size, 0, none⟩)) (hd : a.defers = []) :
    bodyPost Ybad.prog Ybad.f10 (fun e w' => e = .returned (.agg BASES) ∧ Below w.heap.size w w') .ret a (w1.setRow w.heap.size BASES) := by
  refine bodyPost_ret (v := .agg BASES) ?_ hd ⟨rfl, ?_⟩
  · exact results_cell_row Ybad.results10 _ _ w.heap.size 37 BASES (0, 0) _ hp (setRow_heap _ _ _ _ _ _ (below_new h)) Ybad.underlying37 rfl size37
  · refine below_setRow ?_ (Nat.le_refl _) _
    exact ((Below.refl w.heap.size w).alloc (Nat.le_refl _) _).trans (h.mono (Nat.le_succ _))

set_option maxHeartbeats 1000000 in
theorem bases_any (w : World) : Calls Ybad.prog 10 #[] w fun e w' => e = .returned (.agg BASES) ∧ Below w.heap.size w w' := by
  have hz := zero37
  go_enter Ybad.func10, Ybad.ntmps10
  go_wp2_with (first | (refine wpList_build_is rfl 37 _ rfl BASES (by kernel_rfl) ?_) | (refine wpList_store_row rfl 37 _ _ rfl w.heap.size BASES rfl rfl 37 Z37 ?_ size37 sizeZ37 oneB ?_))
  · refine below_new (Z := .cells Z37 37) ?_
    repeat first | with_reducible exact Below.refl _ _ | refine Below.alloc ?_ (by simp) _
  · refine bases_end (w := w) ?_ rfl rfl
    repeat first | with_reducible exact Below.refl _ _ | refine Below.alloc ?_ (by simp) _
end Go.Proofs.YbulkbzioDoor
