/-
  Seat b3784aD: from the row's condition ('the twelve variables read as the text lays them') to what the walks ask ('Glob'); the named variables read again behind the call; the witness.
-/
import Derived.Test.YbulkbzioDoorRows
import Derived.Test.YbulkbzioDoorSpec
import Derived.ProofKit
import Derived.LaidMore
import Derived.OpenShut
import Derived.ChangeOld
import Derived.Carry
import Derived.Stop.Joined
namespace Go.Proofs.YbulkbzioDoor
open Go Go.ChangeShapes Go.WideShapes Go.ChangeAt Go.RowKit

theorem own : ownKnob Ybad.prog.godebug = none := by kernel_rfl
theorem laidOut : laidOutB Ybad.prog = true := by kernel_rfl
theorem cells27 : Ybad.prog.cellsOf 27 = 4 := by kernel_rfl
theorem cells9 : Ybad.prog.cellsOf 9 = 1 := by kernel_rfl
theorem cells3 : Ybad.prog.cellsOf 3 = 1 := by kernel_rfl
theorem cells4 : Ybad.prog.cellsOf 4 = 1 := by kernel_rfl

/-- The list of the rows' cell 'laid', as the rows have it. -/
def laid12 : List (String × DataW Unit) := Rows.lawS3784AValidRow.laid

/-- A datum on the list is read out of its variable. -/
theorem laid_mem {P : Program} {W : World} : ∀ {l : List (String × DataW Unit)} {ps : List MemPlace}, DataW.LaidVars P W l ps → ∀ {n : String} {d : DataW Unit}, (n, d) ∈ l →
    ∃ g t cs fuel p, P.globalNamed n = some g ∧ (P.globals[g]?).map (·.type) = some t ∧ W.var? P n = some cs ∧ DataW.trod (fun _ => ()) P W 0 (fun _ => true) false fuel t cs.toList = some (d, p)
  | [], _, _, _, _, hm => absurd hm List.not_mem_nil
  | (n', d') :: r, _, h, n, d, hm => by
    obtain ⟨g, t, cs, fuel, p, q, h1, h2, h3, h4, h5, _⟩ := h
    rcases List.mem_cons.1 hm with e | e
    · cases e
      exact ⟨g, t, cs, fuel, p, h1, h2, h3, h4⟩
    · exact laid_mem h5 e

/-- The cells of a cType that reads as told. -/
theorem cty_of_trod {W : World} {fuel : Nat} {cs : List Value} {s : List UInt8} {b r : Int} {u : Bool} {p : List MemPlace}
    (h : DataW.trod (fun _ => ()) Ybad.prog W 0 (fun _ => true) false fuel 27 cs = some (.agg [.lit (.string s), .lit (.int .i64 b), .lit (.bool u), .lit (.int .i64 r)], p)) : cs = cty s b u r := by
  obtain ⟨xs, n, _, hx, hl, hlen, hf⟩ := DataW.trod_struct Ybad.underlying27 h
  rw [cells27] at hl
  match cs, hl with
  | [c0, c1, c2, c3], _ =>
    have f0 : DataW.trod (fun _ => ()) Ybad.prog W 0 (fun _ => true) false n 9 (([c0, c1, c2, c3].drop 0).take (Ybad.prog.cellsOf 9)) = xs[0]? := hf 0 _ rfl
    have f1 : DataW.trod (fun _ => ()) Ybad.prog W 0 (fun _ => true) false n 3 (([c0, c1, c2, c3].drop 1).take (Ybad.prog.cellsOf 3)) = xs[1]? := hf 1 _ rfl
    have f2 : DataW.trod (fun _ => ()) Ybad.prog W 0 (fun _ => true) false n 4 (([c0, c1, c2, c3].drop 2).take (Ybad.prog.cellsOf 4)) = xs[2]? := hf 2 _ rfl
    have f3 : DataW.trod (fun _ => ()) Ybad.prog W 0 (fun _ => true) false n 3 (([c0, c1, c2, c3].drop 3).take (Ybad.prog.cellsOf 3)) = xs[3]? := hf 3 _ rfl
    rw [cells9] at f0
    rw [cells3] at f1 f3
    rw [cells4] at f2
    simp only [List.drop_succ_cons, List.drop_zero, List.take_succ_cons, List.take_zero] at f0 f1 f2 f3
    match xs, hlen with
    | [x0, x1, x2, x3], _ =>
      obtain ⟨s', e0, g0, _⟩ := DataW.trod_string Ybad.underlying9 (show _ = some x0 from f0)
      obtain ⟨b', e1, g1, _⟩ := DataW.trod_int Ybad.underlying3 (show _ = some x1 from f1)
      obtain ⟨u', e2, g2⟩ := DataW.trod_bool Ybad.underlying4 (show _ = some x2 from f2)
      obtain ⟨r', e3, g3, _⟩ := DataW.trod_int Ybad.underlying3 (show _ = some x3 from f3)
      subst g0 g1 g2 g3
      simp only [List.cons.injEq, and_true] at e0 e1 e2 e3
      subst e0 e1 e2 e3
      simp only [List.map_cons, List.map_nil, Prod.mk.injEq, DataW.agg.injEq, List.cons.injEq, DataW.lit.injEq, Lit.string.injEq, Lit.int.injEq, Lit.bool.injEq, true_and, and_true] at hx
      obtain ⟨⟨h0, h1, h2, h3⟩, _⟩ := hx
      subst h0 h1 h2 h3
      simp [cty]

/-- One variable. -/
theorem glob_one {W : World} {ps : List MemPlace} (hL : DataW.LaidVars Ybad.prog W laid12 ps) {n : String} {g : Nat} {s : List UInt8} {b r : Int} {u : Bool} (hm : (n, (.agg [.lit (.string s), .lit (.int .i64 b), .lit (.bool u), .lit (.int .i64 r)] : DataW Unit)) ∈ laid12)
    (hg : Ybad.prog.globalNamed n = some g) (ht : (Ybad.prog.globals[g]?).map (·.type) = some 27) : ∃ t fr, W.heap[g]? = some (.cells (cty s b u r).toArray t fr) := by
  obtain ⟨g', t', cs, fuel, p, h1, h2, h3, h4⟩ := laid_mem hL hm
  obtain rfl := Option.some.inj (hg.symm.trans h1)
  obtain rfl := Option.some.inj (ht.symm.trans h2)
  have e := cty_of_trod h4
  unfold World.var? at h3
  rw [hg] at h3
  simp only [Option.bind_some] at h3
  split at h3
  · rename_i c t fr hh
    cases h3
    exact ⟨t, fr, by rw [hh, ← e]⟩
  · cases h3

theorem glob_of_laid {W : World} (h : laidMetH Ybad.prog laid12 W) : Glob W := by
  rw [MakeChecks.laidMetH_plain _ _ _ (by kernel_rfl)] at h
  obtain ⟨ps, hL, _⟩ := h
  intro g hg
  match g, hg with
  | 0, _ => exact glob_one hL (show (_, Rows.laid_example_com_marshalry_marshalry_internal_enums_typeBool) ∈ laid12 from List.mem_cons_self) (by kernel_rfl) (by kernel_rfl)
  | 1, _ => exact glob_one hL (show (_, Rows.laid_example_com_marshalry_marshalry_internal_enums_typeSChar) ∈ laid12 from List.mem_cons_of_mem _ (List.mem_cons_of_mem _ (List.mem_cons_self))) (by kernel_rfl) (by kernel_rfl)
  | 2, _ => exact glob_one hL (show (_, Rows.laid_example_com_marshalry_marshalry_internal_enums_typeChar) ∈ laid12 from List.mem_cons_of_mem _ (List.mem_cons_self)) (by kernel_rfl) (by kernel_rfl)
  | 3, _ => exact glob_one hL (show (_, Rows.laid_example_com_marshalry_marshalry_internal_enums_typeUChar) ∈ laid12 from List.mem_cons_of_mem _ (List.mem_cons_of_mem _ (List.mem_cons_of_mem _ (List.mem_cons_self)))) (by kernel_rfl) (by kernel_rfl)
  | 4, _ => exact glob_one hL (show (_, Rows.laid_example_com_marshalry_marshalry_internal_enums_typeShort) ∈ laid12 from List.mem_cons_of_mem _ (List.mem_cons_of_mem _ (List.mem_cons_of_mem _ (List.mem_cons_of_mem _ (List.mem_cons_self))))) (by kernel_rfl) (by kernel_rfl)
  | 5, _ => exact glob_one hL (show (_, Rows.laid_example_com_marshalry_marshalry_internal_enums_typeUShort) ∈ laid12 from List.mem_cons_of_mem _ (List.mem_cons_of_mem _ (List.mem_cons_of_mem _ (List.mem_cons_of_mem _ (List.mem_cons_of_mem _ (List.mem_cons_self)))))) (by kernel_rfl) (by kernel_rfl)
  | 6, _ => exact glob_one hL (show (_, Rows.laid_example_com_marshalry_marshalry_internal_enums_typeLongLong) ∈ laid12 from List.mem_cons_of_mem _ (List.mem_cons_of_mem _ (List.mem_cons_of_mem _ (List.mem_cons_of_mem _ (List.mem_cons_of_mem _ (List.mem_cons_of_mem _ (List.mem_cons_of_mem _ (List.mem_cons_of_mem _ (List.mem_cons_of_mem _ (List.mem_cons_of_mem _ (List.mem_cons_self))))))))))) (by kernel_rfl) (by kernel_rfl)
  | 7, _ => exact glob_one hL (show (_, Rows.laid_example_com_marshalry_marshalry_internal_enums_typeULongLong) ∈ laid12 from List.mem_cons_of_mem _ (List.mem_cons_of_mem _ (List.mem_cons_of_mem _ (List.mem_cons_of_mem _ (List.mem_cons_of_mem _ (List.mem_cons_of_mem _ (List.mem_cons_of_mem _ (List.mem_cons_of_mem _ (List.mem_cons_of_mem _ (List.mem_cons_of_mem _ (List.mem_cons_of_mem _ (List.mem_cons_self)))))))))))) (by kernel_rfl) (by kernel_rfl)
  | 8, _ => exact glob_one hL (show (_, Rows.laid_example_com_marshalry_marshalry_internal_enums_typeLong) ∈ laid12 from List.mem_cons_of_mem _ (List.mem_cons_of_mem _ (List.mem_cons_of_mem _ (List.mem_cons_of_mem _ (List.mem_cons_of_mem _ (List.mem_cons_of_mem _ (List.mem_cons_of_mem _ (List.mem_cons_of_mem _ (List.mem_cons_self))))))))) (by kernel_rfl) (by kernel_rfl)
  | 9, _ => exact glob_one hL (show (_, Rows.laid_example_com_marshalry_marshalry_internal_enums_typeULong) ∈ laid12 from List.mem_cons_of_mem _ (List.mem_cons_of_mem _ (List.mem_cons_of_mem _ (List.mem_cons_of_mem _ (List.mem_cons_of_mem _ (List.mem_cons_of_mem _ (List.mem_cons_of_mem _ (List.mem_cons_of_mem _ (List.mem_cons_of_mem _ (List.mem_cons_self)))))))))) (by kernel_rfl) (by kernel_rfl)
  | 10, _ => exact glob_one hL (show (_, Rows.laid_example_com_marshalry_marshalry_internal_enums_typeInt) ∈ laid12 from List.mem_cons_of_mem _ (List.mem_cons_of_mem _ (List.mem_cons_of_mem _ (List.mem_cons_of_mem _ (List.mem_cons_of_mem _ (List.mem_cons_of_mem _ (List.mem_cons_self))))))) (by kernel_rfl) (by kernel_rfl)
  | 11, _ => exact glob_one hL (show (_, Rows.laid_example_com_marshalry_marshalry_internal_enums_typeUInt) ∈ laid12 from List.mem_cons_of_mem _ (List.mem_cons_of_mem _ (List.mem_cons_of_mem _ (List.mem_cons_of_mem _ (List.mem_cons_of_mem _ (List.mem_cons_of_mem _ (List.mem_cons_of_mem _ (List.mem_cons_self)))))))) (by kernel_rfl) (by kernel_rfl)

/-- The named variables read behind the call as they read before, where nothing old has turned. -/
theorem vars_below {H : Type} {enc : TypeId × Value → H} {P : Program} (hl : laidOutB P = true) {W W' : World} (hb : Below W.heap.size W W') : ∀ {ns : List String} {ds : List (DataW H)} {ps : List MemPlace},
    (ns.all fun n => (P.globalNamed n).all fun g => ((P.globals[g]?).map (·.type)).all fun t => P.readableRec t && decide (t < P.types.size)) = true →
    DataW.TrodVars enc P W (fun _ => true) ns ds ps → DataW.TrodVars enc P W' (fun b => decide (b < W.heap.size)) ns ds ps
  | [], [], _, _, h => h
  | n :: ns, d :: ds, ps, hc, h => by
    have hlt := DataW.TrodVars.lt h
    obtain ⟨g, t, cs, fuel, p, q, h1, h2, h3, h4, h5, rfl⟩ := h
    simp only [List.all_cons, Bool.and_eq_true] at hc
    have hc1 := hc.1
    rw [h1] at hc1
    simp only [Option.all_some] at hc1
    rw [h2] at hc1
    simp only [Option.all_some, Bool.and_eq_true, decide_eq_true_eq] at hc1
    have hv : W'.var? P n = some cs := by
      have hgl : g < W.heap.size := by
        unfold World.var? at h3
        rw [h1] at h3
        simp only [Option.bind_some] at h3
        split at h3
        · rename_i hh
          exact (Array.getElem?_eq_some_iff.1 hh).1
        · cases h3
      unfold World.var? at h3 ⊢
      rw [h1] at h3 ⊢
      simp only [Option.bind_some] at h3 ⊢
      rw [hb.block g hgl]
      exact h3
    refine ⟨g, t, cs, fuel, p, q, h1, h2, hv, ?_, vars_below hl hb hc.2 h5, rfl⟩
    exact DataW.trod_stays (kids_book hl hc1.1) (book_sized hc1.1) (fun h => by cases h) ⟨hc1.2, book_self t⟩ h4 (fun x hx => hb.same (hlt x (by simp [hx]))) (fun x hx => by simpa using hlt x (by simp [hx]))
  | [], _ :: _, _, _, h => h.elim
  | _ :: _, [], _, _, h => h.elim

/-- The twelve names, in the specification's order. -/
def names12 : List String := Rows.lawS3784AValidSpec.vars
theorem names12_ok : (names12.all fun n => (Ybad.prog.globalNamed n).all fun g => ((Ybad.prog.globals[g]?).map (·.type)).all fun t => Ybad.prog.readableRec t && decide (t < Ybad.prog.types.size)) = true := by kernel_rfl
set_option maxRecDepth 100000 in
theorem door_met (os : Os) (args : Array Value) : laidMetH Ybad.prog laid12 ((World.doorLaid Ybad.prog 400 os).forCall (fun _ _ => 0) ⟨#[], args, []⟩).memory :=
  laidMetH_of_parts3 (fuel := 8) (laidMet_of_run' 8 (by kernel_rfl) (by kernel_rfl)) (by kernel_rfl) (by kernel_rfl)
end Go.Proofs.YbulkbzioDoor
