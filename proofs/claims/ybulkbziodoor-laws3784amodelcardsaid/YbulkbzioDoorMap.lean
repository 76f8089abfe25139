/-
  Seat b3784aD: the map of counts that the two laws build: what it holds at the seven words, and what a store makes of it.
-/
import Derived.Test.YbulkbzioDoorTypes
import Derived.Maps.Own
import Derived.Maps.OwnOps
import Derived.Maps.OwnSet
import Derived.Maps.Views
namespace Go.Proofs.YbulkbzioDoor
open Go Go.RowKit Go.Maps

theorem law : Keyed Ybad.prog 9 := string_keyed Ybad.underlying9
theorem zero3 (w : World) : (zeroValue 3).run Ybad.prog w = .ok (.int .i64 0) w := by kernel_rfl

def key (j : Nat) : Lit := .string (nameB j)
theorem key_ne {i j : Nat} (hi : i < 7) (hj : j < 7) (h : i ≠ j) : key i ≠ key j := by
  match i, j, hi, hj with
  | 0, j, _, hj => match j, hj with
    | 0, _ => exact absurd rfl h
    | 1, _ | 2, _ | 3, _ | 4, _ | 5, _ | 6, _ => intro e; simp [key, nameB] at e
  | 1, j, _, hj => match j, hj with
    | 1, _ => exact absurd rfl h
    | 0, _ | 2, _ | 3, _ | 4, _ | 5, _ | 6, _ => intro e; simp [key, nameB] at e
  | 2, j, _, hj => match j, hj with
    | 2, _ => exact absurd rfl h
    | 0, _ | 1, _ | 3, _ | 4, _ | 5, _ | 6, _ => intro e; simp [key, nameB] at e
  | 3, j, _, hj => match j, hj with
    | 3, _ => exact absurd rfl h
    | 0, _ | 1, _ | 2, _ | 4, _ | 5, _ | 6, _ => intro e; simp [key, nameB] at e
  | 4, j, _, hj => match j, hj with
    | 4, _ => exact absurd rfl h
    | 0, _ | 1, _ | 2, _ | 3, _ | 5, _ | 6, _ => intro e; simp [key, nameB] at e
  | 5, j, _, hj => match j, hj with
    | 5, _ => exact absurd rfl h
    | 0, _ | 1, _ | 2, _ | 3, _ | 4, _ | 6, _ => intro e; simp [key, nameB] at e
  | 6, j, _, hj => match j, hj with
    | 6, _ => exact absurd rfl h
    | 0, _ | 1, _ | 2, _ | 3, _ | 4, _ | 5, _ => intro e; simp [key, nameB] at e
theorem nm_size (j : Nat) : (nm j).size ≤ maxLen := by
  have : (nm j).size ≤ 8 := by
    match j with
    | 0 | 1 | 2 | 3 | 4 | 5 | _ + 6 => simp [nm, nameB, ByteArray.size]
  unfold maxLen; omega
theorem key_of (j : Nat) : keyOf Ybad.prog 9 (.string (nm j)) = some (key j) := by
  rw [WideMaps.keyOf_string_mk Ybad.underlying9 (nm_size j)]
  rfl
theorem wf_small {c : Int} (h0 : 0 ≤ c) (h1 : c ≤ 3) : (Lit.int .i64 c).wf = true := WalkArith.wf_i64 (by omega)

/-- The map in block bm, of at most n entries, holds 'f j' at the j-th word (nought where it has no entry). -/
def HoldsAt (w : World) (bm n : Nat) (f : Nat → Int) : Prop :=
  ∃ D : DataW Unit, w.ownsMap Ybad.prog 9 (plainElem Ybad.prog 3) bm n D ∧ ∀ j, j < 7 → D.atKey (key j) (.lit (.int .i64 0)) = .lit (.int .i64 (f j))

theorem HoldsAt.drew {w : World} {bm n : Nat} {f : Nat → Int} (h : HoldsAt w bm n f) : HoldsAt w.drew bm n f := h
theorem HoldsAt.lt {w : World} {bm n : Nat} {f : Nat → Int} (h : HoldsAt w bm n f) : bm < w.heap.size := by
  obtain ⟨D, ho, _⟩ := h
  exact ho.lt
theorem HoldsAt.congr {w : World} {bm n : Nat} {f g : Nat → Int} (h : HoldsAt w bm n f) (e : ∀ j, j < 7 → f j = g j) : HoldsAt w bm n g := by
  obtain ⟨D, ho, hv⟩ := h
  exact ⟨D, ho, fun j hj => by rw [hv j hj, e j hj]⟩
theorem HoldsAt.mono {w : World} {bm n m : Nat} {f : Nat → Int} (h : HoldsAt w bm n f) (hn : n ≤ m) : HoldsAt w bm m f := by
  obtain ⟨D, ho, hv⟩ := h
  exact ⟨D, ho.mono hn, hv⟩
theorem holds_made (w : World) : HoldsAt (w.alloc (.map #[] 0)) w.heap.size 0 (fun _ => 0) :=
  ⟨.map [], World.ownsMap_made _ _ _ _, fun _ _ => rfl⟩
/-- A store at the j-th word. -/
theorem HoldsAt.put {w : World} {bm n : Nat} {f : Nat → Int} (h : HoldsAt w bm n f) (hn : n < maxLen) {j : Nat} (hj : j < 7) {c : Int} (hc : (Lit.int .i64 c).wf = true) :
    ∃ w', (Instr.mapUpdate 25 (.map (some bm)) (.string (nm j)) (.int .i64 c)).run Ybad.prog w = .ok () w' ∧ HoldsAt w' bm (n + 1) (fun i => if i = j then c else f i) ∧ w.grownBy w' (some bm) := by
  obtain ⟨D, ho, hv⟩ := h
  obtain ⟨w', hrun, ho', hg⟩ := ho.update law Ybad.underlying25 hn (key_of j) (plainElem_int Ybad.underlying3 hc)
  refine ⟨w', hrun, ⟨_, ho', fun i hi => ?_⟩, hg⟩
  show (D.put (key j) _).atKey (key i) _ = .lit (.int .i64 (if i = j then c else f i))
  by_cases e : i = j
  · subst e
    rw [if_pos rfl]
    exact atKey_put_same ho.isMap (show WideAt.IsKeyLit (key i) from trivial) _ _
  · rw [if_neg e, atKey_put_other (key_ne hi hj e)]
    exact hv i hi
/-- A store at another word. -/
theorem HoldsAt.other {w : World} {bm n : Nat} {f : Nat → Int} (h : HoldsAt w bm n f) (hn : n < maxLen) {x : ByteArray} (hx : x.size ≤ maxLen) (hne : ∀ j, j < 7 → nm j ≠ x) {c : Int} (hc : (Lit.int .i64 c).wf = true) :
    ∃ w', (Instr.mapUpdate 25 (.map (some bm)) (.string x) (.int .i64 c)).run Ybad.prog w = .ok () w' ∧ HoldsAt w' bm (n + 1) f ∧ w.grownBy w' (some bm) := by
  obtain ⟨D, ho, hv⟩ := h
  obtain ⟨w', hrun, ho', hg⟩ := ho.update law Ybad.underlying25 hn (WideMaps.keyOf_string_mk Ybad.underlying9 hx) (plainElem_int Ybad.underlying3 hc)
  refine ⟨w', hrun, ⟨_, ho', fun i hi => ?_⟩, hg⟩
  have e : key i ≠ .string x.data.toList := by
    intro e
    refine hne i hi ?_
    have e' : nameB i = x.data.toList := by simpa [key] using e
    cases x with
    | mk d => simp only at e'; simp [nm, e']
  rw [atKey_put_other e]
  exact hv i hi
/-- A look-up of the j-th word, in whatever world the block is the same. -/
theorem HoldsAt.look {w : World} {bm n : Nat} {f : Nat → Int} (h : HoldsAt w bm n f) {j : Nat} (hj : j < 7) (x : World) (hx : x.heap[bm]? = w.heap[bm]?) :
    (Instr.lookup 25 (.map (some bm)) (.string (nm j)) false).run Ybad.prog x = .ok (.int .i64 (f j)) x := by
  obtain ⟨D, ho, hv⟩ := h
  have ho' : x.ownsMap Ybad.prog 9 (plainElem Ybad.prog 3) bm n D := by
    obtain ⟨es, cl, hb, r⟩ := ho
    exact ⟨es, cl, hx.trans hb, r⟩
  obtain ⟨c, hrun, hat, _⟩ := ho'.lookup_int law Ybad.underlying25 Ybad.underlying3 (zero3 x) (key_of j)
  rw [hv j hj] at hat
  cases hat
  exact hrun
/-- The map is kept while other blocks turn. -/
theorem HoldsAt.kept {w w' : World} {bm n : Nat} {f : Nat → Int} (h : HoldsAt w bm n f) (hx : w'.heap[bm]? = w.heap[bm]?) : HoldsAt w' bm n f := by
  obtain ⟨D, ⟨es, cl, hb, r⟩, hv⟩ := h
  exact ⟨D, ⟨es, cl, hx.trans hb, r⟩, hv⟩
end Go.Proofs.YbulkbzioDoor
