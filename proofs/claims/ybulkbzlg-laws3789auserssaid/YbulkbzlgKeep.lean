/-
  Seat b3789a: what turns in memory, by blocks; the walk of the closure 'keep' (4).
-/
import Derived.Test.YbulkbzlgIndex
import Derived.Maps.AppendAt
namespace Go.Proofs.Ybulkbzlg
open Go Go.RowKit
set_option linter.unusedVariables false
set_option linter.unusedSimpArgs false

/-- w' is w but for the blocks of A and for new ones. -/
structure Turn (w w' : World) (A : Nat → Prop) : Prop where
  os : w'.os = w.os
  tape : w'.tape = w.tape
  output : w'.output = w.output
  size : w.heap.size ≤ w'.heap.size
  block : ∀ i, i < w.heap.size → ¬ A i → w'.heap[i]? = w.heap[i]?
theorem Turn.refl (w : World) (A : Nat → Prop) : Turn w w A := ⟨rfl, rfl, rfl, Nat.le_refl _, fun _ _ _ => rfl⟩
theorem Turn.trans {w w' w'' : World} {A B : Nat → Prop} (h : Turn w w' A) (k : Turn w' w'' B) : Turn w w'' (fun i => A i ∨ B i) :=
  ⟨k.os.trans h.os, k.tape.trans h.tape, k.output.trans h.output, Nat.le_trans h.size k.size, fun i hi hn => (k.block i (Nat.lt_of_lt_of_le hi h.size) (fun b => hn (.inr b))).trans (h.block i hi (fun a => hn (.inl a)))⟩
theorem Turn.mono {w w' : World} {A B : Nat → Prop} (h : Turn w w' A) (hs : ∀ i, i < w.heap.size → A i → B i) : Turn w w' B :=
  ⟨h.os, h.tape, h.output, h.size, fun i hi hn => h.block i hi (fun a => hn (hs i hi a))⟩
theorem turn_alloc (w : World) (o : Obj) (A : Nat → Prop) : Turn w (w.alloc o) A := ⟨rfl, rfl, rfl, by simp, fun i hi _ => Below.heap_alloc w o i hi⟩
theorem turn_setCell (w : World) (a : Addr) (u : Value) : Turn w (w.setCell a u) (fun i => i = a.block) := ⟨rfl, rfl, rfl, by simp, fun i hi hn => Below.heap_setCell w a u i hn⟩
theorem turn_grown {w w' : World} {row : Option Nat} (h : w.grownBy w' row) : Turn w w' (fun i => row = some i) := ⟨h.os, h.tape, h.output, h.size, fun i hi hn => h.block i hi (fun e => hn e.symm)⟩
theorem turn_draws (w : World) (n : Nat) (A : Nat → Prop) : Turn w (w.drewN n) A := ⟨rfl, rfl, rfl, Nat.le_refl _, fun _ _ _ => rfl⟩
theorem turn_below {w w' : World} {B : Nat} (h : Below B w w') : Turn w w' (fun i => B ≤ i) := ⟨h.os, h.tape, h.output, h.size, fun i _ hn => h.block i (by omega)⟩
theorem Turn.below {w w' : World} {A : Nat → Prop} {B : Nat} (h : Turn w w' A) (hB : B ≤ w.heap.size) (hA : ∀ i, i < B → ¬ A i) : Below B w w' := ⟨h.os, h.tape, h.output, h.size, fun i hi => h.block i (by omega) (hA i hi)⟩
theorem Turn.cell {w w' : World} {A : Nat → Prop} (h : Turn w w' A) {b off : Nat} {v : Value} (hc : w.cell? ⟨b, off, none⟩ = some v) (hn : ¬ A b) : w'.cell? ⟨b, off, none⟩ = some v :=
  (World.cell?_of_block (h.block b (block_lt_of_cell hc) hn)).trans hc
theorem Turn.heap {w w' : World} {A : Nat → Prop} (h : Turn w w' A) {b : Nat} {o : Obj} (hc : w.heap[b]? = some o) (hn : ¬ A b) : w'.heap[b]? = some o :=
  (h.block b (Array.getElem?_eq_some_iff.1 hc).1 hn).trans hc

theorem info21 : (Yba.prog.info? 21).map (fun i => (i.zero, i.size, i.bytes)) = some (some (.int .i32 0), 1, 4) := by kernel_rfl

/-- Even? as the walk spells it. -/
def ev (b : Int) : Bool := bits BinOp.and IntKind.i32 b 1 == 0

/-- A captured slice: block LG holds the slice value, which owns the numbers ll in a row of its own, from block 'base' on. -/
def Log (w : World) (LG base : Nat) (vl : Value) (ll : List Int) : Prop :=
  w.heap[LG]? = some (.cells #[vl] 30 (0, 0)) ∧ w.ownsRow base 21 1 vl ll.length (ll.map (Value.int .i32))
theorem Log.apart {w : World} {LG base : Nat} {vl : Value} {ll : List Int} (h : Log w LG base vl ll) : vl.ownBlock ≠ some LG := by
  obtain ⟨h1, h2, h3 | ⟨g, cap, cur, rfl, _, hh, _⟩⟩ := h
  · obtain ⟨rfl, _⟩ := h3; intro e; cases e
  · intro e
    have : g = LG := by simpa [Value.ownBlock] using e
    subst this
    rw [hh] at h1
    simp at h1

set_option maxRecDepth 100000 in
set_option maxHeartbeats 2000000 in
theorem keep_any (id h b n : Int) (LG NB CB SM cb co cc base : Nat) (nn : Nat) (vl : Value) (ll : List Int) (w : World) (hid0 : 0 ≤ id) (hid1 : id < nn) (hnn : nn ≤ 1024) (hll : ll.length ≤ 1024) (hbase : base ≤ w.heap.size) 
    (hlog : Log w LG base vl ll) (hN : w.cell? ⟨NB, 0, none⟩ = some (.int .i64 nn)) (hC : w.cell? ⟨CB, 0, none⟩ = some (.slice (some ⟨cb, co, none⟩) nn cc))
    (hh : w.cell? ⟨cb, co + id.toNat * 2, none⟩ = some (.int .i32 h)) (hb : w.cell? ⟨cb, co + id.toNat * 2 + 1, none⟩ = some (.int .i32 b))
    (nNL : NB ≠ LG) (nCL : CB ≠ LG) (ncL : cb ≠ LG) (nNv : vl.ownBlock ≠ some NB) (nCv : vl.ownBlock ≠ some CB) (ncv : vl.ownBlock ≠ some cb) :
    Calls Yba.prog 4 #[.int .i32 id, .agg #[.int .i32 h, .int .i32 b], .pointer (some ⟨LG, 0, none⟩), .pointer (some ⟨NB, 0, none⟩), .pointer (some ⟨CB, 0, none⟩), .pointer (some ⟨SM, 0, none⟩)] w fun e w' =>
      e = .returned (.bool (ev b)) ∧ ∃ vl', Log w' LG base vl' (ll ++ [id]) ∧ Turn w w' (fun i => i = LG ∨ vl.ownBlock = some i) ∧ (vl'.ownBlock = vl.ownBlock ∨ ∃ g, w.heap.size ≤ g ∧ vl'.ownBlock = some g) := by
  obtain ⟨i0, hi, hz0, hz1, hz2⟩ := info_parts info21
  have HLA := hide hlog.apart
  obtain ⟨hL, hown⟩ := hlog
  have cL : ∀ o, (w.alloc o).cell? ⟨LG, 0, none⟩ = some vl := fun o => by rw [cell_of_row _ _ _ _ _ _ ((Below.heap_alloc w o LG (Array.getElem?_eq_some_iff.1 hL).1).trans hL)]; rfl
  have HO := hide hown
  have HLH := hide hL
  clear hown hL
  go_enter Yba.func4, Yba.ntmps4
  go_wp2_with (first | (at_builtin; refine wpList_append_own_at _ rfl (.tmp 9) (.tmp 11) 30 rfl base 21 i0 (.int .i32 0) 1 4 Yba.underlying30 hi hz0 hz1 hz2 rfl (by decide) _ _ _ rfl ((HO.out.alloc _).alloc _) ⟨w.heap.size + 1, 0, none⟩ 1 1 [.int .i32 id] rfl rfl ?_ ?_ ?_ ?_ ?_ ?_))
  · have hn := cell_one_new (w.alloc (.cells #[.int .i32 h, .int .i32 b] 29)) (.int .i32 id) 21
    rw [World.size_alloc] at hn
    exact hn
  · intro u hu
    simp at hu
    subst hu
    rfl
  · unfold maxLen; omega
  · omega
  · rw [World.size_alloc, World.size_alloc]; omega
  · intro v' w' hown' hgrow _ hloc
    obtain ⟨g, cap, hv⟩ : ∃ g cap, v' = .slice (some ⟨g, 0, none⟩) (ll.length + 1) cap := by
      obtain ⟨_, ⟨_, h0⟩ | ⟨g, cap, _, hv, _⟩⟩ := hown'
      · omega
      · exact ⟨g, cap, hv⟩
    subst hv
    have ht : Turn w w' (fun i => vl.ownBlock = some i) := (((turn_alloc w _ _).trans (turn_alloc _ _ _)).trans (turn_grown hgrow)).mono (fun i _ h => by rcases h with (h | h) | h <;> first | exact h | exact False.elim h)
    have hX : w'.heap[w.heap.size]? = some (.cells #[.int .i32 h, .int .i32 b] 29) := by
      refine (hgrow.block _ (by rw [World.size_alloc, World.size_alloc]; omega) ?_).trans (Go.heap_alloc2_old w _ _)
      intro e
      have := HO.out.lt _ e.symm
      omega
    have x0 : w'.cell? ⟨w.heap.size, 0, none⟩ = some (.int .i32 h) := by rw [cell_of_row _ _ _ _ _ _ hX]; rfl
    have x1 : w'.cell? ⟨w.heap.size, 1, none⟩ = some (.int .i32 b) := by rw [cell_of_row _ _ _ _ _ _ hX]; rfl
    have hL' : w'.heap[LG]? = some (.cells #[vl] 30) := ht.heap HLH.out HLA.out
    have l0 : w'.cell? ⟨LG, 0, none⟩ = some vl := by rw [cell_of_row _ _ _ _ _ _ hL']; rfl
    have lf : w'.frozen? ⟨LG, 0, none⟩ = false := frozen_of_row _ _ _ _ _ hL'
    have HL' := hide hL'
    have HT := hide ht
    have HO' := hide hown'
    have HLOC := hide hloc
    have n0 : w'.cell? ⟨NB, 0, none⟩ = some (.int .i64 nn) := ht.cell hN nNv
    have c0 : w'.cell? ⟨CB, 0, none⟩ = some (.slice (some ⟨cb, co, none⟩) nn cc) := ht.cell hC nCv
    have h0 : w'.cell? ⟨cb, co + id.toNat * 2, none⟩ = some (.int .i32 h) := ht.cell hh ncv
    have b0 : w'.cell? ⟨cb, co + id.toNat * 2 + 1, none⟩ = some (.int .i32 b) := ht.cell hb ncv
    clear hX hL' ht hown' hgrow hloc hN hC hh hb
    have nXL : w.heap.size ≠ LG := fun e => by have := block_lt_of_cell (cL (.cells #[] 0)); have hl := (Array.getElem?_eq_some_iff.1 HLH.out).1; omega
    clear cL
    have hd1 : decide (id < 0) = false := by simp; omega
    have hwr : IntKind.i64.wrap id = id := IntWalk.i64_in id (by omega)
    have hd2 : decide ((nn : Int) ≤ id) = false := by simp; omega
    go_wp2
    go_quiet (fail)
    go_wp2
    go_ret
    have hlL := (Array.getElem?_eq_some_iff.1 HLH.out).1
    have hne : (Value.slice (some ⟨g, 0, none⟩) (ll.length + 1) cap).ownBlock ≠ some LG := by
      rcases HLOC.out with e | e
      · rw [e]; exact HLA.out
      · rw [e]; intro e'; have := Option.some.inj e'; omega
    refine ⟨rfl, .slice (some ⟨g, 0, none⟩) (ll.length + 1) cap, ⟨?_, ?_⟩, ?_, ?_⟩
    · exact heap_setCell_same w' LG 0 _ 30 _ HL'.out
    · have ho := ownsRow_setCell_other HO'.out (a := ⟨LG, 0, none⟩) hne (Value.slice (some ⟨g, 0, none⟩) (ll.length + 1) cap)
      rw [List.length_append, List.map_append]
      exact ho
    · exact ((HT.out.trans (turn_setCell w' _ _)).trans (turn_draws _ _ (fun _ => False))).mono (fun i _ h => by
        rcases h with (h | h) | h
        · exact .inr h
        · exact .inl h
        · exact h.elim)
    · rcases HLOC.out with e | e
      · exact .inl e
      · exact .inr ⟨_, by omega, e⟩
end Go.Proofs.Ybulkbzlg
