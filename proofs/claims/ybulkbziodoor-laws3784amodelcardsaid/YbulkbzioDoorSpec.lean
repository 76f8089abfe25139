/-
  Seat b3784aD: the walk of 'specifiedType' (8): one theorem a way through, each test decided ahead of the walk; then one contract for all counts from 0 to 3.
-/
import Derived.Test.YbulkbzioDoorTypes
namespace Go.Proofs.YbulkbzioDoor
open Go Go.RowKit
set_option linter.unusedVariables false
set_option linter.unusedSimpArgs false

/-- The look-up of one word in the map of block bm. -/
abbrev look (bm : Nat) (k : Array UInt8) (c : Int) (w : World) : Prop := (Instr.lookup 25 (.map (some bm)) (.string { data := k }) false).run Ybad.prog w = .ok (.int .i64 c) w
/-- Which type a package-level variable holds. -/
def gn : Nat → Nat
  | 0 => 12 | 1 => 2 | 2 => 1 | 3 => 3 | 4 => 4 | 5 => 5 | 6 => 10 | 7 => 11 | 8 => 8 | 9 => 9 | 10 => 6 | _ => 7
/-- The twelve variables hold what the program's text lays. -/
def Glob (w : World) : Prop := ∀ g, g < 12 → ∃ t fr, w.heap[g]? = some (.cells (tyc (gn g)).toArray t fr)
/-- What 'specifiedType' reads: the seven counts behind the map; the twelve variables. -/
structure Env (w : World) (bm : Nat) (s u c sh i l b : Int) : Prop where
  lt : bm < w.heap.size
  gl : Glob w
  ks : ∀ x : World, x.heap[bm]? = w.heap[bm]? → look bm #[115, 105, 103, 110, 101, 100] s x
  ku : ∀ x : World, x.heap[bm]? = w.heap[bm]? → look bm #[117, 110, 115, 105, 103, 110, 101, 100] u x
  kc : ∀ x : World, x.heap[bm]? = w.heap[bm]? → look bm #[99, 104, 97, 114] c x
  ksh : ∀ x : World, x.heap[bm]? = w.heap[bm]? → look bm #[115, 104, 111, 114, 116] sh x
  ki : ∀ x : World, x.heap[bm]? = w.heap[bm]? → look bm #[105, 110, 116] i x
  kl : ∀ x : World, x.heap[bm]? = w.heap[bm]? → look bm #[108, 111, 110, 103] l x
  kb : ∀ x : World, x.heap[bm]? = w.heap[bm]? → look bm #[95, 66, 111, 111, 108] b x

theorem Glob.lt {w : World} (h : Glob w) {g : Nat} (hg : g < 12) : g < w.heap.size := by
  obtain ⟨_, _, e⟩ := h g hg
  exact (Array.getElem?_eq_some_iff.1 e).1
theorem one_old (w : World) (o : Obj) (k : Nat) (h : k < w.heap.size) : (w.alloc o).heap[k]? = w.heap[k]? := Below.heap_alloc w o k h
theorem two_old (w : World) (o o' : Obj) (k : Nat) (h : k < w.heap.size) : ((w.alloc o).alloc o').heap[k]? = w.heap[k]? :=
  (Below.heap_alloc _ o' k (by simp; omega)).trans (Below.heap_alloc w o k h)
theorem Glob.cell {w : World} (h : Glob w) {g j : Nat} {v : Value} (hg : g < 12) (hv : (tyc (gn g))[j]? = some v) : w.cell? ⟨g, j, none⟩ = some v := by
  obtain ⟨t, fr, e⟩ := h g hg
  rw [cell_of_row w g j _ t fr e]
  simpa using hv
theorem Glob.one {w : World} (h : Glob w) (o : Obj) : Glob (w.alloc o) := fun g hg => by
  obtain ⟨t, fr, e⟩ := h g hg
  exact ⟨t, fr, (one_old w o g (h.lt hg)).trans e⟩

set_option maxHeartbeats 1000000 in
theorem sp_f1 {w : World} {bm : Nat} {s u c sh i l b : Int} (E : Env w bm s u c sh i l b) (h0 : 0 ≤ s) (h1 : s ≤ 3) (h2 : 0 ≤ u) (h3 : u ≤ 3) (h4 : 0 ≤ c) (h5 : c ≤ 3) (h6 : 0 ≤ sh) (h7 : sh ≤ 3) (h8 : 0 ≤ i) (h9 : i ≤ 3) (h10 : 0 ≤ l) (h11 : l ≤ 3) (h12 : 0 ≤ b) (h13 : b ≤ 3) (q1 : 1 < s + u) :
    Calls Ybad.prog 8 #[.map (some bm)] w fun e w' => e = .returned (.tuple #[.agg (tyc 0).toArray, .bool false]) ∧ Below w.heap.size w w' := by
  have s1 : ∀ o, look bm #[115, 105, 103, 110, 101, 100] s (w.alloc o) := fun o => E.ks _ (one_old w o bm E.lt)
  have u1 : ∀ o, look bm #[117, 110, 115, 105, 103, 110, 101, 100] u (w.alloc o) := fun o => E.ku _ (one_old w o bm E.lt)
  have c1 : ∀ o, look bm #[99, 104, 97, 114] c (w.alloc o) := fun o => E.kc _ (one_old w o bm E.lt)
  have sh1 : ∀ o, look bm #[115, 104, 111, 114, 116] sh (w.alloc o) := fun o => E.ksh _ (one_old w o bm E.lt)
  have i1 : ∀ o, look bm #[105, 110, 116] i (w.alloc o) := fun o => E.ki _ (one_old w o bm E.lt)
  have l1 : ∀ o, look bm #[108, 111, 110, 103] l (w.alloc o) := fun o => E.kl _ (one_old w o bm E.lt)
  have b1 : ∀ o, look bm #[95, 66, 111, 111, 108] b (w.alloc o) := fun o => E.kb _ (one_old w o bm E.lt)
  clear E
  go_enter Ybad.func8, Ybad.ntmps8
  go_wp2
  exact bodyPost_ret (v := .tuple #[.agg (tyc 0).toArray, .bool false]) (by simp [results, Ybad.results8, go_sem]; rfl) rfl ⟨rfl, (Below.refl _ _).alloc (Nat.le_refl _) _⟩

set_option maxHeartbeats 1000000 in
theorem sp_f2 {w : World} {bm : Nat} {s u c sh i l b : Int} (E : Env w bm s u c sh i l b) (h0 : 0 ≤ s) (h1 : s ≤ 3) (h2 : 0 ≤ u) (h3 : u ≤ 3) (h4 : 0 ≤ c) (h5 : c ≤ 3) (h6 : 0 ≤ sh) (h7 : sh ≤ 3) (h8 : 0 ≤ i) (h9 : i ≤ 3) (h10 : 0 ≤ l) (h11 : l ≤ 3) (h12 : 0 ≤ b) (h13 : b ≤ 3) (q1 : s + u ≤ 1) (q2 : 1 < c) :
    Calls Ybad.prog 8 #[.map (some bm)] w fun e w' => e = .returned (.tuple #[.agg (tyc 0).toArray, .bool false]) ∧ Below w.heap.size w w' := by
  have s1 : ∀ o, look bm #[115, 105, 103, 110, 101, 100] s (w.alloc o) := fun o => E.ks _ (one_old w o bm E.lt)
  have u1 : ∀ o, look bm #[117, 110, 115, 105, 103, 110, 101, 100] u (w.alloc o) := fun o => E.ku _ (one_old w o bm E.lt)
  have c1 : ∀ o, look bm #[99, 104, 97, 114] c (w.alloc o) := fun o => E.kc _ (one_old w o bm E.lt)
  have sh1 : ∀ o, look bm #[115, 104, 111, 114, 116] sh (w.alloc o) := fun o => E.ksh _ (one_old w o bm E.lt)
  have i1 : ∀ o, look bm #[105, 110, 116] i (w.alloc o) := fun o => E.ki _ (one_old w o bm E.lt)
  have l1 : ∀ o, look bm #[108, 111, 110, 103] l (w.alloc o) := fun o => E.kl _ (one_old w o bm E.lt)
  have b1 : ∀ o, look bm #[95, 66, 111, 111, 108] b (w.alloc o) := fun o => E.kb _ (one_old w o bm E.lt)
  clear E
  go_enter Ybad.func8, Ybad.ntmps8
  go_wp2
  exact bodyPost_ret (v := .tuple #[.agg (tyc 0).toArray, .bool false]) (by simp [results, Ybad.results8, go_sem]; rfl) rfl ⟨rfl, (Below.refl _ _).alloc (Nat.le_refl _) _⟩

set_option maxHeartbeats 1000000 in
theorem sp_f3 {w : World} {bm : Nat} {s u c sh i l b : Int} (E : Env w bm s u c sh i l b) (h0 : 0 ≤ s) (h1 : s ≤ 3) (h2 : 0 ≤ u) (h3 : u ≤ 3) (h4 : 0 ≤ c) (h5 : c ≤ 3) (h6 : 0 ≤ sh) (h7 : sh ≤ 3) (h8 : 0 ≤ i) (h9 : i ≤ 3) (h10 : 0 ≤ l) (h11 : l ≤ 3) (h12 : 0 ≤ b) (h13 : b ≤ 3) (q1 : s + u ≤ 1) (q2 : c ≤ 1) (q3 : 1 < sh) :
    Calls Ybad.prog 8 #[.map (some bm)] w fun e w' => e = .returned (.tuple #[.agg (tyc 0).toArray, .bool false]) ∧ Below w.heap.size w w' := by
  have s1 : ∀ o, look bm #[115, 105, 103, 110, 101, 100] s (w.alloc o) := fun o => E.ks _ (one_old w o bm E.lt)
  have u1 : ∀ o, look bm #[117, 110, 115, 105, 103, 110, 101, 100] u (w.alloc o) := fun o => E.ku _ (one_old w o bm E.lt)
  have c1 : ∀ o, look bm #[99, 104, 97, 114] c (w.alloc o) := fun o => E.kc _ (one_old w o bm E.lt)
  have sh1 : ∀ o, look bm #[115, 104, 111, 114, 116] sh (w.alloc o) := fun o => E.ksh _ (one_old w o bm E.lt)
  have i1 : ∀ o, look bm #[105, 110, 116] i (w.alloc o) := fun o => E.ki _ (one_old w o bm E.lt)
  have l1 : ∀ o, look bm #[108, 111, 110, 103] l (w.alloc o) := fun o => E.kl _ (one_old w o bm E.lt)
  have b1 : ∀ o, look bm #[95, 66, 111, 111, 108] b (w.alloc o) := fun o => E.kb _ (one_old w o bm E.lt)
  clear E
  go_enter Ybad.func8, Ybad.ntmps8
  go_wp2
  exact bodyPost_ret (v := .tuple #[.agg (tyc 0).toArray, .bool false]) (by simp [results, Ybad.results8, go_sem]; rfl) rfl ⟨rfl, (Below.refl _ _).alloc (Nat.le_refl _) _⟩

set_option maxHeartbeats 1000000 in
theorem sp_f4 {w : World} {bm : Nat} {s u c sh i l b : Int} (E : Env w bm s u c sh i l b) (h0 : 0 ≤ s) (h1 : s ≤ 3) (h2 : 0 ≤ u) (h3 : u ≤ 3) (h4 : 0 ≤ c) (h5 : c ≤ 3) (h6 : 0 ≤ sh) (h7 : sh ≤ 3) (h8 : 0 ≤ i) (h9 : i ≤ 3) (h10 : 0 ≤ l) (h11 : l ≤ 3) (h12 : 0 ≤ b) (h13 : b ≤ 3) (q1 : s + u ≤ 1) (q2 : c ≤ 1) (q3 : sh ≤ 1) (q4 : 1 < i) :
    Calls Ybad.prog 8 #[.map (some bm)] w fun e w' => e = .returned (.tuple #[.agg (tyc 0).toArray, .bool false]) ∧ Below w.heap.size w w' := by
  have s1 : ∀ o, look bm #[115, 105, 103, 110, 101, 100] s (w.alloc o) := fun o => E.ks _ (one_old w o bm E.lt)
  have u1 : ∀ o, look bm #[117, 110, 115, 105, 103, 110, 101, 100] u (w.alloc o) := fun o => E.ku _ (one_old w o bm E.lt)
  have c1 : ∀ o, look bm #[99, 104, 97, 114] c (w.alloc o) := fun o => E.kc _ (one_old w o bm E.lt)
  have sh1 : ∀ o, look bm #[115, 104, 111, 114, 116] sh (w.alloc o) := fun o => E.ksh _ (one_old w o bm E.lt)
  have i1 : ∀ o, look bm #[105, 110, 116] i (w.alloc o) := fun o => E.ki _ (one_old w o bm E.lt)
  have l1 : ∀ o, look bm #[108, 111, 110, 103] l (w.alloc o) := fun o => E.kl _ (one_old w o bm E.lt)
  have b1 : ∀ o, look bm #[95, 66, 111, 111, 108] b (w.alloc o) := fun o => E.kb _ (one_old w o bm E.lt)
  clear E
  go_enter Ybad.func8, Ybad.ntmps8
  go_wp2
  exact bodyPost_ret (v := .tuple #[.agg (tyc 0).toArray, .bool false]) (by simp [results, Ybad.results8, go_sem]; rfl) rfl ⟨rfl, (Below.refl _ _).alloc (Nat.le_refl _) _⟩

set_option maxHeartbeats 1000000 in
theorem sp_f5 {w : World} {bm : Nat} {s u c sh i l b : Int} (E : Env w bm s u c sh i l b) (h0 : 0 ≤ s) (h1 : s ≤ 3) (h2 : 0 ≤ u) (h3 : u ≤ 3) (h4 : 0 ≤ c) (h5 : c ≤ 3) (h6 : 0 ≤ sh) (h7 : sh ≤ 3) (h8 : 0 ≤ i) (h9 : i ≤ 3) (h10 : 0 ≤ l) (h11 : l ≤ 3) (h12 : 0 ≤ b) (h13 : b ≤ 3) (q1 : s + u ≤ 1) (q2 : c ≤ 1) (q3 : sh ≤ 1) (q4 : i ≤ 1) (q5 : 2 < l) :
    Calls Ybad.prog 8 #[.map (some bm)] w fun e w' => e = .returned (.tuple #[.agg (tyc 0).toArray, .bool false]) ∧ Below w.heap.size w w' := by
  have s1 : ∀ o, look bm #[115, 105, 103, 110, 101, 100] s (w.alloc o) := fun o => E.ks _ (one_old w o bm E.lt)
  have u1 : ∀ o, look bm #[117, 110, 115, 105, 103, 110, 101, 100] u (w.alloc o) := fun o => E.ku _ (one_old w o bm E.lt)
  have c1 : ∀ o, look bm #[99, 104, 97, 114] c (w.alloc o) := fun o => E.kc _ (one_old w o bm E.lt)
  have sh1 : ∀ o, look bm #[115, 104, 111, 114, 116] sh (w.alloc o) := fun o => E.ksh _ (one_old w o bm E.lt)
  have i1 : ∀ o, look bm #[105, 110, 116] i (w.alloc o) := fun o => E.ki _ (one_old w o bm E.lt)
  have l1 : ∀ o, look bm #[108, 111, 110, 103] l (w.alloc o) := fun o => E.kl _ (one_old w o bm E.lt)
  have b1 : ∀ o, look bm #[95, 66, 111, 111, 108] b (w.alloc o) := fun o => E.kb _ (one_old w o bm E.lt)
  clear E
  go_enter Ybad.func8, Ybad.ntmps8
  go_wp2
  exact bodyPost_ret (v := .tuple #[.agg (tyc 0).toArray, .bool false]) (by simp [results, Ybad.results8, go_sem]; rfl) rfl ⟨rfl, (Below.refl _ _).alloc (Nat.le_refl _) _⟩

set_option maxHeartbeats 1000000 in
theorem sp_f6 {w : World} {bm : Nat} {s u c sh i l b : Int} (E : Env w bm s u c sh i l b) (h0 : 0 ≤ s) (h1 : s ≤ 3) (h2 : 0 ≤ u) (h3 : u ≤ 3) (h4 : 0 ≤ c) (h5 : c ≤ 3) (h6 : 0 ≤ sh) (h7 : sh ≤ 3) (h8 : 0 ≤ i) (h9 : i ≤ 3) (h10 : 0 ≤ l) (h11 : l ≤ 3) (h12 : 0 ≤ b) (h13 : b ≤ 3) (q1 : s + u ≤ 1) (q2 : c ≤ 1) (q3 : sh ≤ 1) (q4 : i ≤ 1) (q5 : l ≤ 2) (q6 : 1 < b) :
    Calls Ybad.prog 8 #[.map (some bm)] w fun e w' => e = .returned (.tuple #[.agg (tyc 0).toArray, .bool false]) ∧ Below w.heap.size w w' := by
  have s1 : ∀ o, look bm #[115, 105, 103, 110, 101, 100] s (w.alloc o) := fun o => E.ks _ (one_old w o bm E.lt)
  have u1 : ∀ o, look bm #[117, 110, 115, 105, 103, 110, 101, 100] u (w.alloc o) := fun o => E.ku _ (one_old w o bm E.lt)
  have c1 : ∀ o, look bm #[99, 104, 97, 114] c (w.alloc o) := fun o => E.kc _ (one_old w o bm E.lt)
  have sh1 : ∀ o, look bm #[115, 104, 111, 114, 116] sh (w.alloc o) := fun o => E.ksh _ (one_old w o bm E.lt)
  have i1 : ∀ o, look bm #[105, 110, 116] i (w.alloc o) := fun o => E.ki _ (one_old w o bm E.lt)
  have l1 : ∀ o, look bm #[108, 111, 110, 103] l (w.alloc o) := fun o => E.kl _ (one_old w o bm E.lt)
  have b1 : ∀ o, look bm #[95, 66, 111, 111, 108] b (w.alloc o) := fun o => E.kb _ (one_old w o bm E.lt)
  clear E
  go_enter Ybad.func8, Ybad.ntmps8
  go_wp2
  exact bodyPost_ret (v := .tuple #[.agg (tyc 0).toArray, .bool false]) (by simp [results, Ybad.results8, go_sem]; rfl) rfl ⟨rfl, (Below.refl _ _).alloc (Nat.le_refl _) _⟩

set_option maxHeartbeats 1000000 in
theorem sp_f7 {w : World} {bm : Nat} {s u c sh i l b : Int} (E : Env w bm s u c sh i l b) (h0 : 0 ≤ s) (h1 : s ≤ 3) (h2 : 0 ≤ u) (h3 : u ≤ 3) (h4 : 0 ≤ c) (h5 : c ≤ 3) (h6 : 0 ≤ sh) (h7 : sh ≤ 3) (h8 : 0 ≤ i) (h9 : i ≤ 3) (h10 : 0 ≤ l) (h11 : l ≤ 3) (h12 : 0 ≤ b) (h13 : b ≤ 3) (q1 : s + u ≤ 1) (q2 : c ≤ 1) (q3 : sh ≤ 1) (q4 : i ≤ 1) (q5 : l ≤ 2) (eb : b = 1) (q7 : 0 < s + u + c + sh + i + l) :
    Calls Ybad.prog 8 #[.map (some bm)] w fun e w' => e = .returned (.tuple #[.agg (tyc 0).toArray, .bool false]) ∧ Below w.heap.size w w' := by
  subst eb
  have s1 : ∀ o, look bm #[115, 105, 103, 110, 101, 100] s (w.alloc o) := fun o => E.ks _ (one_old w o bm E.lt)
  have u1 : ∀ o, look bm #[117, 110, 115, 105, 103, 110, 101, 100] u (w.alloc o) := fun o => E.ku _ (one_old w o bm E.lt)
  have c1 : ∀ o, look bm #[99, 104, 97, 114] c (w.alloc o) := fun o => E.kc _ (one_old w o bm E.lt)
  have sh1 : ∀ o, look bm #[115, 104, 111, 114, 116] sh (w.alloc o) := fun o => E.ksh _ (one_old w o bm E.lt)
  have i1 : ∀ o, look bm #[105, 110, 116] i (w.alloc o) := fun o => E.ki _ (one_old w o bm E.lt)
  have l1 : ∀ o, look bm #[108, 111, 110, 103] l (w.alloc o) := fun o => E.kl _ (one_old w o bm E.lt)
  have b1 : ∀ o, look bm #[95, 66, 111, 111, 108] _ (w.alloc o) := fun o => E.kb _ (one_old w o bm E.lt)
  clear E
  go_enter Ybad.func8, Ybad.ntmps8
  go_wp2
  exact bodyPost_ret (v := .tuple #[.agg (tyc 0).toArray, .bool false]) (by simp [results, Ybad.results8, go_sem]; rfl) rfl ⟨rfl, (Below.refl _ _).alloc (Nat.le_refl _) _⟩

set_option maxHeartbeats 1000000 in
theorem sp_f8 {w : World} {bm : Nat} {s u c sh i l b : Int} (E : Env w bm s u c sh i l b) (h0 : 0 ≤ s) (h1 : s ≤ 3) (h2 : 0 ≤ u) (h3 : u ≤ 3) (h4 : 0 ≤ c) (h5 : c ≤ 3) (h6 : 0 ≤ sh) (h7 : sh ≤ 3) (h8 : 0 ≤ i) (h9 : i ≤ 3) (h10 : 0 ≤ l) (h11 : l ≤ 3) (h12 : 0 ≤ b) (h13 : b ≤ 3) (q1 : s + u ≤ 1) (q2 : c ≤ 1) (q3 : sh ≤ 1) (q4 : i ≤ 1) (q5 : l ≤ 2) (eb : b = 0) (ec : c = 1) (q7 : 0 < sh + i + l) :
    Calls Ybad.prog 8 #[.map (some bm)] w fun e w' => e = .returned (.tuple #[.agg (tyc 0).toArray, .bool false]) ∧ Below w.heap.size w w' := by
  subst eb ec
  have s1 : ∀ o, look bm #[115, 105, 103, 110, 101, 100] s (w.alloc o) := fun o => E.ks _ (one_old w o bm E.lt)
  have u1 : ∀ o, look bm #[117, 110, 115, 105, 103, 110, 101, 100] u (w.alloc o) := fun o => E.ku _ (one_old w o bm E.lt)
  have c1 : ∀ o, look bm #[99, 104, 97, 114] _ (w.alloc o) := fun o => E.kc _ (one_old w o bm E.lt)
  have sh1 : ∀ o, look bm #[115, 104, 111, 114, 116] sh (w.alloc o) := fun o => E.ksh _ (one_old w o bm E.lt)
  have i1 : ∀ o, look bm #[105, 110, 116] i (w.alloc o) := fun o => E.ki _ (one_old w o bm E.lt)
  have l1 : ∀ o, look bm #[108, 111, 110, 103] l (w.alloc o) := fun o => E.kl _ (one_old w o bm E.lt)
  have b1 : ∀ o, look bm #[95, 66, 111, 111, 108] _ (w.alloc o) := fun o => E.kb _ (one_old w o bm E.lt)
  clear E
  go_enter Ybad.func8, Ybad.ntmps8
  go_wp2
  exact bodyPost_ret (v := .tuple #[.agg (tyc 0).toArray, .bool false]) (by simp [results, Ybad.results8, go_sem]; rfl) rfl ⟨rfl, (Below.refl _ _).alloc (Nat.le_refl _) _⟩

set_option maxHeartbeats 1000000 in
theorem sp_f9 {w : World} {bm : Nat} {s u c sh i l b : Int} (E : Env w bm s u c sh i l b) (h0 : 0 ≤ s) (h1 : s ≤ 3) (h2 : 0 ≤ u) (h3 : u ≤ 3) (h4 : 0 ≤ c) (h5 : c ≤ 3) (h6 : 0 ≤ sh) (h7 : sh ≤ 3) (h8 : 0 ≤ i) (h9 : i ≤ 3) (h10 : 0 ≤ l) (h11 : l ≤ 3) (h12 : 0 ≤ b) (h13 : b ≤ 3) (q1 : s + u ≤ 1) (q2 : c ≤ 1) (q3 : sh ≤ 1) (q4 : i ≤ 1) (q5 : l ≤ 2) (eb : b = 0) (ec : c = 0) (esh : sh = 1) (q7 : 0 < l) :
    Calls Ybad.prog 8 #[.map (some bm)] w fun e w' => e = .returned (.tuple #[.agg (tyc 0).toArray, .bool false]) ∧ Below w.heap.size w w' := by
  subst eb ec esh
  have s1 : ∀ o, look bm #[115, 105, 103, 110, 101, 100] s (w.alloc o) := fun o => E.ks _ (one_old w o bm E.lt)
  have u1 : ∀ o, look bm #[117, 110, 115, 105, 103, 110, 101, 100] u (w.alloc o) := fun o => E.ku _ (one_old w o bm E.lt)
  have c1 : ∀ o, look bm #[99, 104, 97, 114] _ (w.alloc o) := fun o => E.kc _ (one_old w o bm E.lt)
  have sh1 : ∀ o, look bm #[115, 104, 111, 114, 116] _ (w.alloc o) := fun o => E.ksh _ (one_old w o bm E.lt)
  have i1 : ∀ o, look bm #[105, 110, 116] i (w.alloc o) := fun o => E.ki _ (one_old w o bm E.lt)
  have l1 : ∀ o, look bm #[108, 111, 110, 103] l (w.alloc o) := fun o => E.kl _ (one_old w o bm E.lt)
  have b1 : ∀ o, look bm #[95, 66, 111, 111, 108] _ (w.alloc o) := fun o => E.kb _ (one_old w o bm E.lt)
  clear E
  go_enter Ybad.func8, Ybad.ntmps8
  go_wp2
  exact bodyPost_ret (v := .tuple #[.agg (tyc 0).toArray, .bool false]) (by simp [results, Ybad.results8, go_sem]; rfl) rfl ⟨rfl, (Below.refl _ _).alloc (Nat.le_refl _) _⟩

set_option maxHeartbeats 1000000 in
theorem sp_p10 {w : World} {bm : Nat} {s u c sh i l b : Int} (E : Env w bm s u c sh i l b) (h0 : 0 ≤ s) (h1 : s ≤ 3) (h2 : 0 ≤ u) (h3 : u ≤ 3) (h4 : 0 ≤ c) (h5 : c ≤ 3) (h6 : 0 ≤ sh) (h7 : sh ≤ 3) (h8 : 0 ≤ i) (h9 : i ≤ 3) (h10 : 0 ≤ l) (h11 : l ≤ 3) (h12 : 0 ≤ b) (h13 : b ≤ 3) (q1 : s + u ≤ 1) (q2 : c ≤ 1) (q3 : sh ≤ 1) (q4 : i ≤ 1) (q5 : l ≤ 2) (eb : b = 1) (es : s = 0) (eu : u = 0) (ec : c = 0) (esh : sh = 0) (ei : i = 0) (el : l = 0) :
    Calls Ybad.prog 8 #[.map (some bm)] w fun e w' => e = .returned (.tuple #[.agg (tyc 12).toArray, .bool true]) ∧ Below w.heap.size w w' := by
  subst eb es eu ec esh ei el
  have s1 : ∀ o, look bm #[115, 105, 103, 110, 101, 100] _ (w.alloc o) := fun o => E.ks _ (one_old w o bm E.lt)
  have u1 : ∀ o, look bm #[117, 110, 115, 105, 103, 110, 101, 100] _ (w.alloc o) := fun o => E.ku _ (one_old w o bm E.lt)
  have c1 : ∀ o, look bm #[99, 104, 97, 114] _ (w.alloc o) := fun o => E.kc _ (one_old w o bm E.lt)
  have sh1 : ∀ o, look bm #[115, 104, 111, 114, 116] _ (w.alloc o) := fun o => E.ksh _ (one_old w o bm E.lt)
  have i1 : ∀ o, look bm #[105, 110, 116] _ (w.alloc o) := fun o => E.ki _ (one_old w o bm E.lt)
  have l1 : ∀ o, look bm #[108, 111, 110, 103] _ (w.alloc o) := fun o => E.kl _ (one_old w o bm E.lt)
  have b1 : ∀ o, look bm #[95, 66, 111, 111, 108] _ (w.alloc o) := fun o => E.kb _ (one_old w o bm E.lt)
  have g0_0 : ∀ o, (w.alloc o).cell? ⟨0, 0, none⟩ = some (.string { data := #[95, 66, 111, 111, 108] }) := fun o => (E.gl.one o).cell (by decide) rfl
  have g0_1 : ∀ o, (w.alloc o).cell? ⟨0, 1, none⟩ = some (.int .i64 1) := fun o => (E.gl.one o).cell (by decide) rfl
  have g0_2 : ∀ o, (w.alloc o).cell? ⟨0, 2, none⟩ = some (.bool true) := fun o => (E.gl.one o).cell (by decide) rfl
  have g0_3 : ∀ o, (w.alloc o).cell? ⟨0, 3, none⟩ = some (.int .i64 0) := fun o => (E.gl.one o).cell (by decide) rfl
  clear E
  go_enter Ybad.func8, Ybad.ntmps8
  go_wp2
  exact bodyPost_ret (v := .tuple #[.agg (tyc 12).toArray, .bool true]) (by simp [results, Ybad.results8, go_sem]; rfl) rfl ⟨rfl, (Below.refl _ _).alloc (Nat.le_refl _) _⟩

set_option maxHeartbeats 1000000 in
theorem sp_p11 {w : World} {bm : Nat} {s u c sh i l b : Int} (E : Env w bm s u c sh i l b) (h0 : 0 ≤ s) (h1 : s ≤ 3) (h2 : 0 ≤ u) (h3 : u ≤ 3) (h4 : 0 ≤ c) (h5 : c ≤ 3) (h6 : 0 ≤ sh) (h7 : sh ≤ 3) (h8 : 0 ≤ i) (h9 : i ≤ 3) (h10 : 0 ≤ l) (h11 : l ≤ 3) (h12 : 0 ≤ b) (h13 : b ≤ 3) (q1 : s + u ≤ 1) (q2 : c ≤ 1) (q3 : sh ≤ 1) (q4 : i ≤ 1) (q5 : l ≤ 2) (eb : b = 0) (es : s = 1) (eu : u = 0) (ec : c = 1) (esh : sh = 0) (ei : i = 0) (el : l = 0) :
    Calls Ybad.prog 8 #[.map (some bm)] w fun e w' => e = .returned (.tuple #[.agg (tyc 2).toArray, .bool true]) ∧ Below w.heap.size w w' := by
  subst eb es eu ec esh ei el
  have s1 : ∀ o, look bm #[115, 105, 103, 110, 101, 100] _ (w.alloc o) := fun o => E.ks _ (one_old w o bm E.lt)
  have s2 : ∀ o o', look bm #[115, 105, 103, 110, 101, 100] _ ((w.alloc o).alloc o') := fun o o' => E.ks _ (two_old w o o' bm E.lt)
  have u1 : ∀ o, look bm #[117, 110, 115, 105, 103, 110, 101, 100] _ (w.alloc o) := fun o => E.ku _ (one_old w o bm E.lt)
  have u2 : ∀ o o', look bm #[117, 110, 115, 105, 103, 110, 101, 100] _ ((w.alloc o).alloc o') := fun o o' => E.ku _ (two_old w o o' bm E.lt)
  have c1 : ∀ o, look bm #[99, 104, 97, 114] _ (w.alloc o) := fun o => E.kc _ (one_old w o bm E.lt)
  have c2 : ∀ o o', look bm #[99, 104, 97, 114] _ ((w.alloc o).alloc o') := fun o o' => E.kc _ (two_old w o o' bm E.lt)
  have sh1 : ∀ o, look bm #[115, 104, 111, 114, 116] _ (w.alloc o) := fun o => E.ksh _ (one_old w o bm E.lt)
  have sh2 : ∀ o o', look bm #[115, 104, 111, 114, 116] _ ((w.alloc o).alloc o') := fun o o' => E.ksh _ (two_old w o o' bm E.lt)
  have i1 : ∀ o, look bm #[105, 110, 116] _ (w.alloc o) := fun o => E.ki _ (one_old w o bm E.lt)
  have i2 : ∀ o o', look bm #[105, 110, 116] _ ((w.alloc o).alloc o') := fun o o' => E.ki _ (two_old w o o' bm E.lt)
  have l1 : ∀ o, look bm #[108, 111, 110, 103] _ (w.alloc o) := fun o => E.kl _ (one_old w o bm E.lt)
  have l2 : ∀ o o', look bm #[108, 111, 110, 103] _ ((w.alloc o).alloc o') := fun o o' => E.kl _ (two_old w o o' bm E.lt)
  have b1 : ∀ o, look bm #[95, 66, 111, 111, 108] _ (w.alloc o) := fun o => E.kb _ (one_old w o bm E.lt)
  have b2 : ∀ o o', look bm #[95, 66, 111, 111, 108] _ ((w.alloc o).alloc o') := fun o o' => E.kb _ (two_old w o o' bm E.lt)
  have g1_0 : ∀ o o', ((w.alloc o).alloc o').cell? ⟨1, 0, none⟩ = some (.string { data := #[115, 105, 103, 110, 101, 100, 32, 99, 104, 97, 114] }) := fun o o' => ((E.gl.one o).one o').cell (by decide) rfl
  have g1_1 : ∀ o o', ((w.alloc o).alloc o').cell? ⟨1, 1, none⟩ = some (.int .i64 8) := fun o o' => ((E.gl.one o).one o').cell (by decide) rfl
  have g1_2 : ∀ o o', ((w.alloc o).alloc o').cell? ⟨1, 2, none⟩ = some (.bool false) := fun o o' => ((E.gl.one o).one o').cell (by decide) rfl
  have g1_3 : ∀ o o', ((w.alloc o).alloc o').cell? ⟨1, 3, none⟩ = some (.int .i64 1) := fun o o' => ((E.gl.one o).one o').cell (by decide) rfl
  clear E
  go_enter Ybad.func8, Ybad.ntmps8
  go_wp2
  exact bodyPost_ret (v := .tuple #[.agg (tyc 2).toArray, .bool true]) (by simp [results, Ybad.results8, go_sem]; rfl) rfl ⟨rfl, ((Below.refl _ _).alloc (Nat.le_refl _) _).alloc (by simp) _⟩

set_option maxHeartbeats 1000000 in
theorem sp_p12_0 {w : World} {bm : Nat} {s u c sh i l b : Int} (E : Env w bm s u c sh i l b) (h0 : 0 ≤ s) (h1 : s ≤ 3) (h2 : 0 ≤ u) (h3 : u ≤ 3) (h4 : 0 ≤ c) (h5 : c ≤ 3) (h6 : 0 ≤ sh) (h7 : sh ≤ 3) (h8 : 0 ≤ i) (h9 : i ≤ 3) (h10 : 0 ≤ l) (h11 : l ≤ 3) (h12 : 0 ≤ b) (h13 : b ≤ 3) (q1 : s + u ≤ 1) (q2 : c ≤ 1) (q3 : sh ≤ 1) (q4 : i ≤ 1) (q5 : l ≤ 2) (eb : b = 0) (es : s = 0) (eu : u = 0) (ec : c = 1) (esh : sh = 0) (ei : i = 0) (el : l = 0) :
    Calls Ybad.prog 8 #[.map (some bm)] w fun e w' => e = .returned (.tuple #[.agg (tyc 1).toArray, .bool true]) ∧ Below w.heap.size w w' := by
  subst eb es eu ec esh ei el
  have s1 : ∀ o, look bm #[115, 105, 103, 110, 101, 100] _ (w.alloc o) := fun o => E.ks _ (one_old w o bm E.lt)
  have s2 : ∀ o o', look bm #[115, 105, 103, 110, 101, 100] _ ((w.alloc o).alloc o') := fun o o' => E.ks _ (two_old w o o' bm E.lt)
  have u1 : ∀ o, look bm #[117, 110, 115, 105, 103, 110, 101, 100] _ (w.alloc o) := fun o => E.ku _ (one_old w o bm E.lt)
  have u2 : ∀ o o', look bm #[117, 110, 115, 105, 103, 110, 101, 100] _ ((w.alloc o).alloc o') := fun o o' => E.ku _ (two_old w o o' bm E.lt)
  have c1 : ∀ o, look bm #[99, 104, 97, 114] _ (w.alloc o) := fun o => E.kc _ (one_old w o bm E.lt)
  have c2 : ∀ o o', look bm #[99, 104, 97, 114] _ ((w.alloc o).alloc o') := fun o o' => E.kc _ (two_old w o o' bm E.lt)
  have sh1 : ∀ o, look bm #[115, 104, 111, 114, 116] _ (w.alloc o) := fun o => E.ksh _ (one_old w o bm E.lt)
  have sh2 : ∀ o o', look bm #[115, 104, 111, 114, 116] _ ((w.alloc o).alloc o') := fun o o' => E.ksh _ (two_old w o o' bm E.lt)
  have i1 : ∀ o, look bm #[105, 110, 116] _ (w.alloc o) := fun o => E.ki _ (one_old w o bm E.lt)
  have i2 : ∀ o o', look bm #[105, 110, 116] _ ((w.alloc o).alloc o') := fun o o' => E.ki _ (two_old w o o' bm E.lt)
  have l1 : ∀ o, look bm #[108, 111, 110, 103] _ (w.alloc o) := fun o => E.kl _ (one_old w o bm E.lt)
  have l2 : ∀ o o', look bm #[108, 111, 110, 103] _ ((w.alloc o).alloc o') := fun o o' => E.kl _ (two_old w o o' bm E.lt)
  have b1 : ∀ o, look bm #[95, 66, 111, 111, 108] _ (w.alloc o) := fun o => E.kb _ (one_old w o bm E.lt)
  have b2 : ∀ o o', look bm #[95, 66, 111, 111, 108] _ ((w.alloc o).alloc o') := fun o o' => E.kb _ (two_old w o o' bm E.lt)
  have g2_0 : ∀ o o', ((w.alloc o).alloc o').cell? ⟨2, 0, none⟩ = some (.string { data := #[99, 104, 97, 114] }) := fun o o' => ((E.gl.one o).one o').cell (by decide) rfl
  have g2_1 : ∀ o o', ((w.alloc o).alloc o').cell? ⟨2, 1, none⟩ = some (.int .i64 8) := fun o o' => ((E.gl.one o).one o').cell (by decide) rfl
  have g2_2 : ∀ o o', ((w.alloc o).alloc o').cell? ⟨2, 2, none⟩ = some (.bool false) := fun o o' => ((E.gl.one o).one o').cell (by decide) rfl
  have g2_3 : ∀ o o', ((w.alloc o).alloc o').cell? ⟨2, 3, none⟩ = some (.int .i64 1) := fun o o' => ((E.gl.one o).one o').cell (by decide) rfl
  have g3_0 : ∀ o o', ((w.alloc o).alloc o').cell? ⟨3, 0, none⟩ = some (.string { data := #[117, 110, 115, 105, 103, 110, 101, 100, 32, 99, 104, 97, 114] }) := fun o o' => ((E.gl.one o).one o').cell (by decide) rfl
  have g3_1 : ∀ o o', ((w.alloc o).alloc o').cell? ⟨3, 1, none⟩ = some (.int .i64 8) := fun o o' => ((E.gl.one o).one o').cell (by decide) rfl
  have g3_2 : ∀ o o', ((w.alloc o).alloc o').cell? ⟨3, 2, none⟩ = some (.bool true) := fun o o' => ((E.gl.one o).one o').cell (by decide) rfl
  have g3_3 : ∀ o o', ((w.alloc o).alloc o').cell? ⟨3, 3, none⟩ = some (.int .i64 1) := fun o o' => ((E.gl.one o).one o').cell (by decide) rfl
  clear E
  go_enter Ybad.func8, Ybad.ntmps8
  go_wp2
  exact bodyPost_ret (v := .tuple #[.agg (tyc 1).toArray, .bool true]) (by simp [results, Ybad.results8, go_sem]; rfl) rfl ⟨rfl, ((Below.refl _ _).alloc (Nat.le_refl _) _).alloc (by simp) _⟩

set_option maxHeartbeats 1000000 in
theorem sp_p12_1 {w : World} {bm : Nat} {s u c sh i l b : Int} (E : Env w bm s u c sh i l b) (h0 : 0 ≤ s) (h1 : s ≤ 3) (h2 : 0 ≤ u) (h3 : u ≤ 3) (h4 : 0 ≤ c) (h5 : c ≤ 3) (h6 : 0 ≤ sh) (h7 : sh ≤ 3) (h8 : 0 ≤ i) (h9 : i ≤ 3) (h10 : 0 ≤ l) (h11 : l ≤ 3) (h12 : 0 ≤ b) (h13 : b ≤ 3) (q1 : s + u ≤ 1) (q2 : c ≤ 1) (q3 : sh ≤ 1) (q4 : i ≤ 1) (q5 : l ≤ 2) (eb : b = 0) (es : s = 0) (eu : u = 1) (ec : c = 1) (esh : sh = 0) (ei : i = 0) (el : l = 0) :
    Calls Ybad.prog 8 #[.map (some bm)] w fun e w' => e = .returned (.tuple #[.agg (tyc 3).toArray, .bool true]) ∧ Below w.heap.size w w' := by
  subst eb es eu ec esh ei el
  have s1 : ∀ o, look bm #[115, 105, 103, 110, 101, 100] _ (w.alloc o) := fun o => E.ks _ (one_old w o bm E.lt)
  have s2 : ∀ o o', look bm #[115, 105, 103, 110, 101, 100] _ ((w.alloc o).alloc o') := fun o o' => E.ks _ (two_old w o o' bm E.lt)
  have u1 : ∀ o, look bm #[117, 110, 115, 105, 103, 110, 101, 100] _ (w.alloc o) := fun o => E.ku _ (one_old w o bm E.lt)
  have u2 : ∀ o o', look bm #[117, 110, 115, 105, 103, 110, 101, 100] _ ((w.alloc o).alloc o') := fun o o' => E.ku _ (two_old w o o' bm E.lt)
  have c1 : ∀ o, look bm #[99, 104, 97, 114] _ (w.alloc o) := fun o => E.kc _ (one_old w o bm E.lt)
  have c2 : ∀ o o', look bm #[99, 104, 97, 114] _ ((w.alloc o).alloc o') := fun o o' => E.kc _ (two_old w o o' bm E.lt)
  have sh1 : ∀ o, look bm #[115, 104, 111, 114, 116] _ (w.alloc o) := fun o => E.ksh _ (one_old w o bm E.lt)
  have sh2 : ∀ o o', look bm #[115, 104, 111, 114, 116] _ ((w.alloc o).alloc o') := fun o o' => E.ksh _ (two_old w o o' bm E.lt)
  have i1 : ∀ o, look bm #[105, 110, 116] _ (w.alloc o) := fun o => E.ki _ (one_old w o bm E.lt)
  have i2 : ∀ o o', look bm #[105, 110, 116] _ ((w.alloc o).alloc o') := fun o o' => E.ki _ (two_old w o o' bm E.lt)
  have l1 : ∀ o, look bm #[108, 111, 110, 103] _ (w.alloc o) := fun o => E.kl _ (one_old w o bm E.lt)
  have l2 : ∀ o o', look bm #[108, 111, 110, 103] _ ((w.alloc o).alloc o') := fun o o' => E.kl _ (two_old w o o' bm E.lt)
  have b1 : ∀ o, look bm #[95, 66, 111, 111, 108] _ (w.alloc o) := fun o => E.kb _ (one_old w o bm E.lt)
  have b2 : ∀ o o', look bm #[95, 66, 111, 111, 108] _ ((w.alloc o).alloc o') := fun o o' => E.kb _ (two_old w o o' bm E.lt)
  have g2_0 : ∀ o o', ((w.alloc o).alloc o').cell? ⟨2, 0, none⟩ = some (.string { data := #[99, 104, 97, 114] }) := fun o o' => ((E.gl.one o).one o').cell (by decide) rfl
  have g2_1 : ∀ o o', ((w.alloc o).alloc o').cell? ⟨2, 1, none⟩ = some (.int .i64 8) := fun o o' => ((E.gl.one o).one o').cell (by decide) rfl
  have g2_2 : ∀ o o', ((w.alloc o).alloc o').cell? ⟨2, 2, none⟩ = some (.bool false) := fun o o' => ((E.gl.one o).one o').cell (by decide) rfl
  have g2_3 : ∀ o o', ((w.alloc o).alloc o').cell? ⟨2, 3, none⟩ = some (.int .i64 1) := fun o o' => ((E.gl.one o).one o').cell (by decide) rfl
  have g3_0 : ∀ o o', ((w.alloc o).alloc o').cell? ⟨3, 0, none⟩ = some (.string { data := #[117, 110, 115, 105, 103, 110, 101, 100, 32, 99, 104, 97, 114] }) := fun o o' => ((E.gl.one o).one o').cell (by decide) rfl
  have g3_1 : ∀ o o', ((w.alloc o).alloc o').cell? ⟨3, 1, none⟩ = some (.int .i64 8) := fun o o' => ((E.gl.one o).one o').cell (by decide) rfl
  have g3_2 : ∀ o o', ((w.alloc o).alloc o').cell? ⟨3, 2, none⟩ = some (.bool true) := fun o o' => ((E.gl.one o).one o').cell (by decide) rfl
  have g3_3 : ∀ o o', ((w.alloc o).alloc o').cell? ⟨3, 3, none⟩ = some (.int .i64 1) := fun o o' => ((E.gl.one o).one o').cell (by decide) rfl
  clear E
  go_enter Ybad.func8, Ybad.ntmps8
  go_wp2
  exact bodyPost_ret (v := .tuple #[.agg (tyc 3).toArray, .bool true]) (by simp [results, Ybad.results8, go_sem]; rfl) rfl ⟨rfl, ((Below.refl _ _).alloc (Nat.le_refl _) _).alloc (by simp) _⟩

set_option maxHeartbeats 1000000 in
theorem sp_p13_0 {w : World} {bm : Nat} {s u c sh i l b : Int} (E : Env w bm s u c sh i l b) (h0 : 0 ≤ s) (h1 : s ≤ 3) (h2 : 0 ≤ u) (h3 : u ≤ 3) (h4 : 0 ≤ c) (h5 : c ≤ 3) (h6 : 0 ≤ sh) (h7 : sh ≤ 3) (h8 : 0 ≤ i) (h9 : i ≤ 3) (h10 : 0 ≤ l) (h11 : l ≤ 3) (h12 : 0 ≤ b) (h13 : b ≤ 3) (q1 : s + u ≤ 1) (q2 : c ≤ 1) (q3 : sh ≤ 1) (q4 : i ≤ 1) (q5 : l ≤ 2) (eb : b = 0) (eu : u = 0) (ec : c = 0) (esh : sh = 1) (el : l = 0) :
    Calls Ybad.prog 8 #[.map (some bm)] w fun e w' => e = .returned (.tuple #[.agg (tyc 4).toArray, .bool true]) ∧ Below w.heap.size w w' := by
  subst eb eu ec esh el
  have s1 : ∀ o, look bm #[115, 105, 103, 110, 101, 100] s (w.alloc o) := fun o => E.ks _ (one_old w o bm E.lt)
  have s2 : ∀ o o', look bm #[115, 105, 103, 110, 101, 100] s ((w.alloc o).alloc o') := fun o o' => E.ks _ (two_old w o o' bm E.lt)
  have u1 : ∀ o, look bm #[117, 110, 115, 105, 103, 110, 101, 100] _ (w.alloc o) := fun o => E.ku _ (one_old w o bm E.lt)
  have u2 : ∀ o o', look bm #[117, 110, 115, 105, 103, 110, 101, 100] _ ((w.alloc o).alloc o') := fun o o' => E.ku _ (two_old w o o' bm E.lt)
  have c1 : ∀ o, look bm #[99, 104, 97, 114] _ (w.alloc o) := fun o => E.kc _ (one_old w o bm E.lt)
  have c2 : ∀ o o', look bm #[99, 104, 97, 114] _ ((w.alloc o).alloc o') := fun o o' => E.kc _ (two_old w o o' bm E.lt)
  have sh1 : ∀ o, look bm #[115, 104, 111, 114, 116] _ (w.alloc o) := fun o => E.ksh _ (one_old w o bm E.lt)
  have sh2 : ∀ o o', look bm #[115, 104, 111, 114, 116] _ ((w.alloc o).alloc o') := fun o o' => E.ksh _ (two_old w o o' bm E.lt)
  have i1 : ∀ o, look bm #[105, 110, 116] i (w.alloc o) := fun o => E.ki _ (one_old w o bm E.lt)
  have i2 : ∀ o o', look bm #[105, 110, 116] i ((w.alloc o).alloc o') := fun o o' => E.ki _ (two_old w o o' bm E.lt)
  have l1 : ∀ o, look bm #[108, 111, 110, 103] _ (w.alloc o) := fun o => E.kl _ (one_old w o bm E.lt)
  have l2 : ∀ o o', look bm #[108, 111, 110, 103] _ ((w.alloc o).alloc o') := fun o o' => E.kl _ (two_old w o o' bm E.lt)
  have b1 : ∀ o, look bm #[95, 66, 111, 111, 108] _ (w.alloc o) := fun o => E.kb _ (one_old w o bm E.lt)
  have b2 : ∀ o o', look bm #[95, 66, 111, 111, 108] _ ((w.alloc o).alloc o') := fun o o' => E.kb _ (two_old w o o' bm E.lt)
  have g4_0 : ∀ o o', ((w.alloc o).alloc o').cell? ⟨4, 0, none⟩ = some (.string { data := #[115, 104, 111, 114, 116] }) := fun o o' => ((E.gl.one o).one o').cell (by decide) rfl
  have g4_1 : ∀ o o', ((w.alloc o).alloc o').cell? ⟨4, 1, none⟩ = some (.int .i64 16) := fun o o' => ((E.gl.one o).one o').cell (by decide) rfl
  have g4_2 : ∀ o o', ((w.alloc o).alloc o').cell? ⟨4, 2, none⟩ = some (.bool false) := fun o o' => ((E.gl.one o).one o').cell (by decide) rfl
  have g4_3 : ∀ o o', ((w.alloc o).alloc o').cell? ⟨4, 3, none⟩ = some (.int .i64 2) := fun o o' => ((E.gl.one o).one o').cell (by decide) rfl
  have g5_0 : ∀ o o', ((w.alloc o).alloc o').cell? ⟨5, 0, none⟩ = some (.string { data := #[117, 110, 115, 105, 103, 110, 101, 100, 32, 115, 104, 111, 114, 116] }) := fun o o' => ((E.gl.one o).one o').cell (by decide) rfl
  have g5_1 : ∀ o o', ((w.alloc o).alloc o').cell? ⟨5, 1, none⟩ = some (.int .i64 16) := fun o o' => ((E.gl.one o).one o').cell (by decide) rfl
  have g5_2 : ∀ o o', ((w.alloc o).alloc o').cell? ⟨5, 2, none⟩ = some (.bool true) := fun o o' => ((E.gl.one o).one o').cell (by decide) rfl
  have g5_3 : ∀ o o', ((w.alloc o).alloc o').cell? ⟨5, 3, none⟩ = some (.int .i64 2) := fun o o' => ((E.gl.one o).one o').cell (by decide) rfl
  clear E
  go_enter Ybad.func8, Ybad.ntmps8
  go_wp2
  exact bodyPost_ret (v := .tuple #[.agg (tyc 4).toArray, .bool true]) (by simp [results, Ybad.results8, go_sem]; rfl) rfl ⟨rfl, ((Below.refl _ _).alloc (Nat.le_refl _) _).alloc (by simp) _⟩

set_option maxHeartbeats 1000000 in
theorem sp_p13_1 {w : World} {bm : Nat} {s u c sh i l b : Int} (E : Env w bm s u c sh i l b) (h0 : 0 ≤ s) (h1 : s ≤ 3) (h2 : 0 ≤ u) (h3 : u ≤ 3) (h4 : 0 ≤ c) (h5 : c ≤ 3) (h6 : 0 ≤ sh) (h7 : sh ≤ 3) (h8 : 0 ≤ i) (h9 : i ≤ 3) (h10 : 0 ≤ l) (h11 : l ≤ 3) (h12 : 0 ≤ b) (h13 : b ≤ 3) (q1 : s + u ≤ 1) (q2 : c ≤ 1) (q3 : sh ≤ 1) (q4 : i ≤ 1) (q5 : l ≤ 2) (eb : b = 0) (eu : u = 1) (ec : c = 0) (esh : sh = 1) (el : l = 0) :
    Calls Ybad.prog 8 #[.map (some bm)] w fun e w' => e = .returned (.tuple #[.agg (tyc 5).toArray, .bool true]) ∧ Below w.heap.size w w' := by
  subst eb eu ec esh el
  have s1 : ∀ o, look bm #[115, 105, 103, 110, 101, 100] s (w.alloc o) := fun o => E.ks _ (one_old w o bm E.lt)
  have s2 : ∀ o o', look bm #[115, 105, 103, 110, 101, 100] s ((w.alloc o).alloc o') := fun o o' => E.ks _ (two_old w o o' bm E.lt)
  have u1 : ∀ o, look bm #[117, 110, 115, 105, 103, 110, 101, 100] _ (w.alloc o) := fun o => E.ku _ (one_old w o bm E.lt)
  have u2 : ∀ o o', look bm #[117, 110, 115, 105, 103, 110, 101, 100] _ ((w.alloc o).alloc o') := fun o o' => E.ku _ (two_old w o o' bm E.lt)
  have c1 : ∀ o, look bm #[99, 104, 97, 114] _ (w.alloc o) := fun o => E.kc _ (one_old w o bm E.lt)
  have c2 : ∀ o o', look bm #[99, 104, 97, 114] _ ((w.alloc o).alloc o') := fun o o' => E.kc _ (two_old w o o' bm E.lt)
  have sh1 : ∀ o, look bm #[115, 104, 111, 114, 116] _ (w.alloc o) := fun o => E.ksh _ (one_old w o bm E.lt)
  have sh2 : ∀ o o', look bm #[115, 104, 111, 114, 116] _ ((w.alloc o).alloc o') := fun o o' => E.ksh _ (two_old w o o' bm E.lt)
  have i1 : ∀ o, look bm #[105, 110, 116] i (w.alloc o) := fun o => E.ki _ (one_old w o bm E.lt)
  have i2 : ∀ o o', look bm #[105, 110, 116] i ((w.alloc o).alloc o') := fun o o' => E.ki _ (two_old w o o' bm E.lt)
  have l1 : ∀ o, look bm #[108, 111, 110, 103] _ (w.alloc o) := fun o => E.kl _ (one_old w o bm E.lt)
  have l2 : ∀ o o', look bm #[108, 111, 110, 103] _ ((w.alloc o).alloc o') := fun o o' => E.kl _ (two_old w o o' bm E.lt)
  have b1 : ∀ o, look bm #[95, 66, 111, 111, 108] _ (w.alloc o) := fun o => E.kb _ (one_old w o bm E.lt)
  have b2 : ∀ o o', look bm #[95, 66, 111, 111, 108] _ ((w.alloc o).alloc o') := fun o o' => E.kb _ (two_old w o o' bm E.lt)
  have g4_0 : ∀ o o', ((w.alloc o).alloc o').cell? ⟨4, 0, none⟩ = some (.string { data := #[115, 104, 111, 114, 116] }) := fun o o' => ((E.gl.one o).one o').cell (by decide) rfl
  have g4_1 : ∀ o o', ((w.alloc o).alloc o').cell? ⟨4, 1, none⟩ = some (.int .i64 16) := fun o o' => ((E.gl.one o).one o').cell (by decide) rfl
  have g4_2 : ∀ o o', ((w.alloc o).alloc o').cell? ⟨4, 2, none⟩ = some (.bool false) := fun o o' => ((E.gl.one o).one o').cell (by decide) rfl
  have g4_3 : ∀ o o', ((w.alloc o).alloc o').cell? ⟨4, 3, none⟩ = some (.int .i64 2) := fun o o' => ((E.gl.one o).one o').cell (by decide) rfl
  have g5_0 : ∀ o o', ((w.alloc o).alloc o').cell? ⟨5, 0, none⟩ = some (.string { data := #[117, 110, 115, 105, 103, 110, 101, 100, 32, 115, 104, 111, 114, 116] }) := fun o o' => ((E.gl.one o).one o').cell (by decide) rfl
  have g5_1 : ∀ o o', ((w.alloc o).alloc o').cell? ⟨5, 1, none⟩ = some (.int .i64 16) := fun o o' => ((E.gl.one o).one o').cell (by decide) rfl
  have g5_2 : ∀ o o', ((w.alloc o).alloc o').cell? ⟨5, 2, none⟩ = some (.bool true) := fun o o' => ((E.gl.one o).one o').cell (by decide) rfl
  have g5_3 : ∀ o o', ((w.alloc o).alloc o').cell? ⟨5, 3, none⟩ = some (.int .i64 2) := fun o o' => ((E.gl.one o).one o').cell (by decide) rfl
  clear E
  go_enter Ybad.func8, Ybad.ntmps8
  go_wp2
  exact bodyPost_ret (v := .tuple #[.agg (tyc 5).toArray, .bool true]) (by simp [results, Ybad.results8, go_sem]; rfl) rfl ⟨rfl, ((Below.refl _ _).alloc (Nat.le_refl _) _).alloc (by simp) _⟩

set_option maxHeartbeats 1000000 in
theorem sp_p14_0 {w : World} {bm : Nat} {s u c sh i l b : Int} (E : Env w bm s u c sh i l b) (h0 : 0 ≤ s) (h1 : s ≤ 3) (h2 : 0 ≤ u) (h3 : u ≤ 3) (h4 : 0 ≤ c) (h5 : c ≤ 3) (h6 : 0 ≤ sh) (h7 : sh ≤ 3) (h8 : 0 ≤ i) (h9 : i ≤ 3) (h10 : 0 ≤ l) (h11 : l ≤ 3) (h12 : 0 ≤ b) (h13 : b ≤ 3) (q1 : s + u ≤ 1) (q2 : c ≤ 1) (q3 : sh ≤ 1) (q4 : i ≤ 1) (q5 : l ≤ 2) (eb : b = 0) (eu : u = 0) (ec : c = 0) (esh : sh = 0) (el : l = 2) :
    Calls Ybad.prog 8 #[.map (some bm)] w fun e w' => e = .returned (.tuple #[.agg (tyc 10).toArray, .bool true]) ∧ Below w.heap.size w w' := by
  subst eb eu ec esh el
  have s1 : ∀ o, look bm #[115, 105, 103, 110, 101, 100] s (w.alloc o) := fun o => E.ks _ (one_old w o bm E.lt)
  have s2 : ∀ o o', look bm #[115, 105, 103, 110, 101, 100] s ((w.alloc o).alloc o') := fun o o' => E.ks _ (two_old w o o' bm E.lt)
  have u1 : ∀ o, look bm #[117, 110, 115, 105, 103, 110, 101, 100] _ (w.alloc o) := fun o => E.ku _ (one_old w o bm E.lt)
  have u2 : ∀ o o', look bm #[117, 110, 115, 105, 103, 110, 101, 100] _ ((w.alloc o).alloc o') := fun o o' => E.ku _ (two_old w o o' bm E.lt)
  have c1 : ∀ o, look bm #[99, 104, 97, 114] _ (w.alloc o) := fun o => E.kc _ (one_old w o bm E.lt)
  have c2 : ∀ o o', look bm #[99, 104, 97, 114] _ ((w.alloc o).alloc o') := fun o o' => E.kc _ (two_old w o o' bm E.lt)
  have sh1 : ∀ o, look bm #[115, 104, 111, 114, 116] _ (w.alloc o) := fun o => E.ksh _ (one_old w o bm E.lt)
  have sh2 : ∀ o o', look bm #[115, 104, 111, 114, 116] _ ((w.alloc o).alloc o') := fun o o' => E.ksh _ (two_old w o o' bm E.lt)
  have i1 : ∀ o, look bm #[105, 110, 116] i (w.alloc o) := fun o => E.ki _ (one_old w o bm E.lt)
  have i2 : ∀ o o', look bm #[105, 110, 116] i ((w.alloc o).alloc o') := fun o o' => E.ki _ (two_old w o o' bm E.lt)
  have l1 : ∀ o, look bm #[108, 111, 110, 103] _ (w.alloc o) := fun o => E.kl _ (one_old w o bm E.lt)
  have l2 : ∀ o o', look bm #[108, 111, 110, 103] _ ((w.alloc o).alloc o') := fun o o' => E.kl _ (two_old w o o' bm E.lt)
  have b1 : ∀ o, look bm #[95, 66, 111, 111, 108] _ (w.alloc o) := fun o => E.kb _ (one_old w o bm E.lt)
  have b2 : ∀ o o', look bm #[95, 66, 111, 111, 108] _ ((w.alloc o).alloc o') := fun o o' => E.kb _ (two_old w o o' bm E.lt)
  have g6_0 : ∀ o o', ((w.alloc o).alloc o').cell? ⟨6, 0, none⟩ = some (.string { data := #[108, 111, 110, 103, 32, 108, 111, 110, 103] }) := fun o o' => ((E.gl.one o).one o').cell (by decide) rfl
  have g6_1 : ∀ o o', ((w.alloc o).alloc o').cell? ⟨6, 1, none⟩ = some (.int .i64 64) := fun o o' => ((E.gl.one o).one o').cell (by decide) rfl
  have g6_2 : ∀ o o', ((w.alloc o).alloc o').cell? ⟨6, 2, none⟩ = some (.bool false) := fun o o' => ((E.gl.one o).one o').cell (by decide) rfl
  have g6_3 : ∀ o o', ((w.alloc o).alloc o').cell? ⟨6, 3, none⟩ = some (.int .i64 5) := fun o o' => ((E.gl.one o).one o').cell (by decide) rfl
  have g7_0 : ∀ o o', ((w.alloc o).alloc o').cell? ⟨7, 0, none⟩ = some (.string { data := #[117, 110, 115, 105, 103, 110, 101, 100, 32, 108, 111, 110, 103, 32, 108, 111, 110, 103] }) := fun o o' => ((E.gl.one o).one o').cell (by decide) rfl
  have g7_1 : ∀ o o', ((w.alloc o).alloc o').cell? ⟨7, 1, none⟩ = some (.int .i64 64) := fun o o' => ((E.gl.one o).one o').cell (by decide) rfl
  have g7_2 : ∀ o o', ((w.alloc o).alloc o').cell? ⟨7, 2, none⟩ = some (.bool true) := fun o o' => ((E.gl.one o).one o').cell (by decide) rfl
  have g7_3 : ∀ o o', ((w.alloc o).alloc o').cell? ⟨7, 3, none⟩ = some (.int .i64 5) := fun o o' => ((E.gl.one o).one o').cell (by decide) rfl
  clear E
  go_enter Ybad.func8, Ybad.ntmps8
  go_wp2
  exact bodyPost_ret (v := .tuple #[.agg (tyc 10).toArray, .bool true]) (by simp [results, Ybad.results8, go_sem]; rfl) rfl ⟨rfl, ((Below.refl _ _).alloc (Nat.le_refl _) _).alloc (by simp) _⟩

set_option maxHeartbeats 1000000 in
theorem sp_p14_1 {w : World} {bm : Nat} {s u c sh i l b : Int} (E : Env w bm s u c sh i l b) (h0 : 0 ≤ s) (h1 : s ≤ 3) (h2 : 0 ≤ u) (h3 : u ≤ 3) (h4 : 0 ≤ c) (h5 : c ≤ 3) (h6 : 0 ≤ sh) (h7 : sh ≤ 3) (h8 : 0 ≤ i) (h9 : i ≤ 3) (h10 : 0 ≤ l) (h11 : l ≤ 3) (h12 : 0 ≤ b) (h13 : b ≤ 3) (q1 : s + u ≤ 1) (q2 : c ≤ 1) (q3 : sh ≤ 1) (q4 : i ≤ 1) (q5 : l ≤ 2) (eb : b = 0) (eu : u = 1) (ec : c = 0) (esh : sh = 0) (el : l = 2) :
    Calls Ybad.prog 8 #[.map (some bm)] w fun e w' => e = .returned (.tuple #[.agg (tyc 11).toArray, .bool true]) ∧ Below w.heap.size w w' := by
  subst eb eu ec esh el
  have s1 : ∀ o, look bm #[115, 105, 103, 110, 101, 100] s (w.alloc o) := fun o => E.ks _ (one_old w o bm E.lt)
  have s2 : ∀ o o', look bm #[115, 105, 103, 110, 101, 100] s ((w.alloc o).alloc o') := fun o o' => E.ks _ (two_old w o o' bm E.lt)
  have u1 : ∀ o, look bm #[117, 110, 115, 105, 103, 110, 101, 100] _ (w.alloc o) := fun o => E.ku _ (one_old w o bm E.lt)
  have u2 : ∀ o o', look bm #[117, 110, 115, 105, 103, 110, 101, 100] _ ((w.alloc o).alloc o') := fun o o' => E.ku _ (two_old w o o' bm E.lt)
  have c1 : ∀ o, look bm #[99, 104, 97, 114] _ (w.alloc o) := fun o => E.kc _ (one_old w o bm E.lt)
  have c2 : ∀ o o', look bm #[99, 104, 97, 114] _ ((w.alloc o).alloc o') := fun o o' => E.kc _ (two_old w o o' bm E.lt)
  have sh1 : ∀ o, look bm #[115, 104, 111, 114, 116] _ (w.alloc o) := fun o => E.ksh _ (one_old w o bm E.lt)
  have sh2 : ∀ o o', look bm #[115, 104, 111, 114, 116] _ ((w.alloc o).alloc o') := fun o o' => E.ksh _ (two_old w o o' bm E.lt)
  have i1 : ∀ o, look bm #[105, 110, 116] i (w.alloc o) := fun o => E.ki _ (one_old w o bm E.lt)
  have i2 : ∀ o o', look bm #[105, 110, 116] i ((w.alloc o).alloc o') := fun o o' => E.ki _ (two_old w o o' bm E.lt)
  have l1 : ∀ o, look bm #[108, 111, 110, 103] _ (w.alloc o) := fun o => E.kl _ (one_old w o bm E.lt)
  have l2 : ∀ o o', look bm #[108, 111, 110, 103] _ ((w.alloc o).alloc o') := fun o o' => E.kl _ (two_old w o o' bm E.lt)
  have b1 : ∀ o, look bm #[95, 66, 111, 111, 108] _ (w.alloc o) := fun o => E.kb _ (one_old w o bm E.lt)
  have b2 : ∀ o o', look bm #[95, 66, 111, 111, 108] _ ((w.alloc o).alloc o') := fun o o' => E.kb _ (two_old w o o' bm E.lt)
  have g6_0 : ∀ o o', ((w.alloc o).alloc o').cell? ⟨6, 0, none⟩ = some (.string { data := #[108, 111, 110, 103, 32, 108, 111, 110, 103] }) := fun o o' => ((E.gl.one o).one o').cell (by decide) rfl
  have g6_1 : ∀ o o', ((w.alloc o).alloc o').cell? ⟨6, 1, none⟩ = some (.int .i64 64) := fun o o' => ((E.gl.one o).one o').cell (by decide) rfl
  have g6_2 : ∀ o o', ((w.alloc o).alloc o').cell? ⟨6, 2, none⟩ = some (.bool false) := fun o o' => ((E.gl.one o).one o').cell (by decide) rfl
  have g6_3 : ∀ o o', ((w.alloc o).alloc o').cell? ⟨6, 3, none⟩ = some (.int .i64 5) := fun o o' => ((E.gl.one o).one o').cell (by decide) rfl
  have g7_0 : ∀ o o', ((w.alloc o).alloc o').cell? ⟨7, 0, none⟩ = some (.string { data := #[117, 110, 115, 105, 103, 110, 101, 100, 32, 108, 111, 110, 103, 32, 108, 111, 110, 103] }) := fun o o' => ((E.gl.one o).one o').cell (by decide) rfl
  have g7_1 : ∀ o o', ((w.alloc o).alloc o').cell? ⟨7, 1, none⟩ = some (.int .i64 64) := fun o o' => ((E.gl.one o).one o').cell (by decide) rfl
  have g7_2 : ∀ o o', ((w.alloc o).alloc o').cell? ⟨7, 2, none⟩ = some (.bool true) := fun o o' => ((E.gl.one o).one o').cell (by decide) rfl
  have g7_3 : ∀ o o', ((w.alloc o).alloc o').cell? ⟨7, 3, none⟩ = some (.int .i64 5) := fun o o' => ((E.gl.one o).one o').cell (by decide) rfl
  clear E
  go_enter Ybad.func8, Ybad.ntmps8
  go_wp2
  exact bodyPost_ret (v := .tuple #[.agg (tyc 11).toArray, .bool true]) (by simp [results, Ybad.results8, go_sem]; rfl) rfl ⟨rfl, ((Below.refl _ _).alloc (Nat.le_refl _) _).alloc (by simp) _⟩

set_option maxHeartbeats 1000000 in
theorem sp_p15_0 {w : World} {bm : Nat} {s u c sh i l b : Int} (E : Env w bm s u c sh i l b) (h0 : 0 ≤ s) (h1 : s ≤ 3) (h2 : 0 ≤ u) (h3 : u ≤ 3) (h4 : 0 ≤ c) (h5 : c ≤ 3) (h6 : 0 ≤ sh) (h7 : sh ≤ 3) (h8 : 0 ≤ i) (h9 : i ≤ 3) (h10 : 0 ≤ l) (h11 : l ≤ 3) (h12 : 0 ≤ b) (h13 : b ≤ 3) (q1 : s + u ≤ 1) (q2 : c ≤ 1) (q3 : sh ≤ 1) (q4 : i ≤ 1) (q5 : l ≤ 2) (eb : b = 0) (eu : u = 0) (ec : c = 0) (esh : sh = 0) (el : l = 1) :
    Calls Ybad.prog 8 #[.map (some bm)] w fun e w' => e = .returned (.tuple #[.agg (tyc 8).toArray, .bool true]) ∧ Below w.heap.size w w' := by
  subst eb eu ec esh el
  have s1 : ∀ o, look bm #[115, 105, 103, 110, 101, 100] s (w.alloc o) := fun o => E.ks _ (one_old w o bm E.lt)
  have s2 : ∀ o o', look bm #[115, 105, 103, 110, 101, 100] s ((w.alloc o).alloc o') := fun o o' => E.ks _ (two_old w o o' bm E.lt)
  have u1 : ∀ o, look bm #[117, 110, 115, 105, 103, 110, 101, 100] _ (w.alloc o) := fun o => E.ku _ (one_old w o bm E.lt)
  have u2 : ∀ o o', look bm #[117, 110, 115, 105, 103, 110, 101, 100] _ ((w.alloc o).alloc o') := fun o o' => E.ku _ (two_old w o o' bm E.lt)
  have c1 : ∀ o, look bm #[99, 104, 97, 114] _ (w.alloc o) := fun o => E.kc _ (one_old w o bm E.lt)
  have c2 : ∀ o o', look bm #[99, 104, 97, 114] _ ((w.alloc o).alloc o') := fun o o' => E.kc _ (two_old w o o' bm E.lt)
  have sh1 : ∀ o, look bm #[115, 104, 111, 114, 116] _ (w.alloc o) := fun o => E.ksh _ (one_old w o bm E.lt)
  have sh2 : ∀ o o', look bm #[115, 104, 111, 114, 116] _ ((w.alloc o).alloc o') := fun o o' => E.ksh _ (two_old w o o' bm E.lt)
  have i1 : ∀ o, look bm #[105, 110, 116] i (w.alloc o) := fun o => E.ki _ (one_old w o bm E.lt)
  have i2 : ∀ o o', look bm #[105, 110, 116] i ((w.alloc o).alloc o') := fun o o' => E.ki _ (two_old w o o' bm E.lt)
  have l1 : ∀ o, look bm #[108, 111, 110, 103] _ (w.alloc o) := fun o => E.kl _ (one_old w o bm E.lt)
  have l2 : ∀ o o', look bm #[108, 111, 110, 103] _ ((w.alloc o).alloc o') := fun o o' => E.kl _ (two_old w o o' bm E.lt)
  have b1 : ∀ o, look bm #[95, 66, 111, 111, 108] _ (w.alloc o) := fun o => E.kb _ (one_old w o bm E.lt)
  have b2 : ∀ o o', look bm #[95, 66, 111, 111, 108] _ ((w.alloc o).alloc o') := fun o o' => E.kb _ (two_old w o o' bm E.lt)
  have g8_0 : ∀ o o', ((w.alloc o).alloc o').cell? ⟨8, 0, none⟩ = some (.string { data := #[108, 111, 110, 103] }) := fun o o' => ((E.gl.one o).one o').cell (by decide) rfl
  have g8_1 : ∀ o o', ((w.alloc o).alloc o').cell? ⟨8, 1, none⟩ = some (.int .i64 64) := fun o o' => ((E.gl.one o).one o').cell (by decide) rfl
  have g8_2 : ∀ o o', ((w.alloc o).alloc o').cell? ⟨8, 2, none⟩ = some (.bool false) := fun o o' => ((E.gl.one o).one o').cell (by decide) rfl
  have g8_3 : ∀ o o', ((w.alloc o).alloc o').cell? ⟨8, 3, none⟩ = some (.int .i64 4) := fun o o' => ((E.gl.one o).one o').cell (by decide) rfl
  have g9_0 : ∀ o o', ((w.alloc o).alloc o').cell? ⟨9, 0, none⟩ = some (.string { data := #[117, 110, 115, 105, 103, 110, 101, 100, 32, 108, 111, 110, 103] }) := fun o o' => ((E.gl.one o).one o').cell (by decide) rfl
  have g9_1 : ∀ o o', ((w.alloc o).alloc o').cell? ⟨9, 1, none⟩ = some (.int .i64 64) := fun o o' => ((E.gl.one o).one o').cell (by decide) rfl
  have g9_2 : ∀ o o', ((w.alloc o).alloc o').cell? ⟨9, 2, none⟩ = some (.bool true) := fun o o' => ((E.gl.one o).one o').cell (by decide) rfl
  have g9_3 : ∀ o o', ((w.alloc o).alloc o').cell? ⟨9, 3, none⟩ = some (.int .i64 4) := fun o o' => ((E.gl.one o).one o').cell (by decide) rfl
  clear E
  go_enter Ybad.func8, Ybad.ntmps8
  go_wp2
  exact bodyPost_ret (v := .tuple #[.agg (tyc 8).toArray, .bool true]) (by simp [results, Ybad.results8, go_sem]; rfl) rfl ⟨rfl, ((Below.refl _ _).alloc (Nat.le_refl _) _).alloc (by simp) _⟩

set_option maxHeartbeats 1000000 in
theorem sp_p15_1 {w : World} {bm : Nat} {s u c sh i l b : Int} (E : Env w bm s u c sh i l b) (h0 : 0 ≤ s) (h1 : s ≤ 3) (h2 : 0 ≤ u) (h3 : u ≤ 3) (h4 : 0 ≤ c) (h5 : c ≤ 3) (h6 : 0 ≤ sh) (h7 : sh ≤ 3) (h8 : 0 ≤ i) (h9 : i ≤ 3) (h10 : 0 ≤ l) (h11 : l ≤ 3) (h12 : 0 ≤ b) (h13 : b ≤ 3) (q1 : s + u ≤ 1) (q2 : c ≤ 1) (q3 : sh ≤ 1) (q4 : i ≤ 1) (q5 : l ≤ 2) (eb : b = 0) (eu : u = 1) (ec : c = 0) (esh : sh = 0) (el : l = 1) :
    Calls Ybad.prog 8 #[.map (some bm)] w fun e w' => e = .returned (.tuple #[.agg (tyc 9).toArray, .bool true]) ∧ Below w.heap.size w w' := by
  subst eb eu ec esh el
  have s1 : ∀ o, look bm #[115, 105, 103, 110, 101, 100] s (w.alloc o) := fun o => E.ks _ (one_old w o bm E.lt)
  have s2 : ∀ o o', look bm #[115, 105, 103, 110, 101, 100] s ((w.alloc o).alloc o') := fun o o' => E.ks _ (two_old w o o' bm E.lt)
  have u1 : ∀ o, look bm #[117, 110, 115, 105, 103, 110, 101, 100] _ (w.alloc o) := fun o => E.ku _ (one_old w o bm E.lt)
  have u2 : ∀ o o', look bm #[117, 110, 115, 105, 103, 110, 101, 100] _ ((w.alloc o).alloc o') := fun o o' => E.ku _ (two_old w o o' bm E.lt)
  have c1 : ∀ o, look bm #[99, 104, 97, 114] _ (w.alloc o) := fun o => E.kc _ (one_old w o bm E.lt)
  have c2 : ∀ o o', look bm #[99, 104, 97, 114] _ ((w.alloc o).alloc o') := fun o o' => E.kc _ (two_old w o o' bm E.lt)
  have sh1 : ∀ o, look bm #[115, 104, 111, 114, 116] _ (w.alloc o) := fun o => E.ksh _ (one_old w o bm E.lt)
  have sh2 : ∀ o o', look bm #[115, 104, 111, 114, 116] _ ((w.alloc o).alloc o') := fun o o' => E.ksh _ (two_old w o o' bm E.lt)
  have i1 : ∀ o, look bm #[105, 110, 116] i (w.alloc o) := fun o => E.ki _ (one_old w o bm E.lt)
  have i2 : ∀ o o', look bm #[105, 110, 116] i ((w.alloc o).alloc o') := fun o o' => E.ki _ (two_old w o o' bm E.lt)
  have l1 : ∀ o, look bm #[108, 111, 110, 103] _ (w.alloc o) := fun o => E.kl _ (one_old w o bm E.lt)
  have l2 : ∀ o o', look bm #[108, 111, 110, 103] _ ((w.alloc o).alloc o') := fun o o' => E.kl _ (two_old w o o' bm E.lt)
  have b1 : ∀ o, look bm #[95, 66, 111, 111, 108] _ (w.alloc o) := fun o => E.kb _ (one_old w o bm E.lt)
  have b2 : ∀ o o', look bm #[95, 66, 111, 111, 108] _ ((w.alloc o).alloc o') := fun o o' => E.kb _ (two_old w o o' bm E.lt)
  have g8_0 : ∀ o o', ((w.alloc o).alloc o').cell? ⟨8, 0, none⟩ = some (.string { data := #[108, 111, 110, 103] }) := fun o o' => ((E.gl.one o).one o').cell (by decide) rfl
  have g8_1 : ∀ o o', ((w.alloc o).alloc o').cell? ⟨8, 1, none⟩ = some (.int .i64 64) := fun o o' => ((E.gl.one o).one o').cell (by decide) rfl
  have g8_2 : ∀ o o', ((w.alloc o).alloc o').cell? ⟨8, 2, none⟩ = some (.bool false) := fun o o' => ((E.gl.one o).one o').cell (by decide) rfl
  have g8_3 : ∀ o o', ((w.alloc o).alloc o').cell? ⟨8, 3, none⟩ = some (.int .i64 4) := fun o o' => ((E.gl.one o).one o').cell (by decide) rfl
  have g9_0 : ∀ o o', ((w.alloc o).alloc o').cell? ⟨9, 0, none⟩ = some (.string { data := #[117, 110, 115, 105, 103, 110, 101, 100, 32, 108, 111, 110, 103] }) := fun o o' => ((E.gl.one o).one o').cell (by decide) rfl
  have g9_1 : ∀ o o', ((w.alloc o).alloc o').cell? ⟨9, 1, none⟩ = some (.int .i64 64) := fun o o' => ((E.gl.one o).one o').cell (by decide) rfl
  have g9_2 : ∀ o o', ((w.alloc o).alloc o').cell? ⟨9, 2, none⟩ = some (.bool true) := fun o o' => ((E.gl.one o).one o').cell (by decide) rfl
  have g9_3 : ∀ o o', ((w.alloc o).alloc o').cell? ⟨9, 3, none⟩ = some (.int .i64 4) := fun o o' => ((E.gl.one o).one o').cell (by decide) rfl
  clear E
  go_enter Ybad.func8, Ybad.ntmps8
  go_wp2
  exact bodyPost_ret (v := .tuple #[.agg (tyc 9).toArray, .bool true]) (by simp [results, Ybad.results8, go_sem]; rfl) rfl ⟨rfl, ((Below.refl _ _).alloc (Nat.le_refl _) _).alloc (by simp) _⟩

set_option maxHeartbeats 1000000 in
theorem sp_p16_0 {w : World} {bm : Nat} {s u c sh i l b : Int} (E : Env w bm s u c sh i l b) (h0 : 0 ≤ s) (h1 : s ≤ 3) (h2 : 0 ≤ u) (h3 : u ≤ 3) (h4 : 0 ≤ c) (h5 : c ≤ 3) (h6 : 0 ≤ sh) (h7 : sh ≤ 3) (h8 : 0 ≤ i) (h9 : i ≤ 3) (h10 : 0 ≤ l) (h11 : l ≤ 3) (h12 : 0 ≤ b) (h13 : b ≤ 3) (q1 : s + u ≤ 1) (q2 : c ≤ 1) (q3 : sh ≤ 1) (q4 : i ≤ 1) (q5 : l ≤ 2) (eb : b = 0) (eu : u = 0) (ec : c = 0) (esh : sh = 0) (el : l = 0) (q7 : 0 < s + 0 + i) :
    Calls Ybad.prog 8 #[.map (some bm)] w fun e w' => e = .returned (.tuple #[.agg (tyc 6).toArray, .bool true]) ∧ Below w.heap.size w w' := by
  subst eb eu ec esh el
  have s1 : ∀ o, look bm #[115, 105, 103, 110, 101, 100] s (w.alloc o) := fun o => E.ks _ (one_old w o bm E.lt)
  have s2 : ∀ o o', look bm #[115, 105, 103, 110, 101, 100] s ((w.alloc o).alloc o') := fun o o' => E.ks _ (two_old w o o' bm E.lt)
  have u1 : ∀ o, look bm #[117, 110, 115, 105, 103, 110, 101, 100] _ (w.alloc o) := fun o => E.ku _ (one_old w o bm E.lt)
  have u2 : ∀ o o', look bm #[117, 110, 115, 105, 103, 110, 101, 100] _ ((w.alloc o).alloc o') := fun o o' => E.ku _ (two_old w o o' bm E.lt)
  have c1 : ∀ o, look bm #[99, 104, 97, 114] _ (w.alloc o) := fun o => E.kc _ (one_old w o bm E.lt)
  have c2 : ∀ o o', look bm #[99, 104, 97, 114] _ ((w.alloc o).alloc o') := fun o o' => E.kc _ (two_old w o o' bm E.lt)
  have sh1 : ∀ o, look bm #[115, 104, 111, 114, 116] _ (w.alloc o) := fun o => E.ksh _ (one_old w o bm E.lt)
  have sh2 : ∀ o o', look bm #[115, 104, 111, 114, 116] _ ((w.alloc o).alloc o') := fun o o' => E.ksh _ (two_old w o o' bm E.lt)
  have i1 : ∀ o, look bm #[105, 110, 116] i (w.alloc o) := fun o => E.ki _ (one_old w o bm E.lt)
  have i2 : ∀ o o', look bm #[105, 110, 116] i ((w.alloc o).alloc o') := fun o o' => E.ki _ (two_old w o o' bm E.lt)
  have l1 : ∀ o, look bm #[108, 111, 110, 103] _ (w.alloc o) := fun o => E.kl _ (one_old w o bm E.lt)
  have l2 : ∀ o o', look bm #[108, 111, 110, 103] _ ((w.alloc o).alloc o') := fun o o' => E.kl _ (two_old w o o' bm E.lt)
  have b1 : ∀ o, look bm #[95, 66, 111, 111, 108] _ (w.alloc o) := fun o => E.kb _ (one_old w o bm E.lt)
  have b2 : ∀ o o', look bm #[95, 66, 111, 111, 108] _ ((w.alloc o).alloc o') := fun o o' => E.kb _ (two_old w o o' bm E.lt)
  have g10_0 : ∀ o o', ((w.alloc o).alloc o').cell? ⟨10, 0, none⟩ = some (.string { data := #[105, 110, 116] }) := fun o o' => ((E.gl.one o).one o').cell (by decide) rfl
  have g10_1 : ∀ o o', ((w.alloc o).alloc o').cell? ⟨10, 1, none⟩ = some (.int .i64 32) := fun o o' => ((E.gl.one o).one o').cell (by decide) rfl
  have g10_2 : ∀ o o', ((w.alloc o).alloc o').cell? ⟨10, 2, none⟩ = some (.bool false) := fun o o' => ((E.gl.one o).one o').cell (by decide) rfl
  have g10_3 : ∀ o o', ((w.alloc o).alloc o').cell? ⟨10, 3, none⟩ = some (.int .i64 3) := fun o o' => ((E.gl.one o).one o').cell (by decide) rfl
  have g11_0 : ∀ o o', ((w.alloc o).alloc o').cell? ⟨11, 0, none⟩ = some (.string { data := #[117, 110, 115, 105, 103, 110, 101, 100, 32, 105, 110, 116] }) := fun o o' => ((E.gl.one o).one o').cell (by decide) rfl
  have g11_1 : ∀ o o', ((w.alloc o).alloc o').cell? ⟨11, 1, none⟩ = some (.int .i64 32) := fun o o' => ((E.gl.one o).one o').cell (by decide) rfl
  have g11_2 : ∀ o o', ((w.alloc o).alloc o').cell? ⟨11, 2, none⟩ = some (.bool true) := fun o o' => ((E.gl.one o).one o').cell (by decide) rfl
  have g11_3 : ∀ o o', ((w.alloc o).alloc o').cell? ⟨11, 3, none⟩ = some (.int .i64 3) := fun o o' => ((E.gl.one o).one o').cell (by decide) rfl
  clear E
  go_enter Ybad.func8, Ybad.ntmps8
  go_wp2
  exact bodyPost_ret (v := .tuple #[.agg (tyc 6).toArray, .bool true]) (by simp [results, Ybad.results8, go_sem]; rfl) rfl ⟨rfl, ((Below.refl _ _).alloc (Nat.le_refl _) _).alloc (by simp) _⟩

set_option maxHeartbeats 1000000 in
theorem sp_p16_1 {w : World} {bm : Nat} {s u c sh i l b : Int} (E : Env w bm s u c sh i l b) (h0 : 0 ≤ s) (h1 : s ≤ 3) (h2 : 0 ≤ u) (h3 : u ≤ 3) (h4 : 0 ≤ c) (h5 : c ≤ 3) (h6 : 0 ≤ sh) (h7 : sh ≤ 3) (h8 : 0 ≤ i) (h9 : i ≤ 3) (h10 : 0 ≤ l) (h11 : l ≤ 3) (h12 : 0 ≤ b) (h13 : b ≤ 3) (q1 : s + u ≤ 1) (q2 : c ≤ 1) (q3 : sh ≤ 1) (q4 : i ≤ 1) (q5 : l ≤ 2) (eb : b = 0) (eu : u = 1) (ec : c = 0) (esh : sh = 0) (el : l = 0) (q7 : 0 < s + 1 + i) :
    Calls Ybad.prog 8 #[.map (some bm)] w fun e w' => e = .returned (.tuple #[.agg (tyc 7).toArray, .bool true]) ∧ Below w.heap.size w w' := by
  subst eb eu ec esh el
  have s1 : ∀ o, look bm #[115, 105, 103, 110, 101, 100] s (w.alloc o) := fun o => E.ks _ (one_old w o bm E.lt)
  have s2 : ∀ o o', look bm #[115, 105, 103, 110, 101, 100] s ((w.alloc o).alloc o') := fun o o' => E.ks _ (two_old w o o' bm E.lt)
  have u1 : ∀ o, look bm #[117, 110, 115, 105, 103, 110, 101, 100] _ (w.alloc o) := fun o => E.ku _ (one_old w o bm E.lt)
  have u2 : ∀ o o', look bm #[117, 110, 115, 105, 103, 110, 101, 100] _ ((w.alloc o).alloc o') := fun o o' => E.ku _ (two_old w o o' bm E.lt)
  have c1 : ∀ o, look bm #[99, 104, 97, 114] _ (w.alloc o) := fun o => E.kc _ (one_old w o bm E.lt)
  have c2 : ∀ o o', look bm #[99, 104, 97, 114] _ ((w.alloc o).alloc o') := fun o o' => E.kc _ (two_old w o o' bm E.lt)
  have sh1 : ∀ o, look bm #[115, 104, 111, 114, 116] _ (w.alloc o) := fun o => E.ksh _ (one_old w o bm E.lt)
  have sh2 : ∀ o o', look bm #[115, 104, 111, 114, 116] _ ((w.alloc o).alloc o') := fun o o' => E.ksh _ (two_old w o o' bm E.lt)
  have i1 : ∀ o, look bm #[105, 110, 116] i (w.alloc o) := fun o => E.ki _ (one_old w o bm E.lt)
  have i2 : ∀ o o', look bm #[105, 110, 116] i ((w.alloc o).alloc o') := fun o o' => E.ki _ (two_old w o o' bm E.lt)
  have l1 : ∀ o, look bm #[108, 111, 110, 103] _ (w.alloc o) := fun o => E.kl _ (one_old w o bm E.lt)
  have l2 : ∀ o o', look bm #[108, 111, 110, 103] _ ((w.alloc o).alloc o') := fun o o' => E.kl _ (two_old w o o' bm E.lt)
  have b1 : ∀ o, look bm #[95, 66, 111, 111, 108] _ (w.alloc o) := fun o => E.kb _ (one_old w o bm E.lt)
  have b2 : ∀ o o', look bm #[95, 66, 111, 111, 108] _ ((w.alloc o).alloc o') := fun o o' => E.kb _ (two_old w o o' bm E.lt)
  have g10_0 : ∀ o o', ((w.alloc o).alloc o').cell? ⟨10, 0, none⟩ = some (.string { data := #[105, 110, 116] }) := fun o o' => ((E.gl.one o).one o').cell (by decide) rfl
  have g10_1 : ∀ o o', ((w.alloc o).alloc o').cell? ⟨10, 1, none⟩ = some (.int .i64 32) := fun o o' => ((E.gl.one o).one o').cell (by decide) rfl
  have g10_2 : ∀ o o', ((w.alloc o).alloc o').cell? ⟨10, 2, none⟩ = some (.bool false) := fun o o' => ((E.gl.one o).one o').cell (by decide) rfl
  have g10_3 : ∀ o o', ((w.alloc o).alloc o').cell? ⟨10, 3, none⟩ = some (.int .i64 3) := fun o o' => ((E.gl.one o).one o').cell (by decide) rfl
  have g11_0 : ∀ o o', ((w.alloc o).alloc o').cell? ⟨11, 0, none⟩ = some (.string { data := #[117, 110, 115, 105, 103, 110, 101, 100, 32, 105, 110, 116] }) := fun o o' => ((E.gl.one o).one o').cell (by decide) rfl
  have g11_1 : ∀ o o', ((w.alloc o).alloc o').cell? ⟨11, 1, none⟩ = some (.int .i64 32) := fun o o' => ((E.gl.one o).one o').cell (by decide) rfl
  have g11_2 : ∀ o o', ((w.alloc o).alloc o').cell? ⟨11, 2, none⟩ = some (.bool true) := fun o o' => ((E.gl.one o).one o').cell (by decide) rfl
  have g11_3 : ∀ o o', ((w.alloc o).alloc o').cell? ⟨11, 3, none⟩ = some (.int .i64 3) := fun o o' => ((E.gl.one o).one o').cell (by decide) rfl
  clear E
  go_enter Ybad.func8, Ybad.ntmps8
  go_wp2
  exact bodyPost_ret (v := .tuple #[.agg (tyc 7).toArray, .bool true]) (by simp [results, Ybad.results8, go_sem]; rfl) rfl ⟨rfl, ((Below.refl _ _).alloc (Nat.le_refl _) _).alloc (by simp) _⟩

set_option maxHeartbeats 1000000 in
theorem sp_p17 {w : World} {bm : Nat} {s u c sh i l b : Int} (E : Env w bm s u c sh i l b) (h0 : 0 ≤ s) (h1 : s ≤ 3) (h2 : 0 ≤ u) (h3 : u ≤ 3) (h4 : 0 ≤ c) (h5 : c ≤ 3) (h6 : 0 ≤ sh) (h7 : sh ≤ 3) (h8 : 0 ≤ i) (h9 : i ≤ 3) (h10 : 0 ≤ l) (h11 : l ≤ 3) (h12 : 0 ≤ b) (h13 : b ≤ 3) (q1 : s + u ≤ 1) (q2 : c ≤ 1) (q3 : sh ≤ 1) (q4 : i ≤ 1) (q5 : l ≤ 2) (eb : b = 0) (es : s = 0) (eu : u = 0) (ec : c = 0) (esh : sh = 0) (ei : i = 0) (el : l = 0) :
    Calls Ybad.prog 8 #[.map (some bm)] w fun e w' => e = .returned (.tuple #[.agg (tyc 0).toArray, .bool false]) ∧ Below w.heap.size w w' := by
  subst eb es eu ec esh ei el
  have s1 : ∀ o, look bm #[115, 105, 103, 110, 101, 100] _ (w.alloc o) := fun o => E.ks _ (one_old w o bm E.lt)
  have s2 : ∀ o o', look bm #[115, 105, 103, 110, 101, 100] _ ((w.alloc o).alloc o') := fun o o' => E.ks _ (two_old w o o' bm E.lt)
  have u1 : ∀ o, look bm #[117, 110, 115, 105, 103, 110, 101, 100] _ (w.alloc o) := fun o => E.ku _ (one_old w o bm E.lt)
  have u2 : ∀ o o', look bm #[117, 110, 115, 105, 103, 110, 101, 100] _ ((w.alloc o).alloc o') := fun o o' => E.ku _ (two_old w o o' bm E.lt)
  have c1 : ∀ o, look bm #[99, 104, 97, 114] _ (w.alloc o) := fun o => E.kc _ (one_old w o bm E.lt)
  have c2 : ∀ o o', look bm #[99, 104, 97, 114] _ ((w.alloc o).alloc o') := fun o o' => E.kc _ (two_old w o o' bm E.lt)
  have sh1 : ∀ o, look bm #[115, 104, 111, 114, 116] _ (w.alloc o) := fun o => E.ksh _ (one_old w o bm E.lt)
  have sh2 : ∀ o o', look bm #[115, 104, 111, 114, 116] _ ((w.alloc o).alloc o') := fun o o' => E.ksh _ (two_old w o o' bm E.lt)
  have i1 : ∀ o, look bm #[105, 110, 116] _ (w.alloc o) := fun o => E.ki _ (one_old w o bm E.lt)
  have i2 : ∀ o o', look bm #[105, 110, 116] _ ((w.alloc o).alloc o') := fun o o' => E.ki _ (two_old w o o' bm E.lt)
  have l1 : ∀ o, look bm #[108, 111, 110, 103] _ (w.alloc o) := fun o => E.kl _ (one_old w o bm E.lt)
  have l2 : ∀ o o', look bm #[108, 111, 110, 103] _ ((w.alloc o).alloc o') := fun o o' => E.kl _ (two_old w o o' bm E.lt)
  have b1 : ∀ o, look bm #[95, 66, 111, 111, 108] _ (w.alloc o) := fun o => E.kb _ (one_old w o bm E.lt)
  have b2 : ∀ o o', look bm #[95, 66, 111, 111, 108] _ ((w.alloc o).alloc o') := fun o o' => E.kb _ (two_old w o o' bm E.lt)
  clear E
  go_enter Ybad.func8, Ybad.ntmps8
  go_wp2
  exact bodyPost_ret (v := .tuple #[.agg (tyc 0).toArray, .bool false]) (by simp [results, Ybad.results8, go_sem]; rfl) rfl ⟨rfl, ((Below.refl _ _).alloc (Nat.le_refl _) _).alloc (by simp) _⟩

/-- What 'specifiedType' answers: the type's number and whether the words name one. -/
def spec (s u c sh i l b : Int) : Nat × Bool :=
  if 1 < s + u then (0, false) else if 1 < c then (0, false) else if 1 < sh then (0, false) else if 1 < i then (0, false) else if 2 < l then (0, false) else if 1 < b then (0, false)
  else if b = 1 then (if 0 < s + u + c + sh + i + l then (0, false) else (12, true))
  else if c = 1 then (if 0 < sh + i + l then (0, false) else if s = 1 then (2, true) else if u = 1 then (3, true) else (1, true))
  else if sh = 1 then (if 0 < l then (0, false) else if u = 1 then (5, true) else (4, true))
  else if l = 2 then (if u = 1 then (11, true) else (10, true))
  else if l = 1 then (if u = 1 then (9, true) else (8, true))
  else if 0 < s + u + i then (if u = 1 then (7, true) else (6, true))
  else (0, false)

set_option maxHeartbeats 1000000 in
theorem spec_any {w : World} {bm : Nat} {s u c sh i l b : Int} (E : Env w bm s u c sh i l b) (h0 : 0 ≤ s) (h1 : s ≤ 3) (h2 : 0 ≤ u) (h3 : u ≤ 3) (h4 : 0 ≤ c) (h5 : c ≤ 3) (h6 : 0 ≤ sh) (h7 : sh ≤ 3) (h8 : 0 ≤ i) (h9 : i ≤ 3) (h10 : 0 ≤ l) (h11 : l ≤ 3) (h12 : 0 ≤ b) (h13 : b ≤ 3) :
    Calls Ybad.prog 8 #[.map (some bm)] w fun e w' => e = .returned (.tuple #[.agg (tyc (spec s u c sh i l b).1).toArray, .bool (spec s u c sh i l b).2]) ∧ Below w.heap.size w w' := by
  unfold spec
  by_cases q1 : 1 < s + u
  · rw [if_pos q1]; exact sp_f1 E h0 h1 h2 h3 h4 h5 h6 h7 h8 h9 h10 h11 h12 h13 q1
  rw [if_neg q1]
  by_cases q2 : 1 < c
  · rw [if_pos q2]; exact sp_f2 E h0 h1 h2 h3 h4 h5 h6 h7 h8 h9 h10 h11 h12 h13 (by omega) q2
  rw [if_neg q2]
  by_cases q3 : 1 < sh
  · rw [if_pos q3]; exact sp_f3 E h0 h1 h2 h3 h4 h5 h6 h7 h8 h9 h10 h11 h12 h13 (by omega) (by omega) q3
  rw [if_neg q3]
  by_cases q4 : 1 < i
  · rw [if_pos q4]; exact sp_f4 E h0 h1 h2 h3 h4 h5 h6 h7 h8 h9 h10 h11 h12 h13 (by omega) (by omega) (by omega) q4
  rw [if_neg q4]
  by_cases q5 : 2 < l
  · rw [if_pos q5]; exact sp_f5 E h0 h1 h2 h3 h4 h5 h6 h7 h8 h9 h10 h11 h12 h13 (by omega) (by omega) (by omega) (by omega) q5
  rw [if_neg q5]
  by_cases q6 : 1 < b
  · rw [if_pos q6]; exact sp_f6 E h0 h1 h2 h3 h4 h5 h6 h7 h8 h9 h10 h11 h12 h13 (by omega) (by omega) (by omega) (by omega) (by omega) q6
  rw [if_neg q6]
  have r1 : s + u ≤ 1 := by omega
  have r2 : c ≤ 1 := by omega
  have r3 : sh ≤ 1 := by omega
  have r4 : i ≤ 1 := by omega
  have r5 : l ≤ 2 := by omega
  by_cases q7 : b = 1
  · rw [if_pos q7]
    by_cases z : 0 < s + u + c + sh + i + l
    · rw [if_pos z]; exact sp_f7 E h0 h1 h2 h3 h4 h5 h6 h7 h8 h9 h10 h11 h12 h13 r1 r2 r3 r4 r5 q7 z
    · rw [if_neg z]; exact sp_p10 E h0 h1 h2 h3 h4 h5 h6 h7 h8 h9 h10 h11 h12 h13 r1 r2 r3 r4 r5 q7 (by omega) (by omega) (by omega) (by omega) (by omega) (by omega)
  rw [if_neg q7]
  have eb : b = 0 := by omega
  by_cases q8 : c = 1
  · rw [if_pos q8]
    by_cases z : 0 < sh + i + l
    · rw [if_pos z]; exact sp_f8 E h0 h1 h2 h3 h4 h5 h6 h7 h8 h9 h10 h11 h12 h13 r1 r2 r3 r4 r5 eb q8 z
    rw [if_neg z]
    by_cases z1 : s = 1
    · rw [if_pos z1]; exact sp_p11 E h0 h1 h2 h3 h4 h5 h6 h7 h8 h9 h10 h11 h12 h13 r1 r2 r3 r4 r5 eb z1 (by omega) q8 (by omega) (by omega) (by omega)
    rw [if_neg z1]
    by_cases z2 : u = 1
    · rw [if_pos z2]; exact sp_p12_1 E h0 h1 h2 h3 h4 h5 h6 h7 h8 h9 h10 h11 h12 h13 r1 r2 r3 r4 r5 eb (by omega) z2 q8 (by omega) (by omega) (by omega)
    · rw [if_neg z2]; exact sp_p12_0 E h0 h1 h2 h3 h4 h5 h6 h7 h8 h9 h10 h11 h12 h13 r1 r2 r3 r4 r5 eb (by omega) (by omega) q8 (by omega) (by omega) (by omega)
  rw [if_neg q8]
  have ec : c = 0 := by omega
  by_cases q9 : sh = 1
  · rw [if_pos q9]
    by_cases z : 0 < l
    · rw [if_pos z]; exact sp_f9 E h0 h1 h2 h3 h4 h5 h6 h7 h8 h9 h10 h11 h12 h13 r1 r2 r3 r4 r5 eb ec q9 z
    rw [if_neg z]
    by_cases z2 : u = 1
    · rw [if_pos z2]; exact sp_p13_1 E h0 h1 h2 h3 h4 h5 h6 h7 h8 h9 h10 h11 h12 h13 r1 r2 r3 r4 r5 eb z2 ec q9 (by omega)
    · rw [if_neg z2]; exact sp_p13_0 E h0 h1 h2 h3 h4 h5 h6 h7 h8 h9 h10 h11 h12 h13 r1 r2 r3 r4 r5 eb (by omega) ec q9 (by omega)
  rw [if_neg q9]
  have esh : sh = 0 := by omega
  by_cases q10 : l = 2
  · rw [if_pos q10]
    by_cases z2 : u = 1
    · rw [if_pos z2]; exact sp_p14_1 E h0 h1 h2 h3 h4 h5 h6 h7 h8 h9 h10 h11 h12 h13 r1 r2 r3 r4 r5 eb z2 ec esh q10
    · rw [if_neg z2]; exact sp_p14_0 E h0 h1 h2 h3 h4 h5 h6 h7 h8 h9 h10 h11 h12 h13 r1 r2 r3 r4 r5 eb (by omega) ec esh q10
  rw [if_neg q10]
  by_cases q11 : l = 1
  · rw [if_pos q11]
    by_cases z2 : u = 1
    · rw [if_pos z2]; exact sp_p15_1 E h0 h1 h2 h3 h4 h5 h6 h7 h8 h9 h10 h11 h12 h13 r1 r2 r3 r4 r5 eb z2 ec esh q11
    · rw [if_neg z2]; exact sp_p15_0 E h0 h1 h2 h3 h4 h5 h6 h7 h8 h9 h10 h11 h12 h13 r1 r2 r3 r4 r5 eb (by omega) ec esh q11
  rw [if_neg q11]
  by_cases q12 : 0 < s + u + i
  · rw [if_pos q12]
    by_cases z2 : u = 1
    · rw [if_pos z2]; exact sp_p16_1 E h0 h1 h2 h3 h4 h5 h6 h7 h8 h9 h10 h11 h12 h13 r1 r2 r3 r4 r5 eb z2 ec esh (by omega) (by omega)
    · rw [if_neg z2]; exact sp_p16_0 E h0 h1 h2 h3 h4 h5 h6 h7 h8 h9 h10 h11 h12 h13 r1 r2 r3 r4 r5 eb (by omega) ec esh (by omega) (by omega)
  · rw [if_neg q12]; exact sp_p17 E h0 h1 h2 h3 h4 h5 h6 h7 h8 h9 h10 h11 h12 h13 r1 r2 r3 r4 r5 eb (by omega) (by omega) ec esh (by omega) (by omega)
end Go.Proofs.YbulkbzioDoor
