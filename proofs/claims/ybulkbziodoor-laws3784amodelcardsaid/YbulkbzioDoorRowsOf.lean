/-
  Seat b3784aD, the plain law of the table: what each base's twenty cells are; what 'specifiedType' answers at each base and sign word.
-/
import Derived.Test.YbulkbzioDoorBases
import Derived.Test.YbulkbzioDoorSpec
namespace Go.Proofs.YbulkbzioDoor
open Go Go.RowKit

def tS : Nat → ByteArray
  | 1 => { data := #[99, 104, 97, 114] }
  | 2 => { data := #[115, 105, 103, 110, 101, 100, 32, 99, 104, 97, 114] }
  | 3 => { data := #[117, 110, 115, 105, 103, 110, 101, 100, 32, 99, 104, 97, 114] }
  | 4 => { data := #[115, 104, 111, 114, 116] }
  | 5 => { data := #[117, 110, 115, 105, 103, 110, 101, 100, 32, 115, 104, 111, 114, 116] }
  | 6 => { data := #[105, 110, 116] }
  | 7 => { data := #[117, 110, 115, 105, 103, 110, 101, 100, 32, 105, 110, 116] }
  | 8 => { data := #[108, 111, 110, 103] }
  | 9 => { data := #[117, 110, 115, 105, 103, 110, 101, 100, 32, 108, 111, 110, 103] }
  | 10 => { data := #[108, 111, 110, 103, 32, 108, 111, 110, 103] }
  | 11 => { data := #[117, 110, 115, 105, 103, 110, 101, 100, 32, 108, 111, 110, 103, 32, 108, 111, 110, 103] }
  | 12 => { data := #[95, 66, 111, 111, 108] }
  | _ => { data := #[] }
def tB : Nat → Int
  | 1 | 2 | 3 => 8
  | 4 | 5 => 16
  | 6 | 7 => 32
  | 8 | 9 | 10 | 11 => 64
  | 12 => 1
  | _ => 0
def tU : Nat → Bool
  | 3 | 5 | 7 | 9 | 11 | 12 => true
  | _ => false
def tR : Nat → Int
  | 1 | 2 | 3 => 1
  | 4 | 5 => 2
  | 6 | 7 => 3
  | 8 | 9 => 4
  | 10 | 11 => 5
  | _ => 0
def ty4 (n : Nat) : List Value := [.string (tS n), .int .i64 (tB n), .bool (tU n), .int .i64 (tR n)]
theorem tyc_is : ∀ n, n < 13 → tyc n = ty4 n
  | 0, _ | 1, _ | 2, _ | 3, _ | 4, _ | 5, _ | 6, _ | 7, _ | 8, _ | 9, _ | 10, _ | 11, _ | 12, _ => rfl
  | n + 13, h => absurd h (by omega)
def bkj (k j : Nat) : Int := ((bk k).getD j 0 : Nat)
def btj (k j : Nat) : Nat := (bt k).getD j 0
def bokj (k j : Nat) : Bool := (bok k).getD j false
/-- The twenty cells of base k, one by one. -/
def rowL (k : Nat) : List Value :=
  [.int .i64 (bkj k 0), .int .i64 (bkj k 1), .int .i64 (bkj k 2), .int .i64 (bkj k 3), .int .i64 (bkj k 4)] ++ ty4 (btj k 0) ++ ty4 (btj k 1) ++ ty4 (btj k 2) ++ [.bool (bokj k 0), .bool (bokj k 1), .bool (bokj k 2)]
theorem row_is : ∀ k, k < 10 → row k = rowL k
  | 0, _ | 1, _ | 2, _ | 3, _ | 4, _ | 5, _ | 6, _ | 7, _ | 8, _ | 9, _ => rfl
  | k + 10, h => absurd h (by omega)
theorem base_row : ∀ k, k < 10 → (BASES.toList.drop (k * 20)).take 20 = rowL k
  | 0, _ | 1, _ | 2, _ | 3, _ | 4, _ | 5, _ | 6, _ | 7, _ | 8, _ | 9, _ => rfl
  | k + 10, h => absurd h (by omega)
theorem base_cell {k j : Nat} (hk : k < 10) (hj : j < 20) : BASES[k * 20 + j]? = (rowL k)[j]? := by
  rw [← base_row k hk, List.getElem?_take_of_lt hj, List.getElem?_drop]
  simp
/-- In a block that holds the table, base k lies at its place. -/
theorem base_range {w : World} {b t : Nat} {fr : Nat × Nat} (h : w.heap[b]? = some (.cells BASES t fr)) {k : Nat} (hk : k < 10) : w.rangeAt b (k * 20) (rowL k) := fun j v hv => by
  have hj : j < 20 := (List.getElem?_eq_some_iff.1 hv).1
  rw [cell_of_row w b _ BASES t fr h, base_cell hk hj, hv]
theorem bkj_bd : ∀ k, k < 10 → ∀ j, j < 5 → 0 ≤ bkj k j ∧ bkj k j ≤ 3 := by decide
theorem btj_bd : ∀ k, k < 10 → ∀ j, j < 3 → btj k j < 13 := by decide
theorem spec_0 : ∀ k, k < 10 → spec 0 0 (bkj k 0) (bkj k 1) (bkj k 2) (bkj k 3) (bkj k 4) = (btj k 0, bokj k 0) := by decide
theorem spec_1 : ∀ k, k < 10 → spec 1 0 (bkj k 0) (bkj k 1) (bkj k 2) (bkj k 3) (bkj k 4) = (btj k 1, bokj k 1) := by decide
theorem spec_2 : ∀ k, k < 10 → spec 0 1 (bkj k 0) (bkj k 1) (bkj k 2) (bkj k 3) (bkj k 4) = (btj k 2, bokj k 2) := by decide
/-- 'specifiedType' at counts whose answer is known. -/
theorem spec_call {s u c sh i l b : Int} {n : Nat} {ok : Bool} (hs : spec s u c sh i l b = (n, ok)) (hn : n < 13) (b0 : 0 ≤ s ∧ s ≤ 3) (b1 : 0 ≤ u ∧ u ≤ 3) (b2 : 0 ≤ c ∧ c ≤ 3) (b3 : 0 ≤ sh ∧ sh ≤ 3) (b4 : 0 ≤ i ∧ i ≤ 3) (b5 : 0 ≤ l ∧ l ≤ 3) (b6 : 0 ≤ b ∧ b ≤ 3)
    (W : World) (bm : Nat) (E : Env W bm s u c sh i l b) :
    Calls Ybad.prog 8 #[.map (some bm)] W fun e w' => e = .returned (.tuple #[.agg #[.string (tS n), .int .i64 (tB n), .bool (tU n), .int .i64 (tR n)], .bool ok]) ∧ Below W.heap.size W w' := by
  have h := spec_any E b0.1 b0.2 b1.1 b1.2 b2.1 b2.2 b3.1 b3.2 b4.1 b4.2 b5.1 b5.2 b6.1 b6.2
  rw [hs, tyc_is n hn] at h
  exact h
end Go.Proofs.YbulkbzioDoor
