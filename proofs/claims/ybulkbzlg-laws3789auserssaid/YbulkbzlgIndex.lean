/-
  Seat b3789a: the walk of '(*index).of' (8), longAt (10) entered.
-/
import Derived.Test.YbulkbzlgRead
namespace Go.Proofs.Ybulkbzlg
open Go Go.RowKit
set_option linter.unusedVariables false
set_option linter.unusedSimpArgs false

/-- The index at ⟨S, o⟩ holds m lists: 'L i' under the number i. F: the block of 'first'; 'lv': the slice 'long'. -/
structure Idx (w : World) (S o m : Nat) (L : Nat → List Int) : Prop where
  intro ::
  ex : ∃ (F G nl cl : Nat) (la : Option Addr), w.cell? ⟨S, o, none⟩ = some (.slice (some ⟨F, 0, none⟩) m m) ∧ w.cell? ⟨S, o + 1, none⟩ = some (.slice la nl cl) ∧ (0 < nl → la = some ⟨G, 0, none⟩) ∧ nl ≤ m ∧
    ∀ i, i < m → ∃ z : Int, w.cell? ⟨F, i, none⟩ = some (.int .i32 z) ∧
      ((z = -1 ∧ L i = []) ∨ (0 ≤ z ∧ L i = [z]) ∨ (∃ (j : Nat) (v : Value), z = -2 - (j : Int) ∧ j < nl ∧ w.cell? ⟨G, j, none⟩ = some v ∧ Is w v (L i)))
/-- The list of number e; none outside. -/
def at_ (L : Nat → List Int) (m : Nat) (e : Int) : List Int := if 0 ≤ e ∧ e < m then L e.toNat else []

theorem ret_int {k : IntKind} {a b : Int} (h : a = b) : Ending.returned (.int k a) = .returned (.int k b) := by rw [h]
theorem long_at (j : Nat) (hj : j ≤ 1024) (w : World) : Calls Yba.prog 10 #[.int .i32 (-2 - (j : Int))] w fun e w' => e = .returned (.int .i32 (j : Int)) ∧ w' = w := by
  go_enter Yba.func10, Yba.ntmps10
  go_wp2
  go_ret
  refine ⟨ret_int ?_, rfl⟩
  first | omega | (simp only [wrap32, IntKind.wrap_i32]; omega)
theorem is_one {w : World} {b off c : Nat} {z : Int} (h : w.cell? ⟨b, off, none⟩ = some (.int .i32 z)) : Is w (.slice (some ⟨b, off, none⟩) 1 c) [z] :=
  ⟨_, c, rfl, fun _ => ⟨b, off, rfl, fun j hj => by
    have : j = 0 := by simp at hj; exact hj
    subst this
    simpa using h⟩⟩
set_option maxHeartbeats 2000000 in
theorem of_any {w : World} {S o m : Nat} {L : Nat → List Int} (h : Idx w S o m L) (hm : m ≤ 1024) (e : Int) (he0 : -2147483648 ≤ e) (he1 : e ≤ 2147483647) :
    Calls Yba.prog 8 #[.pointer (some ⟨S, o, none⟩), .int .i32 e] w fun r w' => (∃ v, r = .returned v ∧ Is w v (at_ L m e)) ∧ ∃ k, w' = w.drewN k := by
  obtain ⟨F, G, nl, cl, la, hF, hG, hla, hnl, hall⟩ := h.ex
  by_cases hin : 0 ≤ e ∧ e < m
  · obtain ⟨z, hz, hcase⟩ := hall e.toNat (by omega)
    have HV : Hid (at_ L m e = L e.toNat) := by unfold at_; rw [if_pos hin]; rfl
    obtain ⟨i, hi⟩ : ∃ i : Nat, e = i := ⟨e.toNat, by omega⟩
    subst hi
    simp only [Int.toNat_natCast] at hz hcase HV
    have hi1 : (0 : Int) ≤ i := by omega
    have hi2 : (i : Int) < m := hin.2
    clear hin hall he0 he1
    rcases hcase with ⟨rfl, hL⟩ | ⟨h0, hL⟩ | ⟨j, v, rfl, hj, hc, his⟩
    · have HL := hide hL
      clear hL hla
      go_enter Yba.func8, Yba.ntmps8
      go_wp2
      go_ret
      exact ⟨⟨_, rfl, by rw [HV.out, HL.out]; exact is_nil w⟩, 0, rfl⟩
    · have HL := hide hL
      have hb : (z == -1) = false := by simp; omega
      have hb2 : ¬ z < -1 := by omega
      clear hL hla
      go_enter Yba.func8, Yba.ntmps8
      go_wp2
      go_ret
      exact ⟨⟨_, rfl, by rw [HV.out, HL.out]; exact is_one hz⟩, 0, rfl⟩
    · have HI := hide his
      obtain rfl := hla (by omega)
      have hb : ((-2 : Int) - j == -1) = false := by simp; omega
      have hb2 : (-2 : Int) - j < -1 := by omega
      clear his
      have hjn : (j : Int) < nl := by omega
      go_enter Yba.func8, Yba.ntmps8
      go_wp2
      go_quiet ((go_at_call 10; exact Calls.quiet_of_same (long_at j (by omega) _)))
      go_wp2
      go_ret
      exact ⟨⟨_, rfl, by rw [HV.out]; exact HI.out⟩, _, rfl⟩
  · have HV : Hid (at_ L m e = []) := by unfold at_; rw [if_neg hin]; rfl
    clear hall hla
    by_cases h0 : e < 0
    · clear hin
      go_enter Yba.func8, Yba.ntmps8
      go_wp2
      go_ret
      exact ⟨⟨_, rfl, by rw [HV.out]; exact is_nil w⟩, 0, rfl⟩
    · have h1 : (m : Int) ≤ e := by omega
      have h0' : 0 ≤ e := by omega
      clear hin h0
      go_enter Yba.func8, Yba.ntmps8
      go_wp2
      go_ret
      exact ⟨⟨_, rfl, by rw [HV.out]; exact is_nil w⟩, 0, rfl⟩
end Go.Proofs.Ybulkbzlg
