/-
  Seat b3784aD: 'zzs3784aexp' at the program's own tables answers as 'specifiedType' does: the plain law between the two.
-/
import Derived.Test.YbulkbzioDoorExp
import Derived.Test.YbulkbzioDoorValidAny
namespace Go.Proofs.YbulkbzioDoor
open Go Go.RowKit

theorem spec_hit {c0 c1 c2 c3 c4 c5 c6 : Int} {k s : Nat} (hk : k < 10) (hs : s < 3) (hf : fits c2 c3 c4 c5 c6 k) (hg : signs c0 c1 s) : spec c0 c1 c2 c3 c4 c5 c6 = (btj k s, bokj k s) := by
  obtain ⟨rfl, rfl, rfl, rfl, rfl⟩ := hf
  obtain ⟨rfl, rfl⟩ := hg
  have h3 : s = 0 ∨ s = 1 ∨ s = 2 := by omega
  rcases h3 with rfl | rfl | rfl
  · exact spec_0 k hk
  · exact spec_1 k hk
  · exact spec_2 k hk

set_option maxHeartbeats 1000000 in
theorem spec_miss {c0 c1 c2 c3 c4 c5 c6 : Int} (h0 : 0 ≤ c0 ∧ c0 ≤ 3) (h1 : 0 ≤ c1 ∧ c1 ≤ 3) (h2 : 0 ≤ c2 ∧ c2 ≤ 3) (h3 : 0 ≤ c3 ∧ c3 ≤ 3) (h4 : 0 ≤ c4 ∧ c4 ≤ 3) (h5 : 0 ≤ c5 ∧ c5 ≤ 3) (h6 : 0 ≤ c6 ∧ c6 ≤ 3)
    (hn : ∀ k s, k < 10 → s < 3 → ¬ (fits c2 c3 c4 c5 c6 k ∧ signs c0 c1 s)) : spec c0 c1 c2 c3 c4 c5 c6 = (0, false) := by
  unfold spec
  by_cases q1 : 1 < c0 + c1
  · rw [if_pos q1]
  rw [if_neg q1]
  by_cases q2 : 1 < c2
  · rw [if_pos q2]
  rw [if_neg q2]
  by_cases q3 : 1 < c3
  · rw [if_pos q3]
  rw [if_neg q3]
  by_cases q4 : 1 < c4
  · rw [if_pos q4]
  rw [if_neg q4]
  by_cases q5 : 2 < c5
  · rw [if_pos q5]
  rw [if_neg q5]
  by_cases q6 : 1 < c6
  · rw [if_pos q6]
  rw [if_neg q6]
  have hs : (c0 = 0 ∧ c1 = 0) ∨ (c0 = 1 ∧ c1 = 0) ∨ (c0 = 0 ∧ c1 = 1) := by omega
  have e2 : c2 = 0 ∨ c2 = 1 := by omega
  have e3 : c3 = 0 ∨ c3 = 1 := by omega
  have e4 : c4 = 0 ∨ c4 = 1 := by omega
  have e5 : c5 = 0 ∨ c5 = 1 ∨ c5 = 2 := by omega
  have e6 : c6 = 0 ∨ c6 = 1 := by omega
  clear h0 h1 h2 h3 h4 h5 h6 q1 q2 q3 q4 q5 q6
  rcases hs with ⟨rfl, rfl⟩ | ⟨rfl, rfl⟩ | ⟨rfl, rfl⟩ <;> rcases e2 with rfl | rfl <;> rcases e3 with rfl | rfl <;> rcases e4 with rfl | rfl <;> rcases e5 with rfl | rfl | rfl <;> rcases e6 with rfl | rfl <;>
    first
      | rfl
      | exact absurd ⟨⟨rfl, rfl, rfl, rfl, rfl⟩, rfl, rfl⟩ (hn 0 0 (by decide) (by decide))
      | exact absurd ⟨⟨rfl, rfl, rfl, rfl, rfl⟩, rfl, rfl⟩ (hn 0 1 (by decide) (by decide))
      | exact absurd ⟨⟨rfl, rfl, rfl, rfl, rfl⟩, rfl, rfl⟩ (hn 0 2 (by decide) (by decide))
      | exact absurd ⟨⟨rfl, rfl, rfl, rfl, rfl⟩, rfl, rfl⟩ (hn 1 0 (by decide) (by decide))
      | exact absurd ⟨⟨rfl, rfl, rfl, rfl, rfl⟩, rfl, rfl⟩ (hn 1 1 (by decide) (by decide))
      | exact absurd ⟨⟨rfl, rfl, rfl, rfl, rfl⟩, rfl, rfl⟩ (hn 1 2 (by decide) (by decide))
      | exact absurd ⟨⟨rfl, rfl, rfl, rfl, rfl⟩, rfl, rfl⟩ (hn 2 0 (by decide) (by decide))
      | exact absurd ⟨⟨rfl, rfl, rfl, rfl, rfl⟩, rfl, rfl⟩ (hn 2 1 (by decide) (by decide))
      | exact absurd ⟨⟨rfl, rfl, rfl, rfl, rfl⟩, rfl, rfl⟩ (hn 2 2 (by decide) (by decide))
      | exact absurd ⟨⟨rfl, rfl, rfl, rfl, rfl⟩, rfl, rfl⟩ (hn 3 0 (by decide) (by decide))
      | exact absurd ⟨⟨rfl, rfl, rfl, rfl, rfl⟩, rfl, rfl⟩ (hn 3 1 (by decide) (by decide))
      | exact absurd ⟨⟨rfl, rfl, rfl, rfl, rfl⟩, rfl, rfl⟩ (hn 3 2 (by decide) (by decide))
      | exact absurd ⟨⟨rfl, rfl, rfl, rfl, rfl⟩, rfl, rfl⟩ (hn 4 1 (by decide) (by decide))
      | exact absurd ⟨⟨rfl, rfl, rfl, rfl, rfl⟩, rfl, rfl⟩ (hn 4 2 (by decide) (by decide))
      | exact absurd ⟨⟨rfl, rfl, rfl, rfl, rfl⟩, rfl, rfl⟩ (hn 5 0 (by decide) (by decide))
      | exact absurd ⟨⟨rfl, rfl, rfl, rfl, rfl⟩, rfl, rfl⟩ (hn 5 1 (by decide) (by decide))
      | exact absurd ⟨⟨rfl, rfl, rfl, rfl, rfl⟩, rfl, rfl⟩ (hn 5 2 (by decide) (by decide))
      | exact absurd ⟨⟨rfl, rfl, rfl, rfl, rfl⟩, rfl, rfl⟩ (hn 6 0 (by decide) (by decide))
      | exact absurd ⟨⟨rfl, rfl, rfl, rfl, rfl⟩, rfl, rfl⟩ (hn 6 1 (by decide) (by decide))
      | exact absurd ⟨⟨rfl, rfl, rfl, rfl, rfl⟩, rfl, rfl⟩ (hn 6 2 (by decide) (by decide))
      | exact absurd ⟨⟨rfl, rfl, rfl, rfl, rfl⟩, rfl, rfl⟩ (hn 7 0 (by decide) (by decide))
      | exact absurd ⟨⟨rfl, rfl, rfl, rfl, rfl⟩, rfl, rfl⟩ (hn 7 1 (by decide) (by decide))
      | exact absurd ⟨⟨rfl, rfl, rfl, rfl, rfl⟩, rfl, rfl⟩ (hn 7 2 (by decide) (by decide))
      | exact absurd ⟨⟨rfl, rfl, rfl, rfl, rfl⟩, rfl, rfl⟩ (hn 8 0 (by decide) (by decide))
      | exact absurd ⟨⟨rfl, rfl, rfl, rfl, rfl⟩, rfl, rfl⟩ (hn 8 1 (by decide) (by decide))
      | exact absurd ⟨⟨rfl, rfl, rfl, rfl, rfl⟩, rfl, rfl⟩ (hn 8 2 (by decide) (by decide))
      | exact absurd ⟨⟨rfl, rfl, rfl, rfl, rfl⟩, rfl, rfl⟩ (hn 9 0 (by decide) (by decide))

theorem ite_lt {c : Prop} [Decidable c] {a b : Nat × Bool} (ha : a.1 < 13) (hb : b.1 < 13) : (if c then a else b).1 < 13 := by
  by_cases h : c
  · rw [if_pos h]; exact ha
  · rw [if_neg h]; exact hb
/-- Each answer is one of the thirteen types. -/
theorem spec_lt (s u c sh i l b : Int) : (spec s u c sh i l b).1 < 13 := by
  unfold spec
  repeat' apply ite_lt
  all_goals decide

/-- 'zzs3784aexp' answers what 'specifiedType' answers. -/
theorem exp_any (c0 c1 c2 c3 c4 c5 c6 : Int) (w : World) (h0 : 0 ≤ c0 ∧ c0 ≤ 3) (h1 : 0 ≤ c1 ∧ c1 ≤ 3) (h2 : 0 ≤ c2 ∧ c2 ≤ 3) (h3 : 0 ≤ c3 ∧ c3 ≤ 3) (h4 : 0 ≤ c4 ∧ c4 ≤ 3) (h5 : 0 ≤ c5 ∧ c5 ≤ 3) (h6 : 0 ≤ c6 ∧ c6 ≤ 3) {n : Nat} {ok : Bool} (hsp : spec c0 c1 c2 c3 c4 c5 c6 = (n, ok)) :
    Calls Ybad.prog 9 #[.agg #[.int .i64 c0, .int .i64 c1, .int .i64 c2, .int .i64 c3, .int .i64 c4, .int .i64 c5, .int .i64 c6]] w fun e w' =>
      e = .returned (.tuple #[.agg #[.string (tS n), .int .i64 (tB n), .bool (tU n), .int .i64 (tR n)], .bool ok]) ∧ Below w.heap.size w w' := by
  refine (exp_walk c0 c1 c2 c3 c4 c5 c6 w BASES Z37 bases_any zero37 size37 sizeZ37 oneB (fun k => (rowL k).toArray) size36 (fun k => rfl) oneR (fun W b k hk h => base_range h hk)
    (fun k j hj => ?_) (fun k s hs => ?_)).mono ?_
  · match j, hj with
    | 0, _ | 1, _ | 2, _ | 3, _ | 4, _ => rfl
  · match s, hs with
    | 0, _ | 1, _ | 2, _ => exact ⟨rfl, rfl, rfl, rfl, rfl⟩
  · rintro e w' ⟨hb, ⟨k, s, hk, hs, hf, hg, rfl⟩ | ⟨hn, rfl⟩⟩
    · have e1 := (spec_hit hk hs hf hg).symm.trans hsp
      cases e1
      exact ⟨rfl, hb⟩
    · have e1 := (spec_miss h0 h1 h2 h3 h4 h5 h6 hn).symm.trans hsp
      cases e1
      exact ⟨rfl, hb⟩
end Go.Proofs.YbulkbzioDoor
