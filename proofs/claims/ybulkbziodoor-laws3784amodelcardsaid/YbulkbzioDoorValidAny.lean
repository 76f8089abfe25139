/-
  Seat b3784aD: 'LawS3784AValid' at every input: the walks of the three sign words at the program's own tables.
-/
import Derived.Test.YbulkbzioDoorValid
import Derived.Test.YbulkbzioDoorRowsOf
namespace Go.Proofs.YbulkbzioDoor
open Go Go.RowKit

theorem size36 (k : Nat) : (Ybad.prog.info? 36).map (·.size) = some (rowL k).toArray.size := by
  have h : (Ybad.prog.info? 36).map (·.size) = some 20 := by kernel_rfl
  rw [h]; rfl
theorem oneR (k : Nat) : (rowL k).toArray.all (·.oneCell') = true := all_oneCell_toArray (fun v hv => by
  simp only [rowL, ty4, List.mem_append, List.mem_cons, List.not_mem_nil, or_false] at hv
  rcases hv with (((h | h) | h) | h) | h <;> first | (rcases h with h | h | h | h | h <;> subst h <;> rfl) | (rcases h with h | h | h | h <;> subst h <;> rfl) | (rcases h with h | h | h <;> subst h <;> rfl))
theorem size23 : (Ybad.prog.info? 23).map (·.size) = some NAMES.size := by kernel_rfl
theorem oneN : NAMES.all (·.oneCell') = true := by kernel_rfl
theorem names_at : ∀ j, j < 7 → NAMES[j]? = some (.string (nm j))
  | 0, _ | 1, _ | 2, _ | 3, _ | 4, _ | 5, _ | 6, _ => rfl
  | j + 7, h => absurd h (by omega)

theorem valid_any (base sign xv : Int) (x : ByteArray) (w : World) (hb0 : 0 ≤ base) (hb1 : base ≤ 255) (hs0 : 0 ≤ sign) (hs1 : sign ≤ 255) (hxs : x.size ≤ maxLen) (hxv : (Lit.int .i64 xv).wf = true) (hgl : Glob w) :
    Calls Ybad.prog 4 #[.int .u8 base, .int .u8 sign, .string x, .int .i64 xv] w fun e w' => e = .returned (.bool true) ∧ Below w.heap.size w w' := by
  obtain ⟨k, hk, hkl⟩ : ∃ k, (base % 10).toNat = k ∧ k < 10 := ⟨_, rfl, by omega⟩
  have hrow : ∀ w1 : World, (w1.alloc (.cells BASES 37)).rangeAt w1.heap.size ((base % 10).toNat * 20) (rowL k).toArray.toList := fun w1 => by rw [hk]; exact base_range (heap_alloc_new w1 _) hkl
  have bd := bkj_bd k hkl
  have cbd (a0 a1 : Int) (h0 : 0 ≤ a0 ∧ a0 ≤ 3) (h1 : 0 ≤ a1 ∧ a1 ≤ 3) : ∀ j, j < 7 → 0 ≤ ([a0, a1, bkj k 0, bkj k 1, bkj k 2, bkj k 3, bkj k 4] : List Int).getD j 0 ∧ ([a0, a1, bkj k 0, bkj k 1, bkj k 2, bkj k 3, bkj k 4] : List Int).getD j 0 ≤ 3
    | 0, _ => h0 | 1, _ => h1 | 2, _ => bd 0 (by decide) | 3, _ => bd 1 (by decide) | 4, _ => bd 2 (by decide) | 5, _ => bd 3 (by decide) | 6, _ => bd 4 (by decide)
    | j + 7, h => absurd h (by omega)
  have h3 : sign % 3 = 0 ∨ sign % 3 = 1 ∨ sign % 3 = 2 := by omega
  rcases h3 with h | h | h
  · exact valid_0 base sign xv x w hb0 hb1 hs0 hs1 h hxs hxv BASES Z37 (rowL k).toArray NAMES nm rfl hgl bases_any zero37 size37 sizeZ37 oneB (size36 k) rfl (oneR k) hrow names_any size23 rfl names_at oneN
      _ _ _ _ _ _ _ _ _ _ rfl rfl rfl rfl rfl rfl rfl rfl rfl rfl (cbd 0 0 (by decide) (by decide))
      (spec_call (spec_0 k hkl) (btj_bd k hkl 0 (by decide)) (by decide) (by decide) (bd 0 (by decide)) (bd 1 (by decide)) (bd 2 (by decide)) (bd 3 (by decide)) (bd 4 (by decide)))
  · exact valid_1 base sign xv x w hb0 hb1 hs0 hs1 h hxs hxv BASES Z37 (rowL k).toArray NAMES nm rfl hgl bases_any zero37 size37 sizeZ37 oneB (size36 k) rfl (oneR k) hrow names_any size23 rfl names_at oneN
      _ _ _ _ _ _ _ _ _ _ rfl rfl rfl rfl rfl rfl rfl rfl rfl rfl (cbd 1 0 (by decide) (by decide))
      (spec_call (spec_1 k hkl) (btj_bd k hkl 1 (by decide)) (by decide) (by decide) (bd 0 (by decide)) (bd 1 (by decide)) (bd 2 (by decide)) (bd 3 (by decide)) (bd 4 (by decide)))
  · exact valid_2 base sign xv x w hb0 hb1 hs0 hs1 h hxs hxv BASES Z37 (rowL k).toArray NAMES nm rfl hgl bases_any zero37 size37 sizeZ37 oneB (size36 k) rfl (oneR k) hrow names_any size23 rfl names_at oneN
      _ _ _ _ _ _ _ _ _ _ rfl rfl rfl rfl rfl rfl rfl rfl rfl rfl (cbd 0 1 (by decide) (by decide))
      (spec_call (spec_2 k hkl) (btj_bd k hkl 2 (by decide)) (by decide) (by decide) (bd 0 (by decide)) (bd 1 (by decide)) (bd 2 (by decide)) (bd 3 (by decide)) (bd 4 (by decide)))
end Go.Proofs.YbulkbzioDoor
