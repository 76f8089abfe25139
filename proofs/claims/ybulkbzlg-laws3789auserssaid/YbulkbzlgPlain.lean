/-
  Seat b3789a: the plain law: of a rising list of numbers below n, those kept one by one (each once, its body even) are those of 0 .. n-1 that lie on the list and whose body is even.
-/
import Derived.Test.YbulkbzlgUsers
namespace Go.Proofs.Ybulkbzlg
open Go Go.RowKit
set_option linter.unusedSimpArgs false

/-- Rising (repeats allowed), each from 0 to n - 1. -/
def Good (n : Nat) (l : List Int) : Prop := l.Pairwise (fun a b => a ≤ b) ∧ ∀ x ∈ l, 0 ≤ x ∧ x < n
theorem good_nil (n : Nat) : Good n [] := ⟨List.Pairwise.nil, fun _ h => absurd h List.not_mem_nil⟩
theorem Good.snoc {n : Nat} {l : List Int} {c : Int} (h : Good n l) (hc : ∀ x ∈ l, x ≤ c) (h0 : 0 ≤ c) (h1 : c < n) : Good n (l ++ [c]) := by
  refine ⟨?_, fun x hx => ?_⟩
  · rw [List.pairwise_append]
    exact ⟨h.1, List.pairwise_singleton _ _, fun a ha b hb => by rw [List.mem_singleton.1 hb]; exact hc a ha⟩
  · rcases List.mem_append.1 hx with hx | hx
    · exact h.2 x hx
    · rw [List.mem_singleton.1 hx]; exact ⟨h0, h1⟩
/-- What the law's own loop gathers of the first k numbers. -/
def wants (bd : Int → Int) (l : List Int) (k : Nat) : List Int := ((List.range k).filter fun (i : Nat) => decide ((i : Int) ∈ l) && ev (bd (i : Int))).map (fun (i : Nat) => (i : Int))
theorem wants_succ (bd : Int → Int) (l : List Int) (k : Nat) : wants bd l (k + 1) = wants bd l k ++ (if decide ((k : Int) ∈ l) && ev (bd k) then [(k : Int)] else []) := by
  unfold wants
  rw [List.range_succ, List.filter_append, List.map_append]
  cases h : (decide ((k : Int) ∈ l) && ev (bd k)) <;> simp [h]
theorem wants_length (bd : Int → Int) (l : List Int) (k : Nat) : (wants bd l k).length ≤ k := by
  unfold wants
  rw [List.length_map]
  have := List.length_filter_le (fun (i : Nat) => decide ((i : Int) ∈ l) && ev (bd (i : Int))) (List.range k)
  simpa using this
theorem mem_wants {bd : Int → Int} {l : List Int} {k : Nat} {x : Int} : x ∈ wants bd l k ↔ 0 ≤ x ∧ x < k ∧ x ∈ l ∧ ev (bd x) = true := by
  unfold wants
  simp only [List.mem_map, List.mem_filter, List.mem_range, Bool.and_eq_true, decide_eq_true_eq]
  constructor
  · rintro ⟨i, ⟨h1, h2, h3⟩, rfl⟩
    exact ⟨by omega, by omega, h2, h3⟩
  · rintro ⟨h0, h1, h2, h3⟩
    refine ⟨x.toNat, ⟨by omega, ?_, ?_⟩, by omega⟩
    · rw [show ((x.toNat : Nat) : Int) = x by omega]; exact h2
    · rw [show ((x.toNat : Nat) : Int) = x by omega]; exact h3
/-- The numbers from a on: none of them on the list, none gathered. -/
theorem wants_stop {bd : Int → Int} {l : List Int} {a : Nat} (h : ∀ x ∈ l, x < a) : ∀ d, wants bd l (a + d) = wants bd l a
  | 0 => rfl
  | d + 1 => by
    have e : a + (d + 1) = (a + d) + 1 := by omega
    rw [e, wants_succ, wants_stop h d]
    have hn : ((a + d : Nat) : Int) ∉ l := fun hm => by have := h _ hm; omega
    rw [if_neg (by rw [decide_eq_false hn]; simp), List.append_nil]
/-- The gathering looks at the list's members alone. -/
theorem wants_congr {bd : Int → Int} {l l' : List Int} : ∀ {k : Nat}, (∀ x : Int, x < k → ev (bd x) = true → (x ∈ l ↔ x ∈ l')) → wants bd l k = wants bd l' k
  | 0, _ => rfl
  | k + 1, h => by
    rw [wants_succ, wants_succ, wants_congr (k := k) (fun x hx he => h x (by omega) he)]
    congr 1
    cases he : ev (bd k)
    · simp
    · have := h k (by omega) he
      by_cases hm : (k : Int) ∈ l
      · simp [hm, this.1 hm]
      · have hm2 : ¬ (k : Int) ∈ l' := fun hm' => hm (this.2 hm')
        simp [hm, hm2]
theorem Good.take {n : Nat} {l : List Int} (h : Good n l) (k : Nat) : Good n (l.take k) :=
  ⟨h.1.sublist (List.take_sublist k l), fun x hx => h.2 x (List.mem_of_mem_take hx)⟩
/-- One number more. -/
theorem pick_wants {bd : Int → Int} {n : Nat} {p : List Int} {x : Int} (h : Good n (p ++ [x])) : pick bd (wants bd p n) x = wants bd (p ++ [x]) n := by
  obtain ⟨hs, hr⟩ := h
  rw [List.pairwise_append] at hs
  have hle : ∀ y ∈ p, y ≤ x := fun y hy => hs.2.2 y hy x (List.mem_singleton.2 rfl)
  have hx := hr x (List.mem_append.2 (.inr (List.mem_singleton.2 rfl)))
  obtain ⟨X, hX⟩ : ∃ X : Nat, x = X := ⟨x.toNat, by omega⟩
  subst hX
  obtain ⟨d, hd⟩ : ∃ d, n = X + 1 + d := ⟨n - (X + 1), by omega⟩
  cases he : ev (bd X) with
  | false =>
    unfold pick
    rw [if_neg (by rw [he]; simp)]
    refine wants_congr fun y _ hy => ?_
    rw [List.mem_append, List.mem_singleton]
    constructor
    · exact .inl
    · rintro (h | rfl)
      · exact h
      · rw [he] at hy; cases hy
  | true =>
    by_cases hm : (X : Int) ∈ p
    · have e1 : wants bd p n = wants bd p X ++ [(X : Int)] := by
        rw [hd, wants_stop (fun y hy => by have := hle y hy; omega), wants_succ]
        simp [hm, he]
      have e2 : wants bd (p ++ [(X : Int)]) n = wants bd p n := wants_congr fun y _ _ => by
        rw [List.mem_append, List.mem_singleton]
        constructor
        · rintro (h | rfl)
          · exact h
          · exact hm
        · exact .inl
      rw [e2]
      unfold pick
      rw [if_neg]
      rintro ⟨_, h | h⟩
      · rw [e1] at h; simp at h
      · rw [e1] at h; exact h (List.getLast?_concat)
    · have hlt : ∀ y ∈ p, y < X := fun y hy => by
        have h1 := hle y hy
        have h2 : y ≠ X := fun e => hm (e ▸ hy)
        omega
      have e1 : wants bd p n = wants bd p X := by
        rw [show n = X + (d + 1) by omega]
        exact wants_stop hlt _
      have e2 : wants bd (p ++ [(X : Int)]) n = wants bd p X ++ [(X : Int)] := by
        rw [hd, wants_stop (fun y hy => by
          rcases List.mem_append.1 hy with h | h
          · have := hlt y h; omega
          · rw [List.mem_singleton.1 h]; omega), wants_succ]
        have e3 : wants bd (p ++ [(X : Int)]) X = wants bd p X := wants_congr fun y hy _ => by
          rw [List.mem_append, List.mem_singleton]
          constructor
          · rintro (h | rfl)
            · exact h
            · omega
          · exact .inl
        rw [e3]
        simp [he]
      rw [e2, e1]
      unfold pick
      rw [if_pos]
      refine ⟨he, .inr fun h => ?_⟩
      obtain ⟨ys, hy⟩ := List.getLast?_eq_some_iff.1 h
      have : (X : Int) ∈ wants bd p X := by rw [hy]; simp
      exact hm (mem_wants.1 this).2.2.1
theorem picks_take (bd : Int → Int) (n : Nat) (l : List Int) (h : Good n l) : ∀ k, k ≤ l.length → picks bd (l.take k) = wants bd (l.take k) n
  | 0, _ => by
    have : wants bd [] n = [] := List.eq_nil_iff_forall_not_mem.2 fun x hx => by have := (mem_wants.1 hx).2.2.1; simp at this
    simp [picks, this]
  | k + 1, hk => by
    have g := h.take (k + 1)
    rw [take_snoc l k (by omega)] at g ⊢
    rw [picks_snoc, picks_take bd n l h k (by omega)]
    exact pick_wants g
/-- ████ THE LAW ████ -/
theorem picks_eq (bd : Int → Int) (n : Nat) (l : List Int) (h : Good n l) : picks bd l = wants bd l n := by
  have := picks_take bd n l h l.length (Nat.le_refl _)
  rwa [List.take_length] at this
end Go.Proofs.Ybulkbzlg
