/-
  Seat b3789a: slices of int32 as lists; the walks of slices.Equal (6), slices.Index (9), slices.Contains (7).
-/
import Derived.Test.YbulkbzlgProg
import Derived.WalkKit
import Derived.Deep.QuietTactic
import Derived.BigQuiet
import Derived.WalkSmall
namespace Go.Proofs.Ybulkbzlg
open Go Go.RowKit
set_option linter.unusedVariables false
set_option linter.unusedSimpArgs false

theorem hide {p : Prop} (h : p) : Hid p := h

/-- The slice of int32 'v' reads as the list 'l'. -/
def Is (w : World) (v : Value) (l : List Int) : Prop :=
  ∃ (a : Option Addr) (c : Nat), v = .slice a l.length c ∧ (l ≠ [] → ∃ b off, a = some ⟨b, off, none⟩ ∧ ∀ j, j < l.length → w.cell? ⟨b, off + j, none⟩ = some (.int .i32 (l.getD j 0)))
theorem is_nil (w : World) : Is w (.slice none 0 0) [] := ⟨none, 0, rfl, fun h => absurd rfl h⟩
/-- It reads so wherever its block is the same. -/
theorem Is.same {w w' : World} {v : Value} {l : List Int} (h : Is w v l) (hb : l ≠ [] → ∀ k, v.ownBlock = some k → w'.heap[k]? = w.heap[k]?) : Is w' v l := by
  obtain ⟨a, c, rfl, hc⟩ := h
  refine ⟨a, c, rfl, fun hn => ?_⟩
  obtain ⟨b, off, rfl, hj⟩ := hc hn
  exact ⟨b, off, rfl, fun j hlt => (World.cell?_of_block (hb hn b rfl)).trans (hj j hlt)⟩
theorem Is.draws {w : World} {v : Value} {l : List Int} (h : Is w v l) (n : Nat) : Is (w.drewN n) v l := h
/-- What is owned reads so. -/
theorem is_of_owns {w : World} {base : Nat} {v : Value} {n : Nat} {l : List Int} (h : w.ownsRow base 21 1 v n (l.map (Value.int .i32))) : Is w v l := by
  obtain ⟨hl, h | ⟨g, cap, cur, rfl, hb, hh, h1, h2, h3, h4⟩⟩ := h
  · obtain ⟨rfl, rfl⟩ := h
    simp at hl
    subst hl
    exact is_nil w
  · simp only [List.length_map, Nat.mul_one] at hl
    subst hl
    refine ⟨_, cap, rfl, fun hn => ⟨g, 0, rfl, fun j hj => ?_⟩⟩
    rw [Nat.zero_add, cell_of_row _ _ _ _ _ _ hh]
    have e : (cur.toList.take (l.length * 1))[j]? = (l.map (Value.int .i32))[j]? := by rw [h4]
    rw [Nat.mul_one, List.getElem?_take_of_lt hj] at e
    rw [← Array.getElem?_toList, e]
    simp [List.getD, hj]

set_option maxHeartbeats 1000000 in
/-- slices.Equal of two slices that read as one list. -/
theorem equal_same {w : World} {v1 v2 : Value} {l : List Int} (h1 : Is w v1 l) (h2 : Is w v2 l) (hl : l.length ≤ 1000000) : Calls Yba.prog 6 #[v1, v2] w fun e w' => e = .returned (.bool true) ∧ ∃ k, w' = w.drewN k := by
  obtain ⟨a1, c1, rfl, h1⟩ := h1
  obtain ⟨a2, c2, rfl, h2⟩ := h2
  obtain ⟨n, hn⟩ : ∃ n, n = l.length := ⟨_, rfl⟩
  rw [← hn] at hl ⊢
  have HN := hide hn
  have H1 := hide h1
  have H2 := hide h2
  clear h1 h2 hn
  go_enter Yba.func6, Yba.ntmps6
  go_wp2
  go_loopw [13] (fun i wr => ∃ k d : Nat, k ≤ n ∧ i = .int .i64 k ∧ wr = w.drewN d) (fun i _ => n - (intOf i).toNat)
  case atStart => exact ⟨0, 0, Nat.zero_le _, rfl, rfl⟩
  case round =>
    obtain ⟨k, d, hk, rfl, rfl⟩ := hrel
    by_cases hlt : k < n
    · have hne : l ≠ [] := by intro e; rw [e] at HN; have := HN.out; simp at this; omega
      obtain ⟨b1, o1, rfl, g1⟩ := H1.out hne
      obtain ⟨b2, o2, rfl, g2⟩ := H2.out hne
      have e1 : w.cell? ⟨b1, o1 + k, none⟩ = some (.int .i32 (l.getD k 0)) := g1 k (by rw [← HN.out]; exact hlt)
      have e2 : w.cell? ⟨b2, o2 + k, none⟩ = some (.int .i32 (l.getD k 0)) := g2 k (by rw [← HN.out]; exact hlt)
      generalize l.getD k 0 = z at e1 e2
      have hi : (k : Int) < n := by omega
      clear g1 g2 hne
      go_wp2
      go_quiet (fail)
      go_wp2
      go_roundw
      case rel => exact ⟨k + 1, d + nq, by omega, by go_num, rfl⟩
      case measure => simp [intOf]; omega
    · obtain rfl : k = n := by omega
      clear hlt hk
      go_wp2
      go_ret
      exact ⟨rfl, _, rfl⟩

set_option maxHeartbeats 1000000 in
/-- slices.Index. -/
theorem index_any {w : World} {v : Value} {l : List Int} (h : Is w v l) (x : Int) (hl : l.length ≤ 1000000) :
    Calls Yba.prog 9 #[v, .int .i32 x] w fun e w' => (∃ z : Int, e = .returned (.int .i64 z) ∧ ((0 ≤ z ∧ x ∈ l) ∨ (z = -1 ∧ x ∉ l))) ∧ w' = w := by
  obtain ⟨a, c, rfl, h⟩ := h
  obtain ⟨n, hn⟩ : ∃ n, n = l.length := ⟨_, rfl⟩
  rw [← hn] at hl ⊢
  have HN := hide hn
  have H := hide h
  clear h hn
  go_enter Yba.func9, Yba.ntmps9
  go_wp2
  go_loop [8] (fun i => ∃ k : Nat, k ≤ n ∧ i = .int .i64 k ∧ Hid (∀ j, j < k → l.getD j 0 ≠ x)) (fun i => n - (intOf i).toNat)
  case atStart => exact ⟨0, Nat.zero_le _, rfl, fun j hj => absurd hj (Nat.not_lt_zero _)⟩
  case round =>
    obtain ⟨k, hk, rfl, HNO⟩ := hrel
    by_cases hlt : k < n
    · have hne : l ≠ [] := by intro e; rw [e] at HN; have := HN.out; simp at this; omega
      obtain ⟨b, o, rfl, g⟩ := H.out hne
      have e1 : w.cell? ⟨b, o + k, none⟩ = some (.int .i32 (l.getD k 0)) := g k (by rw [← HN.out]; exact hlt)
      obtain ⟨z, hz⟩ : ∃ z, l.getD k 0 = z := ⟨_, rfl⟩
      rw [hz] at e1
      have HZ := hide hz
      have hi : (k : Int) < n := by omega
      clear g hne hz
      by_cases hx : x = z
      · have hb : (x == z) = true := by simp [hx]
        have HM : Hid (x ∈ l) := by
          have hk' : k < l.length := by rw [← HN.out]; exact hlt
          rw [hx, ← HZ.out, List.getD, List.getElem?_eq_getElem hk']
          exact List.getElem_mem hk'
        clear hx
        go_wp2
        go_ret
        exact ⟨⟨k, rfl, .inl ⟨by omega, HM.out⟩⟩, rfl⟩
      · have hb : (x == z) = false := by simp [hx]
        have HX : Hid (l.getD k 0 ≠ x) := fun e => hx (by rw [← e, HZ.out])
        clear hx
        go_wp2
        go_round
        case rel => exact ⟨k + 1, by omega, by go_num, fun j hj => by
          by_cases e : j = k
          · subst e; exact HX.out
          · exact HNO.out j (by omega)⟩
        case measure => simp [intOf]; omega
    · obtain rfl : k = n := by omega
      have HM : Hid (x ∉ l) := fun hm => by
        obtain ⟨j, hj, e⟩ := List.getElem_of_mem hm
        exact HNO.out j (by rw [HN.out]; exact hj) (by rw [List.getD, List.getElem?_eq_getElem hj]; exact e)
      clear hlt hk
      go_wp2
      go_ret
      exact ⟨⟨-1, rfl, .inr ⟨rfl, HM.out⟩⟩, rfl⟩

set_option maxHeartbeats 1000000 in
/-- slices.Contains. -/
theorem contains_any {w : World} {v : Value} {l : List Int} (h : Is w v l) (x : Int) (hl : l.length ≤ 1000000) :
    Calls Yba.prog 7 #[v, .int .i32 x] w fun e w' => e = .returned (.bool (decide (x ∈ l))) ∧ w' = w := by
  have H := hide (index_any h x hl)
  clear h
  go_enter Yba.func7, Yba.ntmps7
  go_wp2_with fail
  refine H.out.mono ?_
  rintro e w' ⟨⟨z, rfl, hz⟩, rfl⟩
  rcases hz with ⟨h0, hm⟩ | ⟨rfl, hm⟩
  · have HM := hide hm
    clear hm
    go_wp2
    go_ret
    exact ⟨by simp [HM.out], rfl⟩
  · have HM := hide hm
    clear hm
    go_wp2
    go_ret
    exact ⟨by simp [HM.out], rfl⟩
end Go.Proofs.Ybulkbzlg
