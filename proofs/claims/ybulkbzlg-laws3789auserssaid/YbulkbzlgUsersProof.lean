/-
  Seat b3789a: THE PROOF OF 'Rows.LawS3789AUsersSaid'.
-/
import Derived.Test.YbulkbzlgRows
import Derived.Test.YbulkbzlgLaw
import Derived.ProofKit
import Derived.OpenShut
import Derived.ChangeOld
import Derived.Deep.SlicePairs
import Derived.Deep.Matrix
namespace Go.Proofs.Ybulkbzlg
open Go Go.ChangeShapes Go.WideShapes Go.ChangeAt Go.RowKit
set_option linter.unusedVariables false

theorem own : ownKnob Yba.prog.godebug = none := by kernel_rfl
theorem laidOut : laidOutB Yba.prog = true := by kernel_rfl

def iv : Value → Int
  | .int _ z => z
  | _ => 0
set_option maxRecDepth 100000 in
set_option maxHeartbeats 2000000 in
/-- More than 1024 credentials or step lists: true at once. -/
theorem walk_long (ca sa : Option Addr) (n cc m sc : Nat) (e : Int) (w : World) (h : 1024 < n ∨ 1024 < m) :
    Calls Yba.prog 3 #[.slice ca n cc, .slice sa m sc, .int .i32 e] w fun r w' => r = .returned (.bool true) ∧ Below w.heap.size w w' := by
  by_cases hn : 1024 < n
  · have hd1 : decide ((1024 : Int) < (n : Int)) = true := by simp; omega
    have hi1 : (1024 : Int) < (n : Int) := by omega
    go_enter Yba.func3, Yba.ntmps3
    go_wp2
    go_ret
    exact ⟨rfl, (Below.refl _ _).alloc (Nat.le_refl _) _⟩
  · have hd1 : decide ((1024 : Int) < (n : Int)) = false := by simp; omega
    have hd2 : (1024 : Int) < (m : Int) := by omega
    clear hn h
    go_enter Yba.func3, Yba.ntmps3
    go_wp2
    go_ret
    exact ⟨rfl, (Below.refl _ _).alloc (Nat.le_refl _) _⟩

/-- The credentials that came in, as numbers. -/
theorem creds_view {H : Type} {enc : TypeId × Value → H} {W : World} {fuel : Nat} {ca : Option Addr} {n cc : Nat} {x : DataW H × List MemPlace} (h : DataW.trod enc Yba.prog W 0 (fun _ => true) true fuel 22 [.slice ca n cc] = some x) :
    ∃ (cb co : Nat) (hd bd : Int → Int), (0 < n → ca = some ⟨cb, co, none⟩) ∧ ∀ x : Nat, x < n → W.cell? ⟨cb, co + x * 2, none⟩ = some (.int .i32 (hd x)) ∧ W.cell? ⟨cb, co + x * 2 + 1, none⟩ = some (.int .i32 (bd x)) := by
  rcases Deep.open_slice_pairs Yba.underlying22 Yba.underlying27 (by kernel_rfl) rfl rfl (by kernel_rfl) (by kernel_rfl) h with ⟨hcs, _⟩ | ⟨a, len, cap, m, fu, V0, V1, D0, D1, P0, P1, hcs, _, hl, _, hm, _, hall⟩
  · simp only [List.cons.injEq, Value.slice.injEq, and_true] at hcs
    obtain ⟨rfl, rfl, rfl⟩ := hcs
    exact ⟨0, 0, fun _ => 0, fun _ => 0, fun h => absurd h (by omega), fun x hx => absurd hx (by omega)⟩
  · simp only [List.cons.injEq, Value.slice.injEq, and_true] at hcs
    obtain ⟨rfl, rfl, rfl⟩ := hcs
    simp only [if_true] at hm
    by_cases h0 : 0 < n
    · obtain ⟨b, off, spot⟩ := a
      have hspot : spot = none := by simpa [Addr.add] using World.cell?_spot (hall 0 (by omega)).1
      subst hspot
      have hadd : ∀ j, (⟨b, off, none⟩ : Addr).add j = ⟨b, off + j, none⟩ := fun j => by unfold Addr.add; split <;> simp_all
      refine ⟨b, off, fun i => iv (V0 i.toNat), fun i => iv (V1 i.toNat), fun _ => rfl, fun x hx => ?_⟩
      obtain ⟨e0, e1, t0, t1⟩ := hall x (by omega)
      obtain ⟨z0, g0, _⟩ := DataW.trod_int Yba.underlying21 (show DataW.trod enc Yba.prog W 0 (fun _ => true) true fu 21 [V0 x] = some (D0 x, P0 x) from t0)
      obtain ⟨z1, g1, _⟩ := DataW.trod_int Yba.underlying21 (show DataW.trod enc Yba.prog W 0 (fun _ => true) true fu 21 [V1 x] = some (D1 x, P1 x) from t1)
      simp only [List.cons.injEq, and_true] at g0 g1
      rw [hadd] at e0 e1
      refine ⟨?_, ?_⟩
      · show _ = some (Value.int .i32 (iv (V0 (x : Int).toNat)))
        rw [e0, Int.toNat_natCast, g0]
        rfl
      · show _ = some (Value.int .i32 (iv (V1 (x : Int).toNat)))
        rw [show off + x * 2 + 1 = off + (x * 2 + 1) by omega, e1, Int.toNat_natCast, g1]
        rfl
    · exact ⟨0, 0, fun _ => 0, fun _ => 0, fun h => absurd h h0, fun x hx => absurd hx (by omega)⟩

/-- The step lists that came in. -/
theorem steps_view {H : Type} {enc : TypeId × Value → H} {W : World} {fuel : Nat} {sa : Option Addr} {m sc : Nat} {x : DataW H × List MemPlace} (h : DataW.trod enc Yba.prog W 0 (fun _ => true) true fuel 23 [.slice sa m sc] = some x) :
    ∃ (sb so : Nat) (A : Nat → Option Addr) (Ls C : Nat → Nat), (0 < m → sa = some ⟨sb, so, none⟩) ∧ (∀ i, i < m → W.cell? ⟨sb, so + i, none⟩ = some (.slice (A i) (Ls i) (C i))) ∧
      ∀ i, i < m → 0 < Ls i → ∃ b o, A i = some ⟨b, o, none⟩ ∧ ∀ j, j < Ls i → ∃ z : Int, W.cell? ⟨b, o + j, none⟩ = some (.int .u8 z) ∧ 0 ≤ z ∧ z ≤ 255 := by
  rcases Deep.open_int_rows Yba.underlying23 Yba.underlying24 Yba.underlying5 (by kernel_rfl) (by kernel_rfl) h with ⟨hcs, _⟩ | ⟨a, len, cap, A, Ls, C, Z, hcs, _, hl, _, _, hall⟩
  · simp only [List.cons.injEq, Value.slice.injEq, and_true] at hcs
    obtain ⟨rfl, rfl, rfl⟩ := hcs
    exact ⟨0, 0, fun _ => none, fun _ => 0, fun _ => 0, fun h => absurd h (by omega), fun x hx => absurd hx (by omega), fun x hx => absurd hx (by omega)⟩
  · simp only [List.cons.injEq, Value.slice.injEq, and_true] at hcs
    obtain ⟨rfl, rfl, rfl⟩ := hcs
    by_cases h0 : 0 < m
    · obtain ⟨b, off, spot⟩ := a
      have hspot : spot = none := by simpa [Addr.add] using World.cell?_spot (hall 0 (by omega)).1
      subst hspot
      have hadd : ∀ j, (⟨b, off, none⟩ : Addr).add j = ⟨b, off + j, none⟩ := fun j => by unfold Addr.add; split <;> simp_all
      refine ⟨b, off, A, Ls, C, fun _ => rfl, fun i hi => by rw [← hadd]; exact (hall i (by omega)).1, fun i hi hL => ?_⟩
      obtain ⟨_, hLC, hCm, hZ, hwf, hnone, hsome⟩ := hall i (by omega)
      cases hA : A i with
      | none => have := hnone hA; omega
      | some a' =>
        obtain ⟨_, hc⟩ := hsome a' hA
        obtain ⟨b', o', hab, hcc⟩ := ints_at (zs := Z i) (fun j hj => hc j (by omega)) (by omega)
        subst hab
        refine ⟨b', o', rfl, fun j hj => ⟨(Z i).getD j 0, hcc j (by omega), ?_⟩⟩
        have hj' : j < (Z i).length := by omega
        rw [List.getD, List.getElem?_eq_getElem hj']
        exact bounds_u8 (hwf _ (List.getElem_mem hj'))
    · exact ⟨0, 0, A, Ls, C, fun h => absurd h h0, fun x hx => absurd hx (by omega), fun x hx => absurd hx (by omega)⟩

set_option maxRecDepth 100000 in
theorem lifted (os : Os) (started : os.Started) (H : Type) (enc : TypeId × Value → H) :
    ReturnsInHanded {} Yba.checked os 3 .any (Rows.lawS3789AUsersSpec.pre6 enc Yba.prog Yba.f3 Rows.lawS3789AUsersRow.domain false) (Rows.lawS3789AUsersSpec.post enc Yba.prog Yba.f3 false true false false) := by
  refine returnsInHanded_of_change (C := Yba.checked) own started (by kernel_rfl) Yba.func3
    (ChangeSpec.witness6 (enc := enc) (C := Yba.checked) false ⟨#[], #[.slice none 0 0, .slice none 0 0, .int .i32 0], []⟩ 8 (by kernel_rfl) (by kernel_rfl) (by kernel_rfl) (by kernel_rfl)) ?_
  intro W base args ds gs before hval0 hW hcnd _
  have hval : ∀ (j : Nat) t v, Yba.f3.params[j]? = some t → args[j]? = some v → Value.okWide Yba.prog W .any base t v := hval0
  have hW' := hW
  obtain ⟨p, q, hA0, hV, rfl, hfz, hnd⟩ := hW
  have hA : DataW.TrodAll enc Yba.prog W 0 (fun _ => true) true Yba.f3.params.toList args.toList ds p := hA0
  rw [Yba.params3] at hA hval
  obtain ⟨v0, v1, v2, d0, d1, d2, p0, p1, p2, rfl, rfl, rfl, h0, h1, h2⟩ := trodAll_three hA
  obtain ⟨rfl, rfl⟩ := trodVars_none hV
  obtain ⟨a0, len0, cap0, rfl⟩ := okWide_slice Yba.underlying22 (hval 0 22 v0 rfl rfl)
  obtain ⟨a1, len1, cap1, rfl⟩ := okWide_slice Yba.underlying23 (hval 1 23 v1 rfl rfl)
  obtain ⟨a2, rfl, rfl, rfl, w2⟩ := open_int Yba.underlying21 (hval 2 21 v2 rfl rfl) h2
  have k0 := h0
  have k1 := h1
  have lt0 : ∀ x ∈ p0, x.block < W.heap.size := by obtain ⟨m, hm⟩ := k0; exact DataW.trod_lt m _ _ _ hm
  have lt1 : ∀ x ∈ p1, x.block < W.heap.size := by obtain ⟨m, hm⟩ := k1; exact DataW.trod_lt m _ _ _ hm
  obtain ⟨fu0, hf0⟩ := h0
  obtain ⟨fu1, hf1⟩ := h1
  obtain ⟨cb, co, hd, bd, hc1, hc2⟩ := creds_view hf0
  obtain ⟨sb, so, A, Ls, C, hs1, hs2, hs3⟩ := steps_view hf1
  clear hA0 hval0
  have hb2 := bounds_i32 w2
  have hwalk : Calls Yba.prog 3 #[.slice a0 len0 cap0, .slice a1 len1 cap1, .int .i32 a2] W fun r w' => r = .returned (.bool true) ∧ Below W.heap.size W w' := by
    by_cases hn : 1024 < len0
    · exact walk_long a0 a1 len0 cap0 len1 cap1 a2 W (.inl hn)
    by_cases hm : 1024 < len1
    · exact walk_long a0 a1 len0 cap0 len1 cap1 a2 W (.inr hm)
    exact law_walk a0 len0 cap0 cb co hd bd a1 len1 cap1 sb so A Ls C a2 W (by omega) (by omega) hb2.1 hb2.2 ⟨hc1, hc2, hs1, hs2, hs3⟩
  refine hwalk.mono fun e W' ⟨he, bel⟩ => ?_
  subst he
  exact ⟨_, rfl, _, _, _, [], _, [], hW', trodAll_mk1 (shut_bool Yba.underlying4 _), trodAll_mk3 (Below.trod laidOut (by kernel_rfl) (of_decide_eq_true (by kernel_rfl)) k0 bel lt0) (Below.trod laidOut (by kernel_rfl) (of_decide_eq_true (by kernel_rfl)) k1 bel lt1) (shut_int Yba.underlying21 w2), rfl, bel.frame _, fun h => by cases h⟩

/-- ████ THE STATEMENT ████ -/
theorem users_proved : Rows.LawS3789AUsersSaid :=
  OpenClaim.holds_of_wide 3 Yba.f3 rfl rfl rfl rfl rfl rfl rfl ⟨rfl, rfl, rfl, rfl, rfl⟩ rfl rfl rfl rfl rfl (by kernel_rfl) Yba.func3 (by kernel_rfl)
    (of_decide_eq_true (by kernel_rfl)) (by unfold Func.isWrapper; first | (rw [if_pos (by decide +kernel)]; kernel_rfl) | (rw [if_neg (by decide +kernel)]; exact ⟨rfl, rfl⟩))
    (fun os started H enc _ => lifted os started H enc)
#print axioms users_proved
end Go.Proofs.Ybulkbzlg
