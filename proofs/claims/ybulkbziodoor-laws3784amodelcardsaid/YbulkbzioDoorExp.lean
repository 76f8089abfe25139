/-
  Seat b3784aD: the walk of 'zzs3784aexp' (9).
-/
import Derived.Test.YbulkbzioDoorValid
import Derived.Test.YbulkbzioDoorRowsOf
namespace Go.Proofs.YbulkbzioDoor
open Go Go.RowKit
set_option linter.unusedVariables false
set_option linter.unusedSimpArgs false

/-- Does nothing where the operation is a load, a store of that type; else it does not fit, and says so at once. -/
theorem at_load (ty : TypeId) {P : Program} {ops : Array Oper} {Q : Exit → Act → World → Prop} {rest : List Oper} {a : Act} {w : World} {d : Option Tmp} {x : Operand} {t : TypeId} {p : String} {af : Array Edge}
    (h : wpList P ops Q ({ dst := d, op := .load ty x, type := t, pos := p, after := af, guard := none } :: rest) a w) : wpList P ops Q ({ dst := d, op := .load ty x, type := t, pos := p, after := af, guard := none } :: rest) a w := h
theorem at_store (ty : TypeId) {P : Program} {ops : Array Oper} {Q : Exit → Act → World → Prop} {rest : List Oper} {a : Act} {w : World} {d : Option Tmp} {x y : Operand} {t : TypeId} {p : String} {af : Array Edge}
    (h : wpList P ops Q ({ dst := d, op := .store ty x y, type := t, pos := p, after := af, guard := none } :: rest) a w) : wpList P ops Q ({ dst := d, op := .store ty x y, type := t, pos := p, after := af, guard := none } :: rest) a w := h
/-- The five counts of base k are c2 .. c6. -/
def fits (c2 c3 c4 c5 c6 : Int) (k : Nat) : Prop := bkj k 0 = c2 ∧ bkj k 1 = c3 ∧ bkj k 2 = c4 ∧ bkj k 3 = c5 ∧ bkj k 4 = c6
/-- The two sign counts are those of sign word s (0: none, 1: signed, 2: unsigned). -/
def signs (c0 c1 : Int) (s : Nat) : Prop := c0 = (if s = 1 then 1 else 0) ∧ c1 = (if s = 2 then 1 else 0)

theorem below_w {w W0 W : World} {B : Nat} (hB : w.heap.size = B) (h : Below B w W0) (h2 : Below W0.heap.size W0 W) : Below w.heap.size w W := by
  subst hB; exact h.trans (h2.mono h.size)
theorem no_step {c0 c1 c2 c3 c4 c5 c6 : Int} {k : Nat} (h : ∀ j s, j < k → s < 3 → ¬ (fits c2 c3 c4 c5 c6 j ∧ signs c0 c1 s)) (hk : ∀ s, s < 3 → ¬ (fits c2 c3 c4 c5 c6 k ∧ signs c0 c1 s)) :
    ∀ j s, j < k + 1 → s < 3 → ¬ (fits c2 c3 c4 c5 c6 j ∧ signs c0 c1 s) := fun j s hj hs => by
  by_cases e : j = k
  · subst e; exact hk s hs
  · exact h j s (by omega) hs
theorem sg_step {c0 c1 : Int} {s : Nat} (h : ∀ s', s' < s → ¬ signs c0 c1 s') (hs : ¬ signs c0 c1 s) : ∀ s', s' < s + 1 → ¬ signs c0 c1 s' := fun s' hs' => by
  by_cases e : s' = s
  · subst e; exact hs
  · exact h s' (by omega)
set_option maxRecDepth 100000 in
set_option maxHeartbeats 4000000 in
theorem exp_walk (c0 c1 c2 c3 c4 c5 c6 : Int) (w : World) (BS Z : Array Value)
    (hB : Hid (∀ w, Calls Ybad.prog 10 #[] w fun e w' => e = .returned (.agg BS) ∧ Below w.heap.size w w'))
    (hz : ∀ w, (zeroValue 37).run Ybad.prog w = .ok (.agg Z) w) (sB : Hid ((Ybad.prog.info? 37).map (·.size) = some BS.size)) (sZ : Hid (Z.size = BS.size)) (oB : Hid (BS.all (·.oneCell') = true))
    (RA : Nat → Array Value) (sR : Hid (∀ k, (Ybad.prog.info? 36).map (·.size) = some (RA k).size)) (sY : Hid (∀ k, 20 = (RA k).size)) (oR : Hid (∀ k, (RA k).all (·.oneCell') = true))
    (hrow : Hid (∀ (W : World) (b k : Nat), k < 10 → W.heap[b]? = some (.cells BS 37) → W.rangeAt b (k * 20) (RA k).toList))
    (hq : Hid (∀ k j, j < 5 → (RA k)[j]? = some (.int .i64 (bkj k j))))
    (ht : Hid (∀ k s, s < 3 → (RA k)[5 + 4 * s]? = some (.string (tS (btj k s))) ∧ (RA k)[5 + 4 * s + 1]? = some (.int .i64 (tB (btj k s))) ∧ (RA k)[5 + 4 * s + 2]? = some (.bool (tU (btj k s))) ∧ (RA k)[5 + 4 * s + 3]? = some (.int .i64 (tR (btj k s))) ∧ (RA k)[17 + s]? = some (.bool (bokj k s)))) :
    Calls Ybad.prog 9 #[.agg #[.int .i64 c0, .int .i64 c1, .int .i64 c2, .int .i64 c3, .int .i64 c4, .int .i64 c5, .int .i64 c6]] w fun e w' => Below w.heap.size w w' ∧
      ((∃ k s, k < 10 ∧ s < 3 ∧ fits c2 c3 c4 c5 c6 k ∧ signs c0 c1 s ∧ e = .returned (.tuple #[.agg #[.string (tS (btj k s)), .int .i64 (tB (btj k s)), .bool (tU (btj k s)), .int .i64 (tR (btj k s))], .bool (bokj k s)])) ∨
       ((∀ k s, k < 10 → s < 3 → ¬ (fits c2 c3 c4 c5 c6 k ∧ signs c0 c1 s)) ∧ e = .returned (.tuple #[.agg #[.string (tS 0), .int .i64 (tB 0), .bool (tU 0), .int .i64 (tR 0)], .bool false]))) := by
  go_enter Ybad.func9, Ybad.ntmps9
  go_wp2_with (first | (go_at_call 10; refine (hB.out _).mono ?_; rintro e w1 ⟨rfl, hbel1⟩) | (refine wpList_store_last rfl 37 (.tmp 4) (.tmp 10) rfl w1 w1.heap.size rfl Z BS 37 rfl rfl sB.out sZ.out oB.out rfl ?_))
  have hz2 : ((w.alloc (.cells #[.int .i64 c0, .int .i64 c1, .int .i64 c2, .int .i64 c3, .int .i64 c4, .int .i64 c5, .int .i64 c6] 22)).alloc (.cells #[.string { data := #[] }, .int .i64 0, .bool false, .int .i64 0] 27)).heap.size = w.heap.size + 1 + 1 := by rw [World.size_alloc, World.size_alloc]
  have hC : w1.heap[w.heap.size]? = some (.cells #[.int .i64 c0, .int .i64 c1, .int .i64 c2, .int .i64 c3, .int .i64 c4, .int .i64 c5, .int .i64 c6] 22) := (hbel1.block _ (by rw [hz2]; omega)).trans (Go.heap_alloc2_old w _ _)
  have hR : w1.heap[w.heap.size + 1]? = some (.cells #[.string { data := #[] }, .int .i64 0, .bool false, .int .i64 0] 27) := (hbel1.block _ (by rw [hz2]; omega)).trans (Go.heap_alloc2_new w _ _)
  have hw1 : w.heap.size + 1 + 1 ≤ w1.heap.size := by rw [← hz2]; exact hbel1.size
  have HBW : Hid (Below w.heap.size w (w1.alloc (.cells BS 37))) := ((((Below.refl _ _).alloc (Nat.le_refl _) _).alloc (by simp) _).trans (hbel1.mono (by rw [hz2]; omega))).alloc (by omega) _
  have HT : Hid ((w1.alloc (.cells BS 37)).heap[w1.heap.size]? = some (.cells BS 37)) := Go.heap_alloc_new w1 _
  have HC : Hid ((w1.alloc (.cells BS 37)).heap[w.heap.size]? = some (.cells #[.int .i64 c0, .int .i64 c1, .int .i64 c2, .int .i64 c3, .int .i64 c4, .int .i64 c5, .int .i64 c6] 22)) := (Below.heap_alloc w1 _ _ (by omega)).trans hC
  have HR : Hid ((w1.alloc (.cells BS 37)).heap[w.heap.size + 1]? = some (.cells #[.string { data := #[] }, .int .i64 0, .bool false, .int .i64 0] 27)) := (Below.heap_alloc w1 _ _ (by omega)).trans hR
  have HSZ : Hid ((w1.alloc (.cells BS 37)).heap.size = w1.heap.size + 1) := World.size_alloc ..
  have HW1 := hide hw1
  clear hz2 hC hR hw1 hbel1 hz hB sB sZ oB
  generalize (w1.alloc (.cells BS 37)) = W0 at HBW HT HC HR HSZ ⊢
  obtain ⟨T, hT⟩ : ∃ T, w1.heap.size = T := ⟨_, rfl⟩
  obtain ⟨B, hB⟩ : ∃ B, w.heap.size = B := ⟨_, rfl⟩
  rw [hT] at HT HSZ HW1 ⊢
  rw [hB] at HC HR HW1 HBW ⊢
  have HBD := hide hB
  clear hT hB
  go_loopw [5] (fun i wr => ∃ k : Nat, k ≤ 10 ∧ i = .int .i64 k ∧ Hid (∀ j s, j < k → s < 3 → ¬ (fits c2 c3 c4 c5 c6 j ∧ signs c0 c1 s)) ∧ Below W0.heap.size W0 wr) (fun i _ => 10 - (intOf i).toNat)
  case atStart => exact ⟨0, by omega, rfl, fun j s hj => absurd hj (by omega), Below.refl _ _⟩
  case round =>
    obtain ⟨k, hk, rfl, HNO, hnx⟩ := hrel
    have HNX := hide hnx
    clear hnx
    by_cases hlt : k < 10
    · have hki : (k : Int) < 10 := by omega
      have hsz : T + 1 ≤ wr.heap.size := by have h := HNX.out.size; rw [HSZ.out] at h; exact h
      have hTw : Hid (wr.heap[T]? = some (.cells BS 37)) := (HNX.out.block T (by rw [HSZ.out]; omega)).trans HT.out
      have hCw : Hid (wr.heap[B]? = some (.cells #[.int .i64 c0, .int .i64 c1, .int .i64 c2, .int .i64 c3, .int .i64 c4, .int .i64 c5, .int .i64 c6] 22)) := (HNX.out.block B (by have := HW1.out; rw [HSZ.out]; omega)).trans HC.out
      have hRw : Hid (wr.heap[B + 1]? = some (.cells #[.string { data := #[] }, .int .i64 0, .bool false, .int .i64 0] 27)) := (HNX.out.block (B + 1) (by have := HW1.out; rw [HSZ.out]; omega)).trans HR.out
      have hrg := hide (hrow.out wr T k hlt hTw.out)
      have hsR := hide (sR.out k)
      have hsY := hide (sY.out k)
      have hoR := hide (oR.out k)
      have hq0 := hq.out k 0 (by decide)
      have hq1 := hq.out k 1 (by decide)
      have hq2 := hq.out k 2 (by decide)
      have hq3 := hq.out k 3 (by decide)
      have hq4 := hq.out k 4 (by decide)
      have htt := hide (ht.out k)
      generalize RA k = R at hrg hsR hsY hoR hq0 hq1 hq2 hq3 hq4 htt
      have cc : ∀ (o : Obj) (j : Nat), (wr.alloc o).cell? ⟨B, j, none⟩ = #[Value.int .i64 c0, .int .i64 c1, .int .i64 c2, .int .i64 c3, .int .i64 c4, .int .i64 c5, .int .i64 c6][j]? := fun o j => cell_of_row _ _ j _ 22 (0, 0) ((Below.heap_alloc wr o B (by have := HW1.out; omega)).trans hCw.out)
      have e2 : ∀ o, (wr.alloc o).cell? ⟨B, 2, none⟩ = some (.int .i64 c2) := fun o => cc o 2
      have e3 : ∀ o, (wr.alloc o).cell? ⟨B, 3, none⟩ = some (.int .i64 c3) := fun o => cc o 3
      have e4 : ∀ o, (wr.alloc o).cell? ⟨B, 4, none⟩ = some (.int .i64 c4) := fun o => cc o 4
      have e5 : ∀ o, (wr.alloc o).cell? ⟨B, 5, none⟩ = some (.int .i64 c5) := fun o => cc o 5
      have e6 : ∀ o, (wr.alloc o).cell? ⟨B, 6, none⟩ = some (.int .i64 c6) := fun o => cc o 6
      have CC := hide cc
      clear cc
      by_cases f0 : bkj k 0 = c2
      rotate_left
      · have HN : Hid (∀ s, s < 3 → ¬ (fits c2 c3 c4 c5 c6 k ∧ signs c0 c1 s)) := fun s _ h => f0 h.1.1
        have b0 : (bkj k 0 != c2) = true := by simp [f0]
        clear f0
        go_wp2_with (first | ((with_reducible refine at_load 36 ?_); refine wpList_load_row_at rfl 36 (.tmp 16) rfl T (k * 20) rfl R _ hrg.out Ybad.underlying36 rfl hsR.out ?_) | ((with_reducible refine at_store 36 ?_); refine wpList_store_last rfl 36 (.tmp 6) (.tmp 17) rfl wr wr.heap.size rfl _ R 36 rfl rfl hsR.out (by exact hsY.out) hoR.out rfl ?_))
        go_roundw
        case rel => exact ⟨k + 1, by omega, by go_num, no_step HNO.out HN.out, HNX.out.alloc HNX.out.size _⟩
        case measure => simp [intOf]; omega
      have F0 := hide f0
      have b0 : (bkj k 0 != c2) = false := by simp [f0]
      clear f0
      by_cases f1 : bkj k 1 = c3
      rotate_left
      · have HN : Hid (∀ s, s < 3 → ¬ (fits c2 c3 c4 c5 c6 k ∧ signs c0 c1 s)) := fun s _ h => f1 h.1.2.1
        have b1 : (bkj k 1 != c3) = true := by simp [f1]
        clear F0 f1
        go_wp2_with (first | ((with_reducible refine at_load 36 ?_); refine wpList_load_row_at rfl 36 (.tmp 16) rfl T (k * 20) rfl R _ hrg.out Ybad.underlying36 rfl hsR.out ?_) | ((with_reducible refine at_store 36 ?_); refine wpList_store_last rfl 36 (.tmp 6) (.tmp 17) rfl wr wr.heap.size rfl _ R 36 rfl rfl hsR.out (by exact hsY.out) hoR.out rfl ?_))
        go_roundw
        case rel => exact ⟨k + 1, by omega, by go_num, no_step HNO.out HN.out, HNX.out.alloc HNX.out.size _⟩
        case measure => simp [intOf]; omega
      have F1 := hide f1
      have b1 : (bkj k 1 != c3) = false := by simp [f1]
      clear f1
      by_cases f2 : bkj k 2 = c4
      rotate_left
      · have HN : Hid (∀ s, s < 3 → ¬ (fits c2 c3 c4 c5 c6 k ∧ signs c0 c1 s)) := fun s _ h => f2 h.1.2.2.1
        have b2 : (bkj k 2 != c4) = true := by simp [f2]
        clear F0 F1 f2
        go_wp2_with (first | ((with_reducible refine at_load 36 ?_); refine wpList_load_row_at rfl 36 (.tmp 16) rfl T (k * 20) rfl R _ hrg.out Ybad.underlying36 rfl hsR.out ?_) | ((with_reducible refine at_store 36 ?_); refine wpList_store_last rfl 36 (.tmp 6) (.tmp 17) rfl wr wr.heap.size rfl _ R 36 rfl rfl hsR.out (by exact hsY.out) hoR.out rfl ?_))
        go_roundw
        case rel => exact ⟨k + 1, by omega, by go_num, no_step HNO.out HN.out, HNX.out.alloc HNX.out.size _⟩
        case measure => simp [intOf]; omega
      have F2 := hide f2
      have b2 : (bkj k 2 != c4) = false := by simp [f2]
      clear f2
      by_cases f3 : bkj k 3 = c5
      rotate_left
      · have HN : Hid (∀ s, s < 3 → ¬ (fits c2 c3 c4 c5 c6 k ∧ signs c0 c1 s)) := fun s _ h => f3 h.1.2.2.2.1
        have b3 : (bkj k 3 != c5) = true := by simp [f3]
        clear F0 F1 F2 f3
        go_wp2_with (first | ((with_reducible refine at_load 36 ?_); refine wpList_load_row_at rfl 36 (.tmp 16) rfl T (k * 20) rfl R _ hrg.out Ybad.underlying36 rfl hsR.out ?_) | ((with_reducible refine at_store 36 ?_); refine wpList_store_last rfl 36 (.tmp 6) (.tmp 17) rfl wr wr.heap.size rfl _ R 36 rfl rfl hsR.out (by exact hsY.out) hoR.out rfl ?_))
        go_roundw
        case rel => exact ⟨k + 1, by omega, by go_num, no_step HNO.out HN.out, HNX.out.alloc HNX.out.size _⟩
        case measure => simp [intOf]; omega
      have F3 := hide f3
      have b3 : (bkj k 3 != c5) = false := by simp [f3]
      clear f3
      by_cases f4 : bkj k 4 = c6
      rotate_left
      · have HN : Hid (∀ s, s < 3 → ¬ (fits c2 c3 c4 c5 c6 k ∧ signs c0 c1 s)) := fun s _ h => f4 h.1.2.2.2.2
        have b4 : (bkj k 4 != c6) = true := by simp [f4]
        clear F0 F1 F2 F3 f4
        go_wp2_with (first | ((with_reducible refine at_load 36 ?_); refine wpList_load_row_at rfl 36 (.tmp 16) rfl T (k * 20) rfl R _ hrg.out Ybad.underlying36 rfl hsR.out ?_) | ((with_reducible refine at_store 36 ?_); refine wpList_store_last rfl 36 (.tmp 6) (.tmp 17) rfl wr wr.heap.size rfl _ R 36 rfl rfl hsR.out (by exact hsY.out) hoR.out rfl ?_))
        go_roundw
        case rel => exact ⟨k + 1, by omega, by go_num, no_step HNO.out HN.out, HNX.out.alloc HNX.out.size _⟩
        case measure => simp [intOf]; omega
      have F4 := hide f4
      have b4 : (bkj k 4 != c6) = false := by simp [f4]
      clear f4
      go_wp2_with (first | ((with_reducible refine at_load 36 ?_); refine wpList_load_row_at rfl 36 (.tmp 16) rfl T (k * 20) rfl R _ hrg.out Ybad.underlying36 rfl hsR.out ?_) | ((with_reducible refine at_store 36 ?_); refine wpList_store_last rfl 36 (.tmp 6) (.tmp 17) rfl wr wr.heap.size rfl _ R 36 rfl rfl hsR.out (by exact hsY.out) hoR.out rfl ?_))
      have i0 : (wr.alloc (.cells R 36)).cell? ⟨B, 0, none⟩ = some (.int .i64 c0) := CC.out _ 0
      have i1 : (wr.alloc (.cells R 36)).cell? ⟨B, 1, none⟩ = some (.int .i64 c1) := CC.out _ 1
      have hX : (wr.alloc (.cells R 36)).heap[wr.heap.size]? = some (.cells R 36) := Go.heap_alloc_new wr _
      have hRR : (wr.alloc (.cells R 36)).heap[B + 1]? = some (.cells #[.string { data := #[] }, .int .i64 0, .bool false, .int .i64 0] 27) := (Below.heap_alloc wr _ (B + 1) (by have := HW1.out; omega)).trans hRw.out
      have HBI : Hid (Below W0.heap.size W0 (wr.alloc (.cells R 36))) := HNX.out.alloc HNX.out.size _
      clear hq0 hq1 hq2 hq3 hq4 e2 e3 e4 e5 e6 CC b0 b1 b2 b3 b4 hrg hsR hsY hoR hTw hCw hRw
      obtain ⟨X, hXd⟩ : ∃ X, wr.heap.size = X := ⟨_, rfl⟩
      generalize (wr.alloc (.cells R 36)) = WI at i0 i1 hX hRR HBI ⊢
      rw [hXd] at hX ⊢
      clear hXd
      have HX := hide hX
      have r0 : WI.cell? ⟨B + 1, 0, none⟩ = some (.string { data := #[] }) := by rw [cell_of_row _ _ _ _ _ _ hRR]; rfl
      have r1 : WI.cell? ⟨B + 1, 1, none⟩ = some (.int .i64 0) := by rw [cell_of_row _ _ _ _ _ _ hRR]; rfl
      have r2 : WI.cell? ⟨B + 1, 2, none⟩ = some (.bool false) := by rw [cell_of_row _ _ _ _ _ _ hRR]; rfl
      have r3 : WI.cell? ⟨B + 1, 3, none⟩ = some (.int .i64 0) := by rw [cell_of_row _ _ _ _ _ _ hRR]; rfl
      have z0 : WI.frozen? ⟨B + 1, 0, none⟩ = false := frozen_of_row _ _ _ _ _ hRR
      have z1 : WI.frozen? ⟨B + 1, 1, none⟩ = false := frozen_of_row _ _ _ _ _ hRR
      have z2 : WI.frozen? ⟨B + 1, 2, none⟩ = false := frozen_of_row _ _ _ _ _ hRR
      have z3 : WI.frozen? ⟨B + 1, 3, none⟩ = false := frozen_of_row _ _ _ _ _ hRR
      clear hX hRR
      go_loop [7] (fun i => ∃ s : Nat, s ≤ 3 ∧ i = .int .i64 s ∧ Hid (∀ s', s' < s → ¬ signs c0 c1 s')) (fun i => 3 - (intOf i).toNat)
      case atStart => exact ⟨0, by omega, rfl, fun s hs => absurd hs (by omega)⟩
      case round =>
        obtain ⟨s, hs, rfl, HNS⟩ := hrel
        have h4 : s = 0 ∨ s = 1 ∨ s = 2 ∨ s = 3 := by omega
        clear hs
        rcases h4 with rfl | rfl | rfl | rfl
        · by_cases g0 : c0 = 0
          · by_cases g1 : c1 = 0
            · have HSG : Hid (signs c0 c1 0) := ⟨g0, g1⟩
              have b0 : (c0 == 0) = true := by simp [g0]
              have b1 : (c1 == 0) = true := by simp [g1]
              obtain ⟨t0, t1, t2, t3, t4⟩ := htt.out 0 (by decide)
              have y0 : WI.cell? ⟨X, 5, none⟩ = some (.string (tS (btj k 0))) := by rw [cell_of_row _ _ _ _ _ _ HX.out]; exact t0
              have y1 : WI.cell? ⟨X, 5 + 1, none⟩ = some (.int .i64 (tB (btj k 0))) := by rw [cell_of_row _ _ _ _ _ _ HX.out]; exact t1
              have y2 : WI.cell? ⟨X, 5 + 2, none⟩ = some (.bool (tU (btj k 0))) := by rw [cell_of_row _ _ _ _ _ _ HX.out]; exact t2
              have y3 : WI.cell? ⟨X, 5 + 3, none⟩ = some (.int .i64 (tR (btj k 0))) := by rw [cell_of_row _ _ _ _ _ _ HX.out]; exact t3
              have y4 : WI.cell? ⟨X, 17, none⟩ = some (.bool (bokj k 0)) := by rw [cell_of_row _ _ _ _ _ _ HX.out]; exact t4
              clear g0 g1 t0 t1 t2 t3 t4
              go_wp2
              go_region
              go_wp2
              refine bodyPost_ret (v := .tuple #[.agg #[.string (tS (btj k 0)), .int .i64 (tB (btj k 0)), .bool (tU (btj k 0)), .int .i64 (tR (btj k 0))], .bool (bokj k 0)]) (by simp [results, Ybad.results9, go_sem, r0, r1, r2, r3]) rfl ⟨?_, .inl ⟨k, 0, hlt, by decide, ⟨F0.out, F1.out, F2.out, F3.out, F4.out⟩, HSG.out, rfl⟩⟩
              exact (((((below_w HBD.out HBW.out HBI.out).setCell (by rw [HBD.out]; exact Nat.le_succ _) _).setCell (by rw [HBD.out]; exact Nat.le_succ _) _).setCell (by rw [HBD.out]; exact Nat.le_succ _) _).setCell (by rw [HBD.out]; exact Nat.le_succ _) _).drew
            · have HN2 : Hid (¬ signs c0 c1 0) := fun h => g1 h.2
              have b0 : (c0 == 0) = true := by simp [g0]
              have b1 : (c1 == 0) = false := by simp [g1]
              clear g0 g1
              go_wp2
              go_round
              case rel => exact ⟨1, by omega, by go_num, sg_step HNS.out HN2.out⟩
              case measure => simp [intOf]
          · have HN2 : Hid (¬ signs c0 c1 0) := fun h => g0 h.1
            have b0 : (c0 == 0) = false := by simp [g0]
            clear g0
            go_wp2
            go_round
            case rel => exact ⟨1, by omega, by go_num, sg_step HNS.out HN2.out⟩
            case measure => simp [intOf]
        · by_cases g0 : c0 = 1
          · by_cases g1 : c1 = 0
            · have HSG : Hid (signs c0 c1 1) := ⟨g0, g1⟩
              have b0 : (c0 == 1) = true := by simp [g0]
              have b1 : (c1 == 0) = true := by simp [g1]
              obtain ⟨t0, t1, t2, t3, t4⟩ := htt.out 1 (by decide)
              have y0 : WI.cell? ⟨X, 9, none⟩ = some (.string (tS (btj k 1))) := by rw [cell_of_row _ _ _ _ _ _ HX.out]; exact t0
              have y1 : WI.cell? ⟨X, 9 + 1, none⟩ = some (.int .i64 (tB (btj k 1))) := by rw [cell_of_row _ _ _ _ _ _ HX.out]; exact t1
              have y2 : WI.cell? ⟨X, 9 + 2, none⟩ = some (.bool (tU (btj k 1))) := by rw [cell_of_row _ _ _ _ _ _ HX.out]; exact t2
              have y3 : WI.cell? ⟨X, 9 + 3, none⟩ = some (.int .i64 (tR (btj k 1))) := by rw [cell_of_row _ _ _ _ _ _ HX.out]; exact t3
              have y4 : WI.cell? ⟨X, 18, none⟩ = some (.bool (bokj k 1)) := by rw [cell_of_row _ _ _ _ _ _ HX.out]; exact t4
              clear g0 g1 t0 t1 t2 t3 t4
              go_wp2
              go_region
              go_wp2
              refine bodyPost_ret (v := .tuple #[.agg #[.string (tS (btj k 1)), .int .i64 (tB (btj k 1)), .bool (tU (btj k 1)), .int .i64 (tR (btj k 1))], .bool (bokj k 1)]) (by simp [results, Ybad.results9, go_sem, r0, r1, r2, r3]) rfl ⟨?_, .inl ⟨k, 1, hlt, by decide, ⟨F0.out, F1.out, F2.out, F3.out, F4.out⟩, HSG.out, rfl⟩⟩
              exact (((((below_w HBD.out HBW.out HBI.out).setCell (by rw [HBD.out]; exact Nat.le_succ _) _).setCell (by rw [HBD.out]; exact Nat.le_succ _) _).setCell (by rw [HBD.out]; exact Nat.le_succ _) _).setCell (by rw [HBD.out]; exact Nat.le_succ _) _).drew
            · have HN2 : Hid (¬ signs c0 c1 1) := fun h => g1 h.2
              have b0 : (c0 == 1) = true := by simp [g0]
              have b1 : (c1 == 0) = false := by simp [g1]
              clear g0 g1
              go_wp2
              go_round
              case rel => exact ⟨2, by omega, by go_num, sg_step HNS.out HN2.out⟩
              case measure => simp [intOf]
          · have HN2 : Hid (¬ signs c0 c1 1) := fun h => g0 h.1
            have b0 : (c0 == 1) = false := by simp [g0]
            clear g0
            go_wp2
            go_round
            case rel => exact ⟨2, by omega, by go_num, sg_step HNS.out HN2.out⟩
            case measure => simp [intOf]
        · by_cases g0 : c0 = 0
          · by_cases g1 : c1 = 1
            · have HSG : Hid (signs c0 c1 2) := ⟨g0, g1⟩
              have b0 : (c0 == 0) = true := by simp [g0]
              have b1 : (c1 == 1) = true := by simp [g1]
              obtain ⟨t0, t1, t2, t3, t4⟩ := htt.out 2 (by decide)
              have y0 : WI.cell? ⟨X, 13, none⟩ = some (.string (tS (btj k 2))) := by rw [cell_of_row _ _ _ _ _ _ HX.out]; exact t0
              have y1 : WI.cell? ⟨X, 13 + 1, none⟩ = some (.int .i64 (tB (btj k 2))) := by rw [cell_of_row _ _ _ _ _ _ HX.out]; exact t1
              have y2 : WI.cell? ⟨X, 13 + 2, none⟩ = some (.bool (tU (btj k 2))) := by rw [cell_of_row _ _ _ _ _ _ HX.out]; exact t2
              have y3 : WI.cell? ⟨X, 13 + 3, none⟩ = some (.int .i64 (tR (btj k 2))) := by rw [cell_of_row _ _ _ _ _ _ HX.out]; exact t3
              have y4 : WI.cell? ⟨X, 19, none⟩ = some (.bool (bokj k 2)) := by rw [cell_of_row _ _ _ _ _ _ HX.out]; exact t4
              clear g0 g1 t0 t1 t2 t3 t4
              go_wp2
              go_region
              go_wp2
              refine bodyPost_ret (v := .tuple #[.agg #[.string (tS (btj k 2)), .int .i64 (tB (btj k 2)), .bool (tU (btj k 2)), .int .i64 (tR (btj k 2))], .bool (bokj k 2)]) (by simp [results, Ybad.results9, go_sem, r0, r1, r2, r3]) rfl ⟨?_, .inl ⟨k, 2, hlt, by decide, ⟨F0.out, F1.out, F2.out, F3.out, F4.out⟩, HSG.out, rfl⟩⟩
              exact (((((below_w HBD.out HBW.out HBI.out).setCell (by rw [HBD.out]; exact Nat.le_succ _) _).setCell (by rw [HBD.out]; exact Nat.le_succ _) _).setCell (by rw [HBD.out]; exact Nat.le_succ _) _).setCell (by rw [HBD.out]; exact Nat.le_succ _) _).drew
            · have HN2 : Hid (¬ signs c0 c1 2) := fun h => g1 h.2
              have b0 : (c0 == 0) = true := by simp [g0]
              have b1 : (c1 == 1) = false := by simp [g1]
              clear g0 g1
              go_wp2
              go_round
              case rel => exact ⟨3, by omega, by go_num, sg_step HNS.out HN2.out⟩
              case measure => simp [intOf]
          · have HN2 : Hid (¬ signs c0 c1 2) := fun h => g0 h.1
            have b0 : (c0 == 0) = false := by simp [g0]
            clear g0
            go_wp2
            go_round
            case rel => exact ⟨3, by omega, by go_num, sg_step HNS.out HN2.out⟩
            case measure => simp [intOf]
        · have HN : Hid (∀ s, s < 3 → ¬ (fits c2 c3 c4 c5 c6 k ∧ signs c0 c1 s)) := fun s hs h => HNS.out s hs h.2
          go_wp2
          go_roundw
          case rel => exact ⟨k + 1, by omega, by go_num, no_step HNO.out HN.out, HBI.out⟩
          case measure => simp [intOf]; omega
    · obtain rfl : k = 10 := by omega
      have hRR : wr.heap[B + 1]? = some (.cells #[.string { data := #[] }, .int .i64 0, .bool false, .int .i64 0] 27) := (HNX.out.block (B + 1) (by have := HW1.out; rw [HSZ.out]; omega)).trans HR.out
      have r0 : wr.cell? ⟨B + 1, 0, none⟩ = some (.string { data := #[] }) := by rw [cell_of_row _ _ _ _ _ _ hRR]; rfl
      have r1 : wr.cell? ⟨B + 1, 1, none⟩ = some (.int .i64 0) := by rw [cell_of_row _ _ _ _ _ _ hRR]; rfl
      have r2 : wr.cell? ⟨B + 1, 2, none⟩ = some (.bool false) := by rw [cell_of_row _ _ _ _ _ _ hRR]; rfl
      have r3 : wr.cell? ⟨B + 1, 3, none⟩ = some (.int .i64 0) := by rw [cell_of_row _ _ _ _ _ _ hRR]; rfl
      have z0 : wr.frozen? ⟨B + 1, 0, none⟩ = false := frozen_of_row _ _ _ _ _ hRR
      have z1 : wr.frozen? ⟨B + 1, 1, none⟩ = false := frozen_of_row _ _ _ _ _ hRR
      have z2 : wr.frozen? ⟨B + 1, 2, none⟩ = false := frozen_of_row _ _ _ _ _ hRR
      have z3 : wr.frozen? ⟨B + 1, 3, none⟩ = false := frozen_of_row _ _ _ _ _ hRR
      clear hRR hk hlt
      go_wp2
      refine bodyPost_ret (v := .tuple #[.agg #[.string (tS 0), .int .i64 (tB 0), .bool (tU 0), .int .i64 (tR 0)], .bool false]) (by simp [results, Ybad.results9, go_sem, r0, r1, r2, r3]; exact ⟨rfl, rfl, rfl, rfl⟩) rfl ⟨?_, .inr ⟨HNO.out, rfl⟩⟩
      exact ((((below_w HBD.out HBW.out HNX.out).setCell (by rw [HBD.out]; exact Nat.le_succ _) _).setCell (by rw [HBD.out]; exact Nat.le_succ _) _).setCell (by rw [HBD.out]; exact Nat.le_succ _) _).setCell (by rw [HBD.out]; exact Nat.le_succ _) _
end Go.Proofs.YbulkbzioDoor
