/-
  Seat b3784aD: the walk of 'LawS3784AModel' (3).
-/
import Derived.Test.YbulkbzioDoorValid
import Derived.Test.YbulkbzioDoorExp
namespace Go.Proofs.YbulkbzioDoor
open Go Go.RowKit Go.Maps
set_option linter.unusedVariables false
set_option linter.unusedSimpArgs false

theorem heap4 (w : World) (a b c d : Obj) : ((((w.alloc a).alloc b).alloc c).alloc d).heap[w.heap.size]? = some a ∧ ((((w.alloc a).alloc b).alloc c).alloc d).heap[w.heap.size + 1 + 1]? = some c ∧
    ((((w.alloc a).alloc b).alloc c).alloc d).heap.size = w.heap.size + 1 + 1 + 1 + 1 ∧ Below w.heap.size w ((((w.alloc a).alloc b).alloc c).alloc d) := by
  refine ⟨?_, ?_, ?_, ?_⟩
  · exact below_new ((((Below.refl _ _).alloc (by simp) _).alloc (by simp) _).alloc (by simp) _)
  · have := below_new (w := (w.alloc a).alloc b) (Z := c) (w1 := ((((w.alloc a).alloc b).alloc c).alloc d)) ((Below.refl _ _).alloc (by simp) _)
    rw [World.size_alloc, World.size_alloc] at this; exact this
  · simp
  · exact ((((Below.refl _ _).alloc (Nat.le_refl _) _).alloc (by simp) _).alloc (by simp; omega) _).alloc (by simp; omega) _
/-- The map in block bm holds 'f j' at each of the first k words, and nothing else. -/
def Full (w : World) (bm k : Nat) (f : Nat → Int) : Prop :=
  ∃ D : DataW Unit, w.ownsMap Ybad.prog 9 (plainElem Ybad.prog 3) bm k D ∧ (∀ j, j < 7 → D.atKey (key j) (.lit (.int .i64 0)) = .lit (.int .i64 (if j < k then f j else 0))) ∧ (∀ j, j < 7 → k ≤ j → Maps.has D (key j) = false) ∧ Maps.size D = k
theorem full_made (w : World) (f : Nat → Int) : Full (w.alloc (.map #[] 0)) w.heap.size 0 f :=
  ⟨.map [], World.ownsMap_made _ _ _ _, fun j _ => by simp; rfl, fun _ _ _ => rfl, rfl⟩
theorem Full.drew {w : World} {bm k : Nat} {f : Nat → Int} (h : Full w bm k f) : Full w.drew bm k f := h
theorem Full.lt {w : World} {bm k : Nat} {f : Nat → Int} (h : Full w bm k f) : bm < w.heap.size := by
  obtain ⟨D, ho, _⟩ := h
  exact ho.lt
theorem Full.put {w : World} {bm k : Nat} {f : Nat → Int} (h : Full w bm k f) (hk : k < 7) (hc : (Lit.int .i64 (f k)).wf = true) :
    ∃ w', (Instr.mapUpdate 25 (.map (some bm)) (.string (nm k)) (.int .i64 (f k))).run Ybad.prog w = .ok () w' ∧ Full w' bm (k + 1) f ∧ w.grownBy w' (some bm) := by
  obtain ⟨D, ho, hv, hh, hs⟩ := h
  obtain ⟨w', hrun, ho', hg⟩ := ho.update law Ybad.underlying25 (by unfold maxLen; omega) (key_of k) (plainElem_int Ybad.underlying3 hc)
  refine ⟨w', hrun, ⟨_, ho', fun j hj => ?_, fun j hj hkj => ?_, ?_⟩, hg⟩
  · by_cases e : j = k
    · subst e
      rw [if_pos (by omega)]
      exact atKey_put_same ho.isMap (show WideAt.IsKeyLit (key j) from trivial) _ _
    · rw [atKey_put_other (key_ne hj hk e), hv j hj]
      by_cases l : j < k
      · rw [if_pos l, if_pos (by omega)]
      · rw [if_neg l, if_neg (by omega)]
  · rw [has_put_other (key_ne hj hk (by omega))]
    exact hh j hj (by omega)
  · rw [size_put (ho.tidy law), hh k hk (Nat.le_refl _), hs]
    rfl
theorem Full.holds {w : World} {bm k : Nat} {f : Nat → Int} (h : Full w bm k f) : HoldsAt w bm k (fun j => if j < k then f j else 0) := by
  obtain ⟨D, ho, hv, _⟩ := h
  exact ⟨D, ho, hv⟩
theorem Full.kept {w w' : World} {bm k : Nat} {f : Nat → Int} (h : Full w bm k f) (hx : w'.heap[bm]? = w.heap[bm]?) : Full w' bm k f := by
  obtain ⟨D, ⟨es, cl, hb, r⟩, hv⟩ := h
  exact ⟨D, ⟨es, cl, hx.trans hb, r⟩, hv⟩
/-- 'len' of the full map. -/
theorem wpList_len_full {ops : Array Oper} {rest : List Oper} {o : Oper} {a : Act} {w : World} {Q : Exit → Act → World → Prop} (hg : o.guard = none) (m : Operand) (hop : o.op = Op.call { callee := Callee.builtin Builtin.len, args := #[m], argTypes := #[25] })
    (bm k : Nat) (f : Nat → Int) (hm : a.eval m = .map (some bm)) (hfull : Full w bm k f) (hK : wpList Ybad.prog ops Q rest (a.put o.dst (.int .i64 k)) w) : wpList Ybad.prog ops Q (o :: rest) a w := by
  obtain ⟨D, ho, _, _, hs⟩ := hfull
  refine wpList_len_own w hg m 25 hop 9 3 Ybad.underlying25 _ bm k D hm ho ?_
  rw [hs]; exact hK
/-- The seven counts, by number. -/
def cs7 (c0 c1 c2 c3 c4 c5 c6 : Int) (j : Nat) : Int := ([c0, c1, c2, c3, c4, c5, c6] : List Int).getD j 0

set_option maxRecDepth 100000 in
set_option maxHeartbeats 4000000 in
theorem model_walk (s u c sh i l b : Int) (w : World) (hs0 : 0 ≤ s) (hs1 : s ≤ 255) (hu0 : 0 ≤ u) (hu1 : u ≤ 255) (hc0 : 0 ≤ c) (hc1 : c ≤ 255) (hh0 : 0 ≤ sh) (hh1 : sh ≤ 255) (hi0 : 0 ≤ i) (hi1 : i ≤ 255) (hl0 : 0 ≤ l) (hl1 : l ≤ 255) (hb0 : 0 ≤ b) (hb1 : b ≤ 255)
    (c0 c1 c2 c3 c4 c5 c6 : Int) (p0 : s % 4 = c0) (p1 : u % 4 = c1) (p2 : c % 4 = c2) (p3 : sh % 4 = c3) (p4 : i % 4 = c4) (p5 : l % 4 = c5) (p6 : b % 4 = c6)
    (NM : Array Value) (f : Nat → ByteArray) (hf : Hid (f = nm)) (hgl : Hid (Glob w))
    (hN : Hid (∀ w, Calls Ybad.prog 7 #[] w fun e w' => e = .returned (.agg NM) ∧ w' = w.alloc (.cells NM 23)))
    (sN : Hid ((Ybad.prog.info? 23).map (·.size) = some NM.size)) (s7 : Hid (7 = NM.size)) (hNM : Hid (∀ j, j < 7 → NM[j]? = some (.string (f j)))) (oN : Hid (NM.all (·.oneCell') = true))
    (S : ByteArray) (B R : Int) (U ok : Bool)
    (H8 : Hid (∀ (W : World) (bm : Nat), Env W bm c0 c1 c2 c3 c4 c5 c6 → Calls Ybad.prog 8 #[.map (some bm)] W fun e w' => e = .returned (.tuple #[.agg #[.string S, .int .i64 B, .bool U, .int .i64 R], .bool ok]) ∧ Below W.heap.size W w'))
    (H9 : Hid (∀ (W : World), Calls Ybad.prog 9 #[.agg #[.int .i64 c0, .int .i64 c1, .int .i64 c2, .int .i64 c3, .int .i64 c4, .int .i64 c5, .int .i64 c6]] W fun e w' => e = .returned (.tuple #[.agg #[.string S, .int .i64 B, .bool U, .int .i64 R], .bool ok]) ∧ Below W.heap.size W w')) :
    Calls Ybad.prog 3 #[.int .u8 s, .int .u8 u, .int .u8 c, .int .u8 sh, .int .u8 i, .int .u8 l, .int .u8 b] w fun e w' => e = .returned (.bool true) ∧ Below w.heap.size w w' := by
  have hmm := @run_makeMap Ybad.prog
  go_enter Ybad.func3, Ybad.ntmps3
  go_wp2_with (first | (go_at_call 7; refine (hN.out _).mono ?_; rintro e w2 ⟨rfl, rfl⟩)  | ((with_reducible refine at_store 23 ?_); refine wpList_store_last rfl 23 (.tmp 16) (.tmp 46) rfl ((w.alloc (.cells #[.int .i64 c0, .int .i64 c1, .int .i64 c2, .int .i64 c3, .int .i64 c4, .int .i64 c5, .int .i64 c6] 22)).alloc (.cells NM 23)) (w.heap.size + 1 + 1) (by simp) _ NM 23 rfl rfl sN.out (by exact s7.out) oN.out rfl ?_))
  obtain ⟨hx0, hx2, hsz, hbel⟩ := heap4 w (.cells #[.int .i64 c0, .int .i64 c1, .int .i64 c2, .int .i64 c3, .int .i64 c4, .int .i64 c5, .int .i64 c6] 22) (.cells NM 23) (.cells NM 23) (.map #[] 0)
  have hmap : Full ((((w.alloc (.cells #[.int .i64 c0, .int .i64 c1, .int .i64 c2, .int .i64 c3, .int .i64 c4, .int .i64 c5, .int .i64 c6] 22)).alloc (.cells NM 23)).alloc (.cells NM 23)).alloc (.map #[] 0)) (w.heap.size + 1 + 1 + 1) 0 (cs7 c0 c1 c2 c3 c4 c5 c6) := by
    have h := full_made (((w.alloc (.cells #[.int .i64 c0, .int .i64 c1, .int .i64 c2, .int .i64 c3, .int .i64 c4, .int .i64 c5, .int .i64 c6] 22)).alloc (.cells NM 23)).alloc (.cells NM 23)) (cs7 c0 c1 c2 c3 c4 c5 c6)
    rw [World.size_alloc, World.size_alloc, World.size_alloc] at h
    exact h
  generalize ((((w.alloc (.cells #[.int .i64 c0, .int .i64 c1, .int .i64 c2, .int .i64 c3, .int .i64 c4, .int .i64 c5, .int .i64 c6] 22)).alloc (.cells NM 23)).alloc (.cells NM 23)).alloc (.map #[] 0)) = W0 at hx0 hx2 hsz hbel hmap ⊢
  have hnm : Hid (∀ j, j < 7 → W0.cell? ⟨w.heap.size + 1 + 1, j, none⟩ = some (.string (f j))) := fun j hj => by rw [cell_of_row W0 _ j NM 23 (0, 0) hx2]; exact hNM.out j hj
  have hct : Hid (∀ j, j < 7 → W0.cell? ⟨w.heap.size, j, none⟩ = some (.int .i64 (cs7 c0 c1 c2 c3 c4 c5 c6 j))) := fun j hj => by
    rw [cell_of_row W0 _ j _ 22 (0, 0) hx0]
    match j, hj with
    | 0, _ | 1, _ | 2, _ | 3, _ | 4, _ | 5, _ | 6, _ => rfl
  have hcs : Hid (∀ j, j < 7 → 0 ≤ cs7 c0 c1 c2 c3 c4 c5 c6 j ∧ cs7 c0 c1 c2 c3 c4 c5 c6 j ≤ 3) := fun j hj => by
    match j, hj with
    | 0, _ => show 0 ≤ c0 ∧ c0 ≤ 3; omega
    | 1, _ => show 0 ≤ c1 ∧ c1 ≤ 3; omega
    | 2, _ => show 0 ≤ c2 ∧ c2 ≤ 3; omega
    | 3, _ => show 0 ≤ c3 ∧ c3 ≤ 3; omega
    | 4, _ => show 0 ≤ c4 ∧ c4 ≤ 3; omega
    | 5, _ => show 0 ≤ c5 ∧ c5 ≤ 3; omega
    | 6, _ => show 0 ≤ c6 ∧ c6 ≤ 3; omega
  have HB1 := hide hbel
  have HSZ := hide hsz
  have HM := hide hmap
  clear hx0 hx2 hNM hbel hsz hmap hmm p0 p1 p2 p3 p4 p5 p6 hN sN s7 oN
  obtain ⟨V, hV⟩ : ∃ V, w.heap.size = V := ⟨_, rfl⟩
  rw [hV] at hnm hct HB1 HSZ HM ⊢
  have HVD := hide hV
  clear hV
  go_loopw [18] (fun i wr => ∃ k : Nat, k ≤ 7 ∧ i = .int .i64 k ∧ Full wr (V + 1 + 1 + 1) k (cs7 c0 c1 c2 c3 c4 c5 c6) ∧ Below (V + 1 + 1 + 1) W0 wr) (fun i _ => 7 - (intOf i).toNat)
  case atStart => exact ⟨0, by omega, rfl, HM.out, Below.refl _ _⟩
  case round =>
    obtain ⟨k, hk, rfl, hold, hnx⟩ := hrel
    have HN := hide hnx
    have HH := hide hold
    clear hnx hold
    by_cases hlt : k < 7
    · have hidx : (k : Int) < 7 := by omega
      have cN : wr.cell? ⟨V + 1 + 1, k, none⟩ = some (.string (f k)) := (HN.out.cell (by show V + 1 + 1 < V + 1 + 1 + 1; omega)).trans (hnm.out k hlt)
      have cC : wr.cell? ⟨V, k, none⟩ = some (.int .i64 (cs7 c0 c1 c2 c3 c4 c5 c6 k)) := (HN.out.cell (by show V < V + 1 + 1 + 1; omega)).trans (hct.out k hlt)
      have hbd := hcs.out k hlt
      obtain ⟨w', hrun, hold', hg⟩ := HH.out.drew.put hlt (wf_small hbd.1 hbd.2)
      have hrun' : (Instr.mapUpdate 25 (.map (some (V + 1 + 1 + 1))) (.string (f k)) (.int .i64 (cs7 c0 c1 c2 c3 c4 c5 c6 k))).run Ybad.prog wr.drew = .ok () w' := by rw [hf.out]; exact hrun
      have HN' := hide hold'
      have HL' : Hid (Below (V + 1 + 1 + 1) W0 w') := HN.out.drew.grown hg (by have := HN.out.size; have := HSZ.out; simp; omega) (fun k hk => by cases hk; exact Nat.le_refl _)
      clear hrun hold' hg
      go_wp2
      go_region
      go_wp2
      go_roundw
      case rel => exact ⟨k + 1, by omega, by go_num, HN'.out, HL'.out⟩
      case measure => simp [intOf]; omega
    · obtain rfl : k = 7 := by omega
      clear hk hlt
      have HBW : Hid (Below w.heap.size w wr) := (HB1.out.mono (by rw [HVD.out]; exact Nat.le_refl _)).trans (HN.out.mono (by rw [HVD.out]; omega))
      have HE : Hid (Env wr (V + 1 + 1 + 1) c0 c1 c2 c3 c4 c5 c6) := env_of HH.out.holds (hgl.out.below HBW.out)
      have hws : V + 1 + 1 + 1 < wr.heap.size := by have h1 := HN.out.size; have h2 := HSZ.out; omega
      go_wp2_with fail
      refine (H8.out _ _ HE.out).mono ?_
      rintro e w3 ⟨rfl, hb3⟩
      have hs3 := hb3.size
      have HCC : Hid (∀ o j, j < 7 → (w3.alloc o).cell? ⟨V, j, none⟩ = some (.int .i64 (cs7 c0 c1 c2 c3 c4 c5 c6 j))) := fun o j hj => ((hb3.alloc hb3.size o).cell (by show V < wr.heap.size; omega)).trans ((HN.out.cell (by show V < V + 1 + 1 + 1; omega)).trans (hct.out j hj))
      have y0 : ∀ o, (w3.alloc o).cell? ⟨V, 0, none⟩ = some (.int .i64 c0) := fun o => HCC.out o 0 (by decide)
      have y1 : ∀ o, (w3.alloc o).cell? ⟨V, 1, none⟩ = some (.int .i64 c1) := fun o => HCC.out o 1 (by decide)
      have y2 : ∀ o, (w3.alloc o).cell? ⟨V, 2, none⟩ = some (.int .i64 c2) := fun o => HCC.out o 2 (by decide)
      have y3 : ∀ o, (w3.alloc o).cell? ⟨V, 3, none⟩ = some (.int .i64 c3) := fun o => HCC.out o 3 (by decide)
      have y4 : ∀ o, (w3.alloc o).cell? ⟨V, 4, none⟩ = some (.int .i64 c4) := fun o => HCC.out o 4 (by decide)
      have y5 : ∀ o, (w3.alloc o).cell? ⟨V, 5, none⟩ = some (.int .i64 c5) := fun o => HCC.out o 5 (by decide)
      have y6 : ∀ o, (w3.alloc o).cell? ⟨V, 6, none⟩ = some (.int .i64 c6) := fun o => HCC.out o 6 (by decide)
      have HB3 := hide hb3
      clear hb3
      go_wp2_with fail
      refine (H9.out _).mono ?_
      rintro e w4 ⟨rfl, hb4⟩
      have hs4 := hb4.size
      rw [World.size_alloc] at hs4
      have HBK : Hid (∀ o p, p < wr.heap.size → (w4.alloc o).heap[p]? = wr.heap[p]?) := fun o p hp => by
        have h1 := (hb4.alloc hb4.size o).block p (by rw [World.size_alloc]; omega)
        rw [h1, Below.heap_alloc _ _ _ (by omega), HB3.out.block p hp]
      have HF : Hid (∀ o, Full (w4.alloc o) (V + 1 + 1 + 1) 7 (cs7 c0 c1 c2 c3 c4 c5 c6)) := fun o => HH.out.kept (HBK.out o _ hws)
      have HG : Hid (∀ o, (w4.alloc o).heap[w3.heap.size]? = some (.cells #[.string S, .int .i64 B, .bool U, .int .i64 R] 27)) := fun o => ((hb4.alloc hb4.size o).block w3.heap.size (by rw [World.size_alloc]; omega)).trans (Go.heap_alloc_new w3 _)
      have g0 : ∀ o, (w4.alloc o).cell? ⟨w3.heap.size, 0, none⟩ = some (.string S) := fun o => by rw [cell_of_row _ _ _ _ _ _ (HG.out o)]; rfl
      have g1 : ∀ o, (w4.alloc o).cell? ⟨w3.heap.size, 1, none⟩ = some (.int .i64 B) := fun o => by rw [cell_of_row _ _ _ _ _ _ (HG.out o)]; rfl
      have g2 : ∀ o, (w4.alloc o).cell? ⟨w3.heap.size, 2, none⟩ = some (.bool U) := fun o => by rw [cell_of_row _ _ _ _ _ _ (HG.out o)]; rfl
      have g3 : ∀ o, (w4.alloc o).cell? ⟨w3.heap.size, 3, none⟩ = some (.int .i64 R) := fun o => by rw [cell_of_row _ _ _ _ _ _ (HG.out o)]; rfl
      have HBE : Hid (∀ o, Below w.heap.size w (w4.alloc o)) := fun o => by
        have h1 : Below w.heap.size w w3 := HBW.out.trans (HB3.out.mono HBW.out.size)
        have h2 := (h1.alloc h1.size (.cells #[.string S, .int .i64 B, .bool U, .int .i64 R] 27))
        have h3 := h2.trans (hb4.mono h2.size)
        exact h3.alloc h3.size o
      clear hb4 y0 y1 y2 y3 y4 y5 y6
      go_wp2_with (first | (at_len; refine wpList_len_full rfl (.tmp 77) rfl (V + 1 + 1 + 1) 7 _ rfl (HF.out _) ?_))
      have HBE' := hide (HBE.out (.cells #[.string S, .int .i64 B, .bool U, .int .i64 R] 27))
      have HF' := hide (HF.out (.cells #[.string S, .int .i64 B, .bool U, .int .i64 R] 27))
      have HBK' := hide (HBK.out (.cells #[.string S, .int .i64 B, .bool U, .int .i64 R] 27))
      clear g0 g1 g2 g3 HBE HF HBK HG
      generalize (w4.alloc (.cells #[.string S, .int .i64 B, .bool U, .int .i64 R] 27)) = W5 at HBE' HF' HBK' ⊢
      have cN5 : Hid (∀ j, j < 7 → W5.cell? ⟨V + 1 + 1, j, none⟩ = some (.string (f j))) := fun j hj => (World.cell?_of_block (HBK'.out (V + 1 + 1) (by omega))).trans ((HN.out.cell (by show V + 1 + 1 < V + 1 + 1 + 1; omega)).trans (hnm.out j hj))
      have cC5 : Hid (∀ j, j < 7 → W5.cell? ⟨V, j, none⟩ = some (.int .i64 (cs7 c0 c1 c2 c3 c4 c5 c6 j))) := fun j hj => (World.cell?_of_block (HBK'.out V (by omega))).trans ((HN.out.cell (by show V < V + 1 + 1 + 1; omega)).trans (hct.out j hj))
      go_loopw [23] (fun i wr => ∃ k n : Nat, k ≤ 7 ∧ i = .int .i64 k ∧ wr = W5.drewN n) (fun i _ => 7 - (intOf i).toNat)
      case atStart => exact ⟨0, 0, by omega, rfl, rfl⟩
      case round =>
        obtain ⟨k, nd, hk, rfl, rfl⟩ := hrel
        by_cases hlt : k < 7
        · have hidx : (k : Int) < 7 := by omega
          have cN : W5.cell? ⟨V + 1 + 1, k, none⟩ = some (.string (f k)) := cN5.out k hlt
          have cC : W5.cell? ⟨V, k, none⟩ = some (.int .i64 (cs7 c0 c1 c2 c3 c4 c5 c6 k)) := cC5.out k hlt
          have hlk : ∀ n, (Instr.lookup 25 (.map (some (V + 1 + 1 + 1))) (.string (f k)) false).run Ybad.prog (W5.drewN n) = .ok (.int .i64 (cs7 c0 c1 c2 c3 c4 c5 c6 k)) (W5.drewN n) := fun n => by
            have h := HF'.out.holds.look (j := k) hlt (W5.drewN n) rfl
            simp only [hlt, if_true] at h
            rw [hf.out]; exact h
          go_wp2
          go_quiet (fail)
          go_wp2
          go_roundw
          case rel => exact ⟨k + 1, nd + nq, by omega, by go_num, rfl⟩
          case measure => simp [intOf]; omega
        · obtain rfl : k = 7 := by omega
          clear hk hlt
          go_wp2
          go_ret
          exact ⟨rfl, below_drewN HBE'.out _⟩
end Go.Proofs.YbulkbzioDoor
