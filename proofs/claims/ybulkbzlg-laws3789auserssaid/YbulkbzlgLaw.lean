/-
  Seat b3789a: the walk of 'LawS3789AUsers' (3).
-/
import Derived.Test.YbulkbzlgPlain
import Derived.Maps.AppendAt
import Derived.Deep.CutBlock
import Derived.Deep.DeepCutAuto
import Derived.Lib.SliceRun
namespace Go.Proofs.Ybulkbzlg
open Go Go.RowKit
set_option linter.unusedVariables false
set_option linter.unusedSimpArgs false

theorem info29 : (Yba.prog.info? 29).map (fun i => (i.zero, i.size, i.bytes)) = some (some (.agg #[.int .i32 0, .int .i32 0]), 2, 8) := by kernel_rfl
theorem info30 : (Yba.prog.info? 30).map (fun i => (i.zero, i.size, i.bytes)) = some (some (.slice none 0 0), 1, 24) := by kernel_rfl

/-- What came in, as the walk is told. -/
structure Came (w : World) (n cb co : Nat) (ca : Option Addr) (hd bd : Int → Int) (m sb so : Nat) (sa : Option Addr) (A : Nat → Option Addr) (Ls C : Nat → Nat) : Prop where
  ca : 0 < n → ca = some ⟨cb, co, none⟩
  cr : ∀ x : Nat, x < n → w.cell? ⟨cb, co + x * 2, none⟩ = some (.int .i32 (hd x)) ∧ w.cell? ⟨cb, co + x * 2 + 1, none⟩ = some (.int .i32 (bd x))
  sa : 0 < m → sa = some ⟨sb, so, none⟩
  st : ∀ i, i < m → w.cell? ⟨sb, so + i, none⟩ = some (.slice (A i) (Ls i) (C i))
  zs : ∀ i, i < m → 0 < Ls i → ∃ b o, A i = some ⟨b, o, none⟩ ∧ ∀ j, j < Ls i → ∃ z : Int, w.cell? ⟨b, o + j, none⟩ = some (.int .u8 z) ∧ 0 ≤ z ∧ z ≤ 255

/-- Where the building loop stands before list k: 'first' (block FB), 'lists' (block GB), 'long' (the value vlong, nl slices LV). -/
def Rel (W5 wr : World) (n m FB GB k : Nat) (vlong : Value) (nl : Nat) (LV : List Value) : Prop :=
  Turn W5 wr (fun i => i = FB ∨ i = GB) ∧ wr.ownsRow W5.heap.size 30 1 vlong nl LV ∧ nl ≤ k ∧
  ∃ (fc gc : Array Value) (L : Nat → List Int) (Vv : Nat → Value), wr.heap[FB]? = some (.cells fc 21 (0, 0)) ∧ fc.size = m ∧ wr.heap[GB]? = some (.cells gc 30 (0, 0)) ∧ gc.size = m ∧
    ∀ i, i < k → gc[i]? = some (Vv i) ∧ wr.ownsRow W5.heap.size 21 1 (Vv i) (L i).length ((L i).map (Value.int .i32)) ∧ Good n (L i) ∧ (L i).length ≤ 1024 ∧
      ∃ z : Int, fc[i]? = some (.int .i32 z) ∧ ((z = -1 ∧ L i = []) ∨ (0 ≤ z ∧ L i = [z]) ∨ ∃ j : Nat, z = -2 - (j : Int) ∧ j < nl ∧ LV[j]? = some (Vv i))
theorem owns_turn' {w w' : World} {A : Nat → Prop} {base e size : Nat} {v : Value} {n : Nat} {xs : List Value} (h : w.ownsRow base e size v n xs) (ht : Turn w w' A) (hn : ∀ g, v.ownBlock = some g → ¬ A g) : w'.ownsRow base e size v n xs := by
  obtain ⟨h1, h2 | ⟨g, cap, cur, rfl, hb, hh, r⟩⟩ := h
  · exact ⟨h1, .inl h2⟩
  · exact ⟨h1, .inr ⟨g, cap, cur, rfl, hb, ht.heap hh (hn g rfl), r⟩⟩
theorem owns_base {w : World} {base base' e size : Nat} {v : Value} {n : Nat} {xs : List Value} (h : w.ownsRow base e size v n xs) (hb : base' ≤ base) : w.ownsRow base' e size v n xs := by
  obtain ⟨h1, h2 | ⟨g, cap, cur, rfl, hg, r⟩⟩ := h
  · exact ⟨h1, .inl h2⟩
  · exact ⟨h1, .inr ⟨g, cap, cur, rfl, by omega, r⟩⟩
/-- Rows of two element types are two rows. -/
theorem owns_types {w : World} {base base' size size' n n' : Nat} {v v' : Value} {xs xs' : List Value} {g : Nat} (h : w.ownsRow base 21 size v n xs) (h' : w.ownsRow base' 30 size' v' n' xs') (hg : v.ownBlock = some g) : v'.ownBlock ≠ some g := by
  obtain ⟨_, ⟨rfl, _⟩ | ⟨g1, cap, cur, rfl, _, hh, _⟩⟩ := h
  · cases hg
  obtain ⟨_, ⟨rfl, _⟩ | ⟨g2, cap2, cur2, rfl, _, hh2, _⟩⟩ := h'
  · intro e; cases e
  intro e
  have e1 : g1 = g := by simpa [Value.ownBlock] using hg
  have e2 : g2 = g := by simpa [Value.ownBlock] using e
  subst e1 e2
  rw [hh] at hh2
  simp at hh2
/-- New blocks alone. -/
theorem Rel.inner {W5 wr wj : World} {n m FB GB k : Nat} {vlong : Value} {nl : Nat} {LV : List Value} (h : Rel W5 wr n m FB GB k vlong nl LV) (hb : Below wr.heap.size wr wj) : Rel W5 wj n m FB GB k vlong nl LV := by
  obtain ⟨ht, ho, hnl, fc, gc, L, Vv, h1, h2, h3, h4, h5⟩ := h
  have htj : Turn wr wj (fun i => wr.heap.size ≤ i) := turn_below hb
  have hlt : ∀ {b : Nat} {o : Obj}, wr.heap[b]? = some o → ¬ wr.heap.size ≤ b := fun hh => by have := (Array.getElem?_eq_some_iff.1 hh).1; omega
  refine ⟨(ht.trans htj).mono (fun i hi hA => by rcases hA with hA | hA <;> first | exact hA | (have := ht.size; omega)), owns_turn' ho htj (fun g hg => by have := (owns_lt ho hg).2; omega), hnl, fc, gc, L, Vv, htj.heap h1 (hlt h1), h2, htj.heap h3 (hlt h3), h4, fun i hi => ?_⟩
  obtain ⟨e1, e2, e3⟩ := h5 i hi
  exact ⟨e1, owns_turn' e2 htj (fun g hg => by have := (owns_lt e2 hg).2; omega), e3⟩
/-- The list's slice goes into 'lists', a number into 'first'. -/
theorem rel_stored {W5 wc : World} {n m FB GB k : Nat} {vlong : Value} {nl : Nat} {LV : List Value} (h : Rel W5 wc n m FB GB k vlong nl LV) (hk : k < m) (hFG : FB < GB) (hGW : GB < W5.heap.size) {vl : Value} {ll : List Int} (z : Int)
    (ho : wc.ownsRow W5.heap.size 21 1 vl ll.length (ll.map (Value.int .i32))) (hg : Good n ll) (hl : ll.length ≤ 1024) :
    Turn W5 ((wc.setCell ⟨GB, k, none⟩ vl).setCell ⟨FB, k, none⟩ (.int .i32 z)) (fun i => i = FB ∨ i = GB) ∧ ((wc.setCell ⟨GB, k, none⟩ vl).setCell ⟨FB, k, none⟩ (.int .i32 z)).ownsRow W5.heap.size 30 1 vlong nl LV ∧ nl ≤ k ∧
    ∃ (fc gc : Array Value) (L : Nat → List Int) (Vv : Nat → Value), ((wc.setCell ⟨GB, k, none⟩ vl).setCell ⟨FB, k, none⟩ (.int .i32 z)).heap[FB]? = some (.cells fc 21 (0, 0)) ∧ fc.size = m ∧ ((wc.setCell ⟨GB, k, none⟩ vl).setCell ⟨FB, k, none⟩ (.int .i32 z)).heap[GB]? = some (.cells gc 30 (0, 0)) ∧ gc.size = m ∧
      L k = ll ∧ Vv k = vl ∧ fc[k]? = some (.int .i32 z) ∧
      ∀ i, i < k + 1 → gc[i]? = some (Vv i) ∧ ((wc.setCell ⟨GB, k, none⟩ vl).setCell ⟨FB, k, none⟩ (.int .i32 z)).ownsRow W5.heap.size 21 1 (Vv i) (L i).length ((L i).map (Value.int .i32)) ∧ Good n (L i) ∧ (L i).length ≤ 1024 ∧
        (i < k → ∃ z : Int, fc[i]? = some (.int .i32 z) ∧ ((z = -1 ∧ L i = []) ∨ (0 ≤ z ∧ L i = [z]) ∨ ∃ j : Nat, z = -2 - (j : Int) ∧ j < nl ∧ LV[j]? = some (Vv i))) := by
  obtain ⟨ht, hlo, hnl, fc, gc, L, Vv, h1, h2, h3, h4, h5⟩ := h
  have hF5 : FB < W5.heap.size := by omega
  refine ⟨((ht.trans (turn_setCell wc _ _)).trans (turn_setCell _ _ _)).mono (fun i _ hA => by rcases hA with (hA | hA) | hA <;> first | exact hA | exact .inr hA | exact .inl hA), ownsRow_setCell_below (ownsRow_setCell_below hlo (by exact hGW) _) (by exact hF5) _, hnl,
    fc.setIfInBounds k (.int .i32 z), gc.setIfInBounds k vl, fun i => if i = k then ll else L i, fun i => if i = k then vl else Vv i, ?_, by simp [h2], ?_, by simp [h4], by simp, by simp, by simp [h2, hk], fun i hi => ?_⟩
  · exact heap_setCell_same _ FB k fc 21 _ ((Below.heap_setCell wc ⟨GB, k, none⟩ vl FB (by show FB ≠ GB; omega)).trans h1)
  · exact (Below.heap_setCell _ ⟨FB, k, none⟩ _ GB (by show GB ≠ FB; omega)).trans (heap_setCell_same wc GB k gc 30 vl h3)
  · by_cases e : i = k
    · subst e
      simp only [if_true]
      refine ⟨by simp [h4, hk], ownsRow_setCell_below (ownsRow_setCell_below ho (by exact hGW) _) (by exact hF5) _, hg, hl, fun h => absurd h (Nat.lt_irrefl _)⟩
    · obtain ⟨e1, e2, e3, e4, e5⟩ := h5 i (by omega)
      simp only [e, if_false]
      refine ⟨?_, ownsRow_setCell_below (ownsRow_setCell_below e2 (by exact hGW) _) (by exact hF5) _, e3, e4, fun _ => ?_⟩
      · rw [Array.getElem?_setIfInBounds, if_neg (fun h => e h.symm)]; exact e1
      · rw [Array.getElem?_setIfInBounds, if_neg (fun h => e h.symm)]; exact e5
theorem Rel.put {W5 wc : World} {n m FB GB k : Nat} {vlong : Value} {nl : Nat} {LV : List Value} (h : Rel W5 wc n m FB GB k vlong nl LV) (hk : k < m) (hFG : FB < GB) (hGW : GB < W5.heap.size) {vl : Value} {ll : List Int} {z : Int}
    (ho : wc.ownsRow W5.heap.size 21 1 vl ll.length (ll.map (Value.int .i32))) (hg : Good n ll) (hl : ll.length ≤ 1024) (hz : (z = -1 ∧ ll = []) ∨ (0 ≤ z ∧ ll = [z])) :
    Rel W5 ((wc.setCell ⟨GB, k, none⟩ vl).setCell ⟨FB, k, none⟩ (.int .i32 z)) n m FB GB (k + 1) vlong nl LV := by
  obtain ⟨ht, hlo, hnl, fc, gc, L, Vv, h1, h2, h3, h4, hL, hV, hf, h5⟩ := rel_stored h hk hFG hGW z ho hg hl
  refine ⟨ht, hlo, by omega, fc, gc, L, Vv, h1, h2, h3, h4, fun i hi => ?_⟩
  obtain ⟨e1, e2, e3, e4, e5⟩ := h5 i hi
  refine ⟨e1, e2, e3, e4, ?_⟩
  by_cases e : i = k
  · subst e
    refine ⟨z, hf, ?_⟩
    rw [hL]
    rcases hz with hz | hz
    · exact .inl hz
    · exact .inr (.inl hz)
  · exact e5 (by omega)
theorem Rel.long {W5 wc w8 : World} {n m FB GB k : Nat} {vlong vlong' : Value} {nl : Nat} {LV : List Value} (h : Rel W5 wc n m FB GB k vlong nl LV) (hk : k < m) (hFG : FB < GB) (hGW : GB < W5.heap.size) {vl : Value} {ll : List Int} {o : Obj}
    (ho : wc.ownsRow W5.heap.size 21 1 vl ll.length (ll.map (Value.int .i32))) (hg : Good n ll) (hl : ll.length ≤ 1024)
    (hgrow : (((wc.setCell ⟨GB, k, none⟩ vl).setCell ⟨FB, k, none⟩ (.int .i32 (-2 - (nl : Int)))).alloc o).grownBy w8 vlong.ownBlock) (ho8 : w8.ownsRow W5.heap.size 30 1 vlong' (nl + 1) (LV ++ [vl])) : Rel W5 w8 n m FB GB (k + 1) vlong' (nl + 1) (LV ++ [vl]) := by
  obtain ⟨ht, hlo, hnl, fc, gc, L, Vv, h1, h2, h3, h4, hL, hV, hf, h5⟩ := rel_stored h hk hFG hGW (-2 - (nl : Int)) ho hg hl
  have hLV : LV.length = nl := by have := hlo.1; omega
  have t8 : Turn ((wc.setCell ⟨GB, k, none⟩ vl).setCell ⟨FB, k, none⟩ (.int .i32 (-2 - (nl : Int)))) w8 (fun i => vlong.ownBlock = some i) := ((turn_alloc _ o (fun _ => False)).trans (turn_grown hgrow)).mono (fun i _ h => h.elim False.elim (fun x => x))
  have hge : ∀ g, vlong.ownBlock = some g → W5.heap.size ≤ g := fun g hg => (owns_lt hlo hg).1
  refine ⟨(ht.trans t8).mono (fun i hi hA => by rcases hA with hA | hA <;> first | exact hA | (have := hge i hA; omega)), ho8, by omega, fc, gc, L, Vv, t8.heap h1 (fun hA => by have := hge FB hA; omega), h2, t8.heap h3 (fun hA => by have := hge GB hA; omega), h4, fun i hi => ?_⟩
  obtain ⟨e1, e2, e3, e4, e5⟩ := h5 i hi
  refine ⟨e1, owns_turn' e2 t8 (fun g hg hA => owns_types e2 hlo hg hA), e3, e4, ?_⟩
  by_cases e : i = k
  · subst e
    exact ⟨_, hf, .inr (.inr ⟨nl, rfl, by omega, by rw [hV, List.getElem?_append_right (by omega), hLV, Nat.sub_self]; rfl⟩)⟩
  · obtain ⟨z, hz1, hz2⟩ := e5 (by omega)
    refine ⟨z, hz1, ?_⟩
    rcases hz2 with hz2 | hz2 | ⟨j, hj1, hj2, hj3⟩
    · exact .inl hz2
    · exact .inr (.inl hz2)
    · exact .inr (.inr ⟨j, hj1, by omega, by rw [List.getElem?_append_left (by omega)]; exact hj3⟩)
theorem below_new {w w1 : World} {Z : Obj} (h : Below (w.heap.size + 1) (w.alloc Z) w1) : w1.heap[w.heap.size]? = some Z :=
  (h.block w.heap.size (Nat.lt_succ_self _)).trans (heap_alloc_new w Z)
theorem heap3 (w : World) (a b c : Obj) : (((w.alloc a).alloc b).alloc c).heap[w.heap.size]? = some a ∧ (((w.alloc a).alloc b).alloc c).heap[w.heap.size + 1]? = some b ∧ (((w.alloc a).alloc b).alloc c).heap[w.heap.size + 1 + 1]? = some c ∧
    (((w.alloc a).alloc b).alloc c).heap.size = w.heap.size + 1 + 1 + 1 ∧ Below w.heap.size w (((w.alloc a).alloc b).alloc c) := by
  refine ⟨?_, ?_, ?_, ?_, ?_⟩
  · exact below_new (((Below.refl _ _).alloc (by simp) _).alloc (by simp) _)
  · have := below_new (w := w.alloc a) (Z := b) (w1 := ((w.alloc a).alloc b).alloc c) ((Below.refl _ _).alloc (by simp) _)
    rw [World.size_alloc] at this; exact this
  · have := Go.heap_alloc_new ((w.alloc a).alloc b) c
    rw [World.size_alloc, World.size_alloc] at this; exact this
  · simp
  · exact (((Below.refl _ _).alloc (Nat.le_refl _) _).alloc (by simp) _).alloc (by simp; omega) _
/-- What the built index and lists are, read in the world of the call. -/
theorem rel_out {W5 wx W6 : World} {n m FB GB S nl gcap : Nat} {ga : Option Addr} {LV : List Value} (h : Rel W5 wx n m FB GB m (.slice ga nl gcap) nl LV) (hb : Below wx.heap.size wx W6)
    (h18 : W6.cell? ⟨S, 18, none⟩ = some (.slice (some ⟨FB, 0, none⟩) m m)) (h19 : W6.cell? ⟨S, 18 + 1, none⟩ = some (.slice ga nl gcap)) :
    ∃ (L : Nat → List Int) (Vv : Nat → Value), Idx W6 S 18 m L ∧ ∀ i, i < m → W6.cell? ⟨GB, i, none⟩ = some (Vv i) ∧ Is W6 (Vv i) (L i) ∧ Good n (L i) ∧ (L i).length ≤ 1024 := by
  obtain ⟨ht, hlo, hnl, fc, gc, L, Vv, h1, h2, h3, h4, h5⟩ := h.inner hb
  refine ⟨L, Vv, ⟨?_⟩, fun i hi => ?_⟩
  · obtain ⟨G, hG1, hG2⟩ : ∃ G, (0 < nl → ga = some ⟨G, 0, none⟩) ∧ ∀ j v, LV[j]? = some v → W6.cell? ⟨G, j, none⟩ = some v := by
      obtain ⟨hl, ⟨_, h0⟩ | ⟨g, cap, cur, hv, _, hh, _, _, hs, h4⟩⟩ := hlo
      · refine ⟨0, fun h => absurd h (by omega), fun j v hj => ?_⟩
        have : LV = [] := List.length_eq_zero_iff.1 (by omega)
        rw [this] at hj; cases hj
      · cases hv
        refine ⟨g, fun _ => rfl, fun j v hj => ?_⟩
        rw [cell_of_row _ _ _ _ _ _ hh, ← Array.getElem?_toList]
        rw [← h4] at hj
        have hj' : j < nl * 1 := by
          have := (List.getElem?_eq_some_iff.1 hj).1
          rw [List.length_take] at this; omega
        rw [List.getElem?_take_of_lt hj'] at hj
        exact hj
    refine ⟨FB, G, nl, gcap, ga, h18, h19, hG1, hnl, fun i hi => ?_⟩
    obtain ⟨e1, e2, e3, e4, z, e5, e6⟩ := h5 i hi
    refine ⟨z, by rw [cell_of_row _ _ _ _ _ _ h1]; exact e5, ?_⟩
    rcases e6 with e6 | e6 | ⟨j, hj1, hj2, hj3⟩
    · exact .inl e6
    · exact .inr (.inl e6)
    · exact .inr (.inr ⟨j, _, hj1, hj2, hG2 j _ hj3, is_of_owns e2⟩)
  · obtain ⟨e1, e2, e3, e4, _⟩ := h5 i hi
    exact ⟨by rw [cell_of_row _ _ _ _ _ _ h3]; exact e1, is_of_owns e2, e3, e4⟩
theorem Is.turn {w w' : World} {v : Value} {l : List Int} {LG : Nat} {a : Option Addr} {n c : Nat} {t : TypeId} {fr : Nat × Nat} (h : Is w v l) (ht : Turn w w' (fun i => i = LG)) (hL : w.heap[LG]? = some (.cells #[.slice a n c] t fr)) : Is w' v l := by
  obtain ⟨a, c, rfl, hc⟩ := h
  refine ⟨a, c, rfl, fun hn => ?_⟩
  obtain ⟨b, off, rfl, hj⟩ := hc hn
  have h0 := hj 0 (List.length_pos_iff.2 hn)
  exact ⟨b, off, rfl, fun j hlt => ht.cell (hj j hlt) (int_ne hL h0)⟩
theorem Is.below {w w' : World} {v : Value} {l : List Int} (h : Is w v l) (hb : Below w.heap.size w w') : Is w' v l := by
  obtain ⟨a, c, rfl, hc⟩ := h
  refine ⟨a, c, rfl, fun hn => ?_⟩
  obtain ⟨b, off, rfl, hj⟩ := hc hn
  exact ⟨b, off, rfl, fun j hlt => (hb.cell (by exact block_lt_of_cell (hj j hlt))).trans (hj j hlt)⟩
/-- One pair more in the row. -/
theorem row_pair {wr : World} {K n k : Nat} {cur : Array Value} {hd bd : Int → Int} (hcur : wr.heap[K]? = some (.cells cur 29 (0, 0))) (hcs : cur.size = n * 2) (hcx : ∀ x : Nat, x < k → cur[x * 2]? = some (.int .i32 (hd x)) ∧ cur[x * 2 + 1]? = some (.int .i32 (bd x))) (hk : k < n) :
    ∃ cur' : Array Value, ((wr.setCell ⟨K, k * 2, none⟩ (.int .i32 (hd k))).setCell ⟨K, k * 2 + 1, none⟩ (.int .i32 (bd k))).heap[K]? = some (.cells cur' 29 (0, 0)) ∧ cur'.size = n * 2 ∧ ∀ x : Nat, x < k + 1 → cur'[x * 2]? = some (.int .i32 (hd x)) ∧ cur'[x * 2 + 1]? = some (.int .i32 (bd x)) := by
  refine ⟨_, heap_setCell_same _ K _ _ 29 _ (heap_setCell_same wr K _ cur 29 _ hcur), by simp [hcs], fun x hx => ?_⟩
  by_cases e : x = k
  · subst e
    simp [Array.getElem?_setIfInBounds, hcs]
    omega
  · have h := hcx x (by omega)
    simp only [Array.getElem?_setIfInBounds]
    rw [if_neg (by omega), if_neg (by omega), if_neg (by omega), if_neg (by omega)]
    exact h
set_option maxRecDepth 100000 in
set_option maxHeartbeats 8000000 in
theorem law_walk (ca : Option Addr) (n cc cb co : Nat) (hd bd : Int → Int) (sa : Option Addr) (m sc sb so : Nat) (A : Nat → Option Addr) (Ls C : Nat → Nat) (e : Int) (w : World) (hn : n ≤ 1024) (hm : m ≤ 1024) (he0 : -2147483648 ≤ e) (he1 : e ≤ 2147483647)
    (hin : Hid (Came w n cb co ca hd bd m sb so sa A Ls C)) :
    Calls Yba.prog 3 #[.slice ca n cc, .slice sa m sc, .int .i32 e] w fun r w' => r = .returned (.bool true) ∧ Below w.heap.size w w' := by
  obtain ⟨i1, hi, hz0, hz1, hz2⟩ := info_parts info21
  obtain ⟨i9, hi9, hz90, hz91, hz92⟩ := info_parts info29
  obtain ⟨i3, hi3, hz30, hz31, hz32⟩ := info_parts info30
  have hd1 : decide ((1024 : Int) < (n : Int)) = false := by simp; omega
  have hd2 : decide ((1024 : Int) < (m : Int)) = false := by simp; omega
  go_enter Yba.func3, Yba.ntmps3
  go_wp2
  go_loop [39] (fun i => ∃ k : Nat, k ≤ m ∧ i = .int .i64 k ∧ Hid (∀ j, j < k → Ls j ≤ 1024)) (fun i => m - (intOf i).toNat)
  case atStart => exact ⟨0, Nat.zero_le _, rfl, fun j hj => absurd hj (Nat.not_lt_zero _)⟩
  case round =>
    obtain ⟨k, hk, rfl, HLS⟩ := hrel
    by_cases hlt : k < m
    · obtain rfl := hin.out.sa (by omega)
      have hki : (k : Int) < m := by omega
      have cst : ∀ o, (w.alloc o).cell? ⟨sb, so + k, none⟩ = some (.slice (A k) (Ls k) (C k)) := fun o => (World.cell?_of_block (Below.heap_alloc w o sb (block_lt_of_cell (hin.out.st k hlt)))).trans (hin.out.st k hlt)
      by_cases hl : 1024 < Ls k
      · have hli : (1024 : Int) < (Ls k : Int) := by omega
        go_wp2
        go_ret
        exact ⟨rfl, (Below.refl _ _).alloc (Nat.le_refl _) _⟩
      · have hli : decide ((1024 : Int) < (Ls k : Int)) = false := by simp; omega
        have hlj : ¬ (1024 : Int) < (Ls k : Int) := by omega
        go_wp2
        go_round
        case rel => exact ⟨k + 1, by omega, by go_num, fun j hj => by
          by_cases e : j = k
          · subst e; omega
          · exact HLS.out j (by omega)⟩
        case measure => simp [intOf]; omega
    · obtain rfl : m = k := by omega
      clear hk hlt
      go_wp2_with (first | (at_make; refine wpList_make_full _ rfl (.tmp 51) (.tmp 51) 25 rfl (w.heap.size + 1 + 1) 29 i9 (.agg #[.int .i32 0, .int .i32 0]) 2 Yba.underlying25 hi9 hz90 hz91 .i64 .i64 _ _ n rfl rfl rfl rfl ?_ ?_ ?_ ?_))
      any_goals (first | omega | (unfold maxLen; omega) | (simp; done))
      intro W2 hown2 hg2
      have HLS' : Hid (∀ j, j < m → Ls j ≤ 1024) := HLS
      obtain ⟨V, hV⟩ : ∃ V, w.heap.size = V := ⟨_, rfl⟩
      have ht2 : Turn w W2 (fun _ => False) := (((turn_alloc w _ (fun _ => False)).trans (turn_alloc _ _ (fun _ => False))).trans (turn_grown hg2)).mono (fun i _ h => by rcases h with (h | h) | h <;> first | exact h | cases h)
      have hCB : W2.heap[w.heap.size]? = some (.cells #[.slice ca n cc] 22) := (hg2.block _ (by rw [World.size_alloc, World.size_alloc]; omega) (by simp)).trans (Go.heap_alloc2_old w _ _)
      have hNB : W2.heap[w.heap.size + 1]? = some (.cells #[.int .i64 n] 3) := (hg2.block _ (by rw [World.size_alloc, World.size_alloc]; omega) (by simp)).trans (Go.heap_alloc2_new w _ _)
      obtain ⟨cur0, hK0, hKs0⟩ : ∃ cur, W2.heap[w.heap.size + 1 + 1]? = some (.cells cur 29 (0, 0)) ∧ cur.size = n * 2 := by
        obtain ⟨_, ⟨h, _⟩ | ⟨g, cap, cur, hv, _, hh, _, _, hs, _⟩⟩ := hown2
        · cases h
        · cases hv
          exact ⟨cur, hh, hs⟩
      rw [hV] at hCB hNB hK0 ⊢
      have HV := hide hV
      have HT2 := hide ht2
      have HCB := hide hCB
      have HNB := hide hNB
      have HK0 := hide hK0
      have HKS0 := hide hKs0
      have cC : W2.cell? ⟨V, 0, none⟩ = some (.slice ca n cc) := by rw [cell_of_row _ _ _ _ _ _ hCB]; rfl
      clear hV ht2 hCB hNB hK0 hKs0 hown2 hg2 HLS hd1 hd2
      go_wp2
      clear cC
      go_loopw [55] (fun i wr => ∃ k : Nat, k ≤ n ∧ i = .int .i64 k ∧ Turn W2 wr (fun i => i = V + 1 + 1) ∧ ∃ cur : Array Value, wr.heap[V + 1 + 1]? = some (.cells cur 29 (0, 0)) ∧ cur.size = n * 2 ∧ ∀ x : Nat, x < k → cur[x * 2]? = some (.int .i32 (hd x)) ∧ cur[x * 2 + 1]? = some (.int .i32 (bd x))) (fun i _ => n - (intOf i).toNat)
      case atStart => exact ⟨0, Nat.zero_le _, rfl, Turn.refl _ _, cur0, HK0.out, HKS0.out, fun x hx => absurd hx (Nat.not_lt_zero _)⟩
      case round =>
        obtain ⟨k, hk, rfl, hturn, cur, hcur, hcs, hcx⟩ := hrel
        have HTR := hide hturn
        have HCU := hide hcur
        have HCS := hide hcs
        have HCX := hide hcx
        clear hturn hcur hcs hcx
        by_cases hlt : k < n
        · obtain rfl := hin.out.ca (by omega)
          have hki : (k : Int) < n := by omega
          have hrc := hin.out.cr k hlt
          have hlv : cb < w.heap.size := block_lt_of_cell hrc.1
          have hlv' : cb < V := by rw [← HV.out]; exact hlv
          have hTT : Hid (∀ o, Turn w (wr.alloc o) (fun i => i = V + 1 + 1)) := fun o => ((HT2.out.trans HTR.out).trans (turn_alloc wr o (fun _ => False))).mono (fun i _ h => by rcases h with (h | h) | h <;> first | exact h | cases h)
          have y0 : wr.cell? ⟨cb, co + k * 2, none⟩ = some (.int .i32 (hd k)) := (HT2.out.trans HTR.out).cell hrc.1 (by rintro (h | h) <;> omega)
          have y1 : wr.cell? ⟨cb, co + k * 2 + 1, none⟩ = some (.int .i32 (bd k)) := (HT2.out.trans HTR.out).cell hrc.2 (by rintro (h | h) <;> omega)
          have hwz : V + 1 + 1 < wr.heap.size := (Array.getElem?_eq_some_iff.1 HCU.out).1
          obtain ⟨u0, e0⟩ : ∃ u, wr.cell? ⟨V + 1 + 1, k * 2, none⟩ = some u := ⟨cur[k * 2]'(by rw [HCS.out]; omega), by rw [cell_of_row _ _ _ _ _ _ HCU.out]; exact Array.getElem?_eq_getElem _⟩
          obtain ⟨u1, e1⟩ : ∃ u, wr.cell? ⟨V + 1 + 1, k * 2 + 1, none⟩ = some u := ⟨cur[k * 2 + 1]'(by rw [HCS.out]; omega), by rw [cell_of_row _ _ _ _ _ _ HCU.out]; exact Array.getElem?_eq_getElem _⟩
          have z0 : wr.frozen? ⟨V + 1 + 1, k * 2, none⟩ = false := frozen_of_row _ _ _ _ _ HCU.out
          have z1 : wr.frozen? ⟨V + 1 + 1, k * 2 + 1, none⟩ = false := frozen_of_row _ _ _ _ _ HCU.out
          have HROW := hide (row_pair HCU.out HCS.out HCX.out hlt)
          clear hrc
          go_wp2
          go_roundw
          case rel =>
            refine ⟨k + 1, by omega, by go_num, ?_, ?_⟩
            · exact (((HTR.out.trans (turn_setCell wr _ _)).trans (turn_setCell _ _ _)).trans (turn_alloc _ _ (fun _ => False))).mono (fun i _ h => by rcases h with ((h | h) | h) | h <;> first | exact h | cases h)
            · obtain ⟨cur', h1, h2, h3⟩ := HROW.out
              exact ⟨cur', (Below.heap_alloc _ _ _ (by simp; exact hwz)).trans h1, h2, h3⟩
          case measure => simp [intOf]; omega
        · obtain rfl : n = k := by omega
          clear hlt hk
          have HB3 : Hid (Below w.heap.size w wr) := ((HT2.out.trans HTR.out).below (Nat.le_refl _) (fun i hi h => by have := HV.out; rcases h with h | h <;> first | exact h | omega))
          have HCB3 : Hid (wr.heap[V]? = some (.cells #[.slice ca n cc] 22)) := HTR.out.heap HCB.out (by omega)
          have HNB3 : Hid (wr.heap[V + 1]? = some (.cells #[.int .i64 n] 3)) := HTR.out.heap HNB.out (by omega)
          clear HT2 HTR HCB HNB HK0 HKS0
          generalize hFB : wr.heap.size = FB
          have HFB := hide hFB
          clear hFB
          go_wp2_with (first | (at_make; refine wpList_make_full _ rfl (.tmp 70) (.tmp 70) 30 rfl 0 21 i1 (.int .i32 0) 1 Yba.underlying30 hi hz0 hz1 .i64 .i64 _ _ m rfl rfl rfl rfl ?_ ?_ ?_ ?_))
          any_goals (first | omega | (rw [hz2]; omega) | (unfold maxLen; omega) | (simp; done))
          intro W4 hown4 hg4
          go_wp2_with (first | (at_make; refine wpList_make_full _ rfl (.tmp 73) (.tmp 73) 31 rfl 0 30 i3 (.slice none 0 0) 1 Yba.underlying31 hi3 hz30 hz31 .i64 .i64 _ _ m rfl rfl rfl rfl ?_ ?_ ?_ ?_))
          any_goals (first | omega | (rw [hz32]; omega) | (unfold maxLen; omega) | (simp; done))
          intro W5 hown5 hg5
          generalize hGB : W4.heap.size = GB
          rw [HFB.out]
          have HS4 : Hid (FB < GB ∧ GB < W5.heap.size ∧ V + 1 + 1 < FB) := by
            have h1 : wr.heap.size < W4.heap.size := (owns_lt hown4 (g := wr.heap.size) rfl).2
            have h2 : W4.heap.size < W5.heap.size := (owns_lt hown5 (g := W4.heap.size) rfl).2
            have h3 := (Array.getElem?_eq_some_iff.1 HCU.out).1
            have h4 := HFB.out
            show _ ∧ _ ∧ _
            refine ⟨?_, ?_, ?_⟩ <;> omega
          have HT5 : Hid (Turn wr W5 (fun _ => False)) := ((turn_grown hg4).trans (turn_grown hg5)).mono (fun i _ h => by rcases h with h | h <;> cases h)
          obtain ⟨fc0, hF0, hFs0⟩ : ∃ cur, W5.heap[FB]? = some (.cells cur 21 (0, 0)) ∧ cur.size = m := by
            have hl4 : wr.heap.size < W4.heap.size := (owns_lt hown4 (g := wr.heap.size) rfl).2
            obtain ⟨_, ⟨h, _⟩ | ⟨g, cap, cur, hv, _, hh, _, _, hs, _⟩⟩ := hown4
            · cases h
            · cases hv
              rw [HFB.out] at hh hl4
              exact ⟨cur, (hg5.block _ hl4 (by simp)).trans hh, by omega⟩
          obtain ⟨gc0, hG0, hGs0⟩ : ∃ cur, W5.heap[GB]? = some (.cells cur 30 (0, 0)) ∧ cur.size = m := by
            obtain ⟨_, ⟨h, _⟩ | ⟨g, cap, cur, hv, _, hh, _, _, hs, _⟩⟩ := hown5
            · cases h
            · cases hv
              rw [hGB] at hh
              exact ⟨cur, hh, by omega⟩
          have HREL0 : Hid (Rel W5 W5 n m FB GB 0 (.slice none 0 0) 0 []) := ⟨Turn.refl _ _, World.ownsRow_nil _ _ _ _, Nat.le_refl _, fc0, gc0, fun _ => [], fun _ => .slice none 0 0, hF0, hFs0, hG0, hGs0, fun i hi => absurd hi (Nat.not_lt_zero _)⟩
          have HB5 : Hid (Below w.heap.size w W5) := HB3.out.trans ((HT5.out.below (Nat.le_refl _) (fun _ _ h => h)).mono HB3.out.size)
          have HCB5 : Hid (W5.heap[V]? = some (.cells #[.slice ca n cc] 22)) := HT5.out.heap HCB3.out (fun h => h)
          have HNB5 : Hid (W5.heap[V + 1]? = some (.cells #[.int .i64 n] 3)) := HT5.out.heap HNB3.out (fun h => h)
          have HKB5 : Hid (W5.heap[V + 1 + 1]? = some (.cells cur 29 (0, 0))) := HT5.out.heap HCU.out (fun h => h)
          clear hown4 hown5 hg4 hg5 hGB hF0 hFs0 hG0 hGs0 HB3 HCB3 HNB3 HT5 HCU HFB
          go_wp2
          go_loopw [13, 77] (fun lg i wx => ∃ (k nl : Nat) (LV : List Value), k ≤ m ∧ i = .int .i64 k ∧ Rel W5 wx n m FB GB k lg nl LV) (fun _ i _ => m - (intOf i).toNat)
          case atStart => exact ⟨0, 0, [], Nat.zero_le _, rfl, HREL0.out⟩
          case round =>
            obtain ⟨k, nl, LV, hk, rfl, hrl⟩ := hrel
            obtain ⟨wx, rfl⟩ : ∃ wx, wx = wr := ⟨_, rfl⟩
            have HRL := hide hrl
            clear hrl HREL0
            by_cases hlt : k < m
            · obtain rfl := hin.out.sa (by omega)
              have hki : (k : Int) < m := by omega
              have hst := hin.out.st k hlt
              have HBX : Hid (Below w.heap.size w wx) := HB5.out.trans ((HRL.out.1.below (B := w.heap.size) HB5.out.size (fun i hi h => by have := HV.out; have := HS4.out; rcases h with h | h <;> omega)))
              have cst : wx.cell? ⟨sb, so + k, none⟩ = some (.slice (A k) (Ls k) (C k)) := (HBX.out.cell (by exact block_lt_of_cell hst)).trans hst
              have HZS := hide (hin.out.zs k hlt)
              have HLK := hide (HLS'.out k hlt)
              clear hst
              generalize A k = ak at cst HZS
              generalize Ls k = lk at cst HZS HLK
              generalize C k = ck at cst
              have hlk : lk ≤ 1024 := HLK.out
              have cN : wx.cell? ⟨V + 1, 0, none⟩ = some (.int .i64 n) := by
                have h := HRL.out.1.heap HNB5.out (by have := HS4.out; omega)
                rw [cell_of_row _ _ _ _ _ _ h]; rfl
              go_upto_block 6 with fail
              go_cut [17] (fun vl wc => ∃ ll : List Int, wc.ownsRow wx.heap.size 21 1 vl ll.length (ll.map (Value.int .i32)) ∧ Good n ll ∧ ll.length ≤ 1024 ∧ Below wx.heap.size wx wc)
              case first =>
                go_wp2
                go_loopw [17, 18, 84] (fun vl cu i wi => ∃ (j : Nat) (ll : List Int) (c : Int), j ≤ lk ∧ i = .int .i64 j ∧ cu = .int .i64 c ∧ wi.ownsRow wx.heap.size 21 1 vl ll.length (ll.map (Value.int .i32)) ∧ Good n ll ∧ ll.length ≤ j ∧ (∀ x ∈ ll, x ≤ c) ∧ 0 ≤ c ∧ c ≤ 2 * j ∧ Below wx.heap.size wx wi) (fun _ _ i _ => lk - (intOf i).toNat)
                case atStart => exact ⟨0, [], 0, Nat.zero_le _, rfl, rfl, World.ownsRow_nil _ _ _ _, good_nil n, Nat.le_refl _, fun x hx => absurd hx List.not_mem_nil, by decide, by decide, Below.refl _ _⟩
                case round =>
                  obtain ⟨j, ll, c, hj, rfl, rfl, hown, hgood, hll, hmax, hc0, hc1, hbel⟩ := hrel
                  have HO := hide hown
                  have HG := hide hgood
                  have HMX := hide hmax
                  have HBL := hide hbel
                  clear hown hgood hmax hbel
                  by_cases hjl : j < lk
                  · obtain ⟨b, o, rfl, hzs⟩ := HZS.out (by omega)
                    obtain ⟨z, hzc, hz0', hz255⟩ := hzs j hjl
                    have hji : (j : Int) < lk := by omega
                    have HBW := hide (HBX.out.trans (HBL.out.mono HBX.out.size))
                    have cz : wr.cell? ⟨b, o + j, none⟩ = some (.int .u8 z) := (HBW.out.cell (by exact block_lt_of_cell hzc)).trans hzc
                    have cN' : wr.cell? ⟨V + 1, 0, none⟩ = some (.int .i64 n) := (HBL.out.cell (by exact block_lt_of_cell cN)).trans cN
                    clear hzs hzc
                    by_cases hge : (n : Int) ≤ c + z % 3
                    · go_wp2
                      go_meet
                      case rel => exact ⟨ll, HO.out, HG.out, by omega, HBL.out⟩
                    · have hlt' : c + z % 3 < n := by omega
                      go_wp2_with (first | (at_builtin; refine wpList_append_own_at _ rfl (.tmp 96) (.tmp 99) 30 rfl wx.heap.size 21 i1 (.int .i32 0) 1 4 Yba.underlying30 hi hz0 hz1 hz2 rfl (by decide) _ _ _ rfl (HO.out.alloc _) ⟨wr.heap.size, 0, none⟩ 1 1 [.int .i32 (c + z % 3)] rfl rfl (cell_one_new _ _ _) (ints_oneCell .i32 [c + z % 3]) ?_ ?_ ?_ ?_))
                      · unfold maxLen; omega
                      · omega
                      · have := HBL.out.size; omega
                      · intro v' w' hown' hgrow _ _
                        have HR : Hid (Below wx.heap.size wx w') := (HBL.out.alloc HBL.out.size _).grown hgrow (by have := HBL.out.size; rw [World.size_alloc]; omega) (fun g hg => (owns_lt HO.out hg).1)
                        have HO' : Hid (w'.ownsRow wx.heap.size 21 1 v' (ll ++ [c + z % 3]).length ((ll ++ [c + z % 3]).map (Value.int .i32))) := by rw [List.length_append, List.map_append]; exact hown'
                        clear hown' hgrow
                        go_wp2
                        go_roundw
                        case rel => exact ⟨j + 1, ll ++ [c + z % 3], c + z % 3, by omega, by go_num, rfl, HO'.out, HG.out.snoc (fun x hx => by have := HMX.out x hx; omega) (by omega) (by omega), by rw [List.length_append]; simp; omega, fun x hx => by
                          rcases List.mem_append.1 hx with hx | hx
                          · have := HMX.out x hx; omega
                          · rw [List.mem_singleton.1 hx]; exact Int.le_refl _, by omega, by omega, HR.out⟩
                        case measure => simp [intOf]; omega
                  · have hji : ¬ (j : Int) < lk := by omega
                    go_wp2
                    go_meet
                    case rel => exact ⟨ll, HO.out, HG.out, by omega, HBL.out⟩
              case rest =>
                obtain ⟨ll, hown, hgood, hll, hbel⟩ := hcut
                have HG := hide hgood
                have HRC := hide (HRL.out.inner hbel)
                have HO : Hid (wc.ownsRow W5.heap.size 21 1 u17 ll.length (ll.map (Value.int .i32))) := owns_base hown HRL.out.1.size
                obtain ⟨la, lc, hu17⟩ : ∃ la lc, u17 = .slice la ll.length lc := by
                  obtain ⟨_, ⟨h1, h2⟩ | ⟨g, cap, _, hv, _⟩⟩ := hown
                  · exact ⟨none, 0, by rw [h1, h2]⟩
                  · exact ⟨_, _, hv⟩
                obtain ⟨ga, gcap, hu13⟩ : ∃ ga gcap, u13 = .slice ga nl gcap := by
                  obtain ⟨_, ⟨h1, h2⟩ | ⟨g, cap, _, hv, _⟩⟩ := HRL.out.2.1
                  · exact ⟨none, 0, by rw [h1, h2]⟩
                  · exact ⟨_, _, hv⟩
                subst hu17 hu13
                clear hown hgood hbel cst cN HZS
                have hFG := HS4.out.1
                have hGW := HS4.out.2.1
                obtain ⟨uF, cF, zF, uG, cG, zG⟩ : ∃ uF, wc.cell? ⟨FB, k, none⟩ = some uF ∧ wc.frozen? ⟨FB, k, none⟩ = false ∧ ∃ uG, wc.cell? ⟨GB, k, none⟩ = some uG ∧ wc.frozen? ⟨GB, k, none⟩ = false := by
                  obtain ⟨_, _, _, fc, gc, _, _, h1, h2, h3, h4, _⟩ := HRC.out
                  exact ⟨fc[k]'(by omega), by rw [cell_of_row _ _ _ _ _ _ h1]; exact Array.getElem?_eq_getElem _, frozen_of_row _ _ _ _ _ h1, gc[k]'(by omega), by rw [cell_of_row _ _ _ _ _ _ h3]; exact Array.getElem?_eq_getElem _, frozen_of_row _ _ _ _ _ h3⟩
                have hne1 : FB ≠ GB := by omega
                obtain ⟨lz, hlz⟩ : ∃ lz, ll.length = lz := ⟨_, rfl⟩
                rw [hlz]
                have HLZ := hide hlz
                have hl1024 : lz ≤ 1024 := by rw [← hlz]; exact hll
                clear hll hlz
                by_cases l0 : lz = 0
                · have hb0 : ((lz : Int) == 0) = true := by simp [l0]
                  have HE : Hid (ll = []) := List.length_eq_zero_iff.1 (HLZ.out.trans l0)
                  clear l0
                  go_wp2
                  go_roundw
                  case rel => exact ⟨k + 1, nl, LV, by omega, by go_num, by rw [← HLZ.out]; exact HRC.out.put hlt hFG hGW HO.out HG.out (by rw [HLZ.out]; exact hl1024) (.inl ⟨rfl, HE.out⟩)⟩
                  case measure => simp [intOf]; omega
                · have hb0 : ((lz : Int) == 0) = false := by simp; exact l0
                  by_cases l1 : lz = 1
                  · obtain ⟨x0, hx0⟩ : ∃ x0, ll = [x0] := List.length_eq_one_iff.1 (HLZ.out.trans l1)
                    obtain ⟨g, cap, hg, hgb, hcg⟩ : ∃ g cap, (Value.slice la ll.length lc) = .slice (some ⟨g, 0, none⟩) ll.length cap ∧ W5.heap.size ≤ g ∧ wc.cell? ⟨g, 0, none⟩ = some (.int .i32 x0) := by
                      have hown := HO.out
                      obtain ⟨_, ⟨_, h2⟩ | ⟨g, cap, cur, hv, hb, hh, _, _, _, h4⟩⟩ := hown
                      · rw [hx0] at h2; cases h2
                      · refine ⟨g, cap, hv, hb, ?_⟩
                        rw [cell_of_row _ _ _ _ _ _ hh, ← Array.getElem?_toList]
                        have e : (cur.toList.take (ll.length * 1))[0]? = (ll.map (Value.int .i32))[0]? := by rw [h4]
                        rw [List.getElem?_take_of_lt (by rw [hx0]; simp)] at e
                        rw [e, hx0]; rfl
                    cases hg
                    have HX := hide hx0
                    have hx00 : 0 ≤ x0 := (HG.out.2 x0 (by rw [hx0]; exact List.mem_singleton.2 rfl)).1
                    have hgG : g ≠ GB := by omega
                    have hgF : g ≠ FB := by omega
                    subst l1
                    clear hx0 l0
                    go_wp2
                    go_roundw
                    case rel => exact ⟨k + 1, nl, LV, by omega, by go_num, by
                      have h := HRC.out.put hlt hFG hGW (z := x0) HO.out HG.out (by rw [HLZ.out]; exact hl1024) (.inr ⟨hx00, HX.out⟩)
                      rw [HLZ.out] at h
                      exact h⟩
                    case measure => simp [intOf]; omega
                  · have hb1 : ((lz : Int) == 1) = false := by simp; omega
                    have hnl : nl ≤ k := HRC.out.2.2.1
                    have HLO : Hid (((wc.setCell ⟨GB, k, none⟩ (.slice la lz lc)).setCell ⟨FB, k, none⟩ (.int .i32 (-2 - (nl : Int)))).ownsRow W5.heap.size 30 1 (.slice ga nl gcap) nl LV) := ownsRow_setCell_below (ownsRow_setCell_below HRC.out.2.1 (by exact hGW) _) (by show FB < W5.heap.size; omega) _
                    clear l0 l1
                    go_wp2_with (first | (at_builtin; refine wpList_append_own_at _ rfl (.tmp 115) (.tmp 117) 31 rfl W5.heap.size 30 i3 (.slice none 0 0) 1 24 Yba.underlying31 hi3 hz30 hz31 hz32 rfl (by decide) _ _ _ rfl (HLO.out.alloc _) ⟨wc.heap.size, 0, none⟩ 1 1 [.slice la lz lc] rfl rfl ?_ ?_ ?_ ?_ ?_ ?_))
                    · have hn := cell_one_new ((wc.setCell ⟨GB, k, none⟩ (.slice la lz lc)).setCell ⟨FB, k, none⟩ (.int .i32 (-2 - (nl : Int)))) (.slice la lz lc) 30
                      rw [World.size_setCell, World.size_setCell] at hn
                      exact hn
                    · intro u hu
                      simp at hu
                      subst hu
                      rfl
                    · unfold maxLen; omega
                    · omega
                    · have h1 := HRC.out.1.size
                      rw [World.size_alloc, World.size_setCell, World.size_setCell]; omega
                    · intro v' w' hown' hgrow _ _
                      have HR : Hid (Rel W5 w' n m FB GB (k + 1) v' (nl + 1) (LV ++ [.slice la lz lc])) := HRC.out.long hlt hFG hGW (ll := ll) (by rw [← HLZ.out]; exact HO.out) HG.out (by rw [HLZ.out]; exact hl1024) hgrow hown'
                      clear hown' hgrow
                      go_wp2
                      go_roundw
                      case rel => exact ⟨k + 1, nl + 1, _, by omega, by go_num, HR.out⟩
                      case measure => simp [intOf]; omega
            · obtain rfl : m = k := by omega
              clear hlt hk
              obtain ⟨ga, gcap, hu13⟩ : ∃ ga gcap, u13 = .slice ga nl gcap := by
                obtain ⟨_, ⟨h1, h2⟩ | ⟨g, cap, _, hv, _⟩⟩ := HRL.out.2.1
                · exact ⟨none, 0, by rw [h1, h2]⟩
                · exact ⟨_, _, hv⟩
              subst hu13
              go_wp2_with fail
              obtain ⟨hS, hLg, hSM, hsz6, hb6⟩ := heap3 wx (.cells #[.int .i32 0, .int .u32 0, .slice none 0 0, .slice none 0 0, .slice none 0 0, .int .i64 0, .slice none 0 0, .slice none 0 0, .slice none 0 0, .int .i64 0, .slice none 0 0, .int .i64 0, .slice none 0 0, .slice (some ⟨V + 1 + 1, 0, none⟩) n n, .slice none 0 0, .int .i64 0, .slice none 0 0, .slice none 0 0, .slice (some ⟨FB, 0, none⟩) m m, .slice ga nl gcap, .slice none 0 0, .slice none 0 0, .slice none 0 0, .slice none 0 0, .pointer none, .int .i64 0, .int .i64 0, .int .i64 0, .slice none 0 0, .int .u64 0, .int .i64 0] 54) (.cells #[.slice none 0 0] 30) (.cells #[.bool true] 4)
              generalize (((wx.alloc (.cells #[.int .i32 0, .int .u32 0, .slice none 0 0, .slice none 0 0, .slice none 0 0, .int .i64 0, .slice none 0 0, .slice none 0 0, .slice none 0 0, .int .i64 0, .slice none 0 0, .int .i64 0, .slice none 0 0, .slice (some ⟨V + 1 + 1, 0, none⟩) n n, .slice none 0 0, .int .i64 0, .slice none 0 0, .slice none 0 0, .slice (some ⟨FB, 0, none⟩) m m, .slice ga nl gcap, .slice none 0 0, .slice none 0 0, .slice none 0 0, .slice none 0 0, .pointer none, .int .i64 0, .int .i64 0, .int .i64 0, .slice none 0 0, .int .u64 0, .int .i64 0] 54)).alloc (.cells #[.slice none 0 0] 30)).alloc (.cells #[.bool true] 4)) = W6 at hS hLg hSM hsz6 hb6 ⊢
              obtain ⟨S, hSd⟩ : ∃ S, wx.heap.size = S := ⟨_, rfl⟩
              have h13 : W6.cell? ⟨wx.heap.size, 13, none⟩ = some (.slice (some ⟨V + 1 + 1, 0, none⟩) n n) := by rw [cell_of_row _ _ _ _ _ _ hS]; rfl
              obtain ⟨L, Vv, hidx, hall⟩ := rel_out (S := wx.heap.size) HRL.out hb6 (by rw [cell_of_row _ _ _ _ _ _ hS]; rfl) (by rw [cell_of_row _ _ _ _ _ _ hS]; rfl)
              have HSV : Hid (V + 1 + 1 < FB ∧ FB < GB ∧ GB < wx.heap.size) := by
                have h1 := HS4.out
                have h2 := HRL.out.1.size
                show _ ∧ _ ∧ _
                omega
              have hTX := HRL.out.1
              have HB6 : Hid (Below w.heap.size w W6) := by
                have h1 : Below w.heap.size w wx := HB5.out.trans (hTX.below (B := w.heap.size) HB5.out.size (fun i hi h => by have := HV.out; have := HS4.out; rcases h with h | h <;> omega))
                exact h1.trans (hb6.mono h1.size)
              have hold : ∀ {p : Nat} {o : Obj}, W5.heap[p]? = some o → p ≠ FB → p ≠ GB → W6.heap[p]? = some o := fun {p o} h n1 n2 => by
                have h1 := hTX.heap h (by rintro (h | h); exact n1 h; exact n2 h)
                exact (hb6.block p (Array.getElem?_eq_some_iff.1 h1).1).trans h1
              have HCB6 : Hid (W6.heap[V]? = some (.cells #[.slice ca n cc] 22)) := hold HCB5.out (by have := HS4.out; omega) (by have := HS4.out; omega)
              have HNB6 : Hid (W6.heap[V + 1]? = some (.cells #[.int .i64 n] 3)) := hold HNB5.out (by have := HS4.out; omega) (by have := HS4.out; omega)
              have HKB6 : Hid (W6.heap[V + 1 + 1]? = some (.cells cur 29 (0, 0))) := hold HKB5.out (by have := HS4.out; omega) (by have := HS4.out; omega)
              have HCR6 : Hid (∀ x : Nat, x < n → W6.cell? ⟨cb, co + x * 2, none⟩ = some (.int .i32 (hd x)) ∧ W6.cell? ⟨cb, co + x * 2 + 1, none⟩ = some (.int .i32 (bd x))) := fun x hx => by
                have h := hin.out.cr x hx
                exact ⟨(HB6.out.cell (by exact block_lt_of_cell h.1)).trans h.1, (HB6.out.cell (by exact block_lt_of_cell h.2)).trans h.2⟩
              obtain ⟨l, hl⟩ : ∃ l, at_ L m e = l := ⟨_, rfl⟩
              have hgl : Good n l ∧ l.length ≤ 1024 := by
                rw [← hl]; unfold at_
                by_cases hr : 0 ≤ e ∧ e < m
                · rw [if_pos hr]; have h := hall e.toNat (by omega); exact ⟨h.2.2.1, h.2.2.2⟩
                · rw [if_neg hr]; exact ⟨good_nil n, by decide⟩
              have HGL := hide hgl
              have HAT := hide hl
              have HALL := hide hall
              have HLg := hide hLg
              have HSM := hide hSM
              have HSZ6 := hide hsz6
              have HUS := hide (users_any W6 wx.heap.size m n (wx.heap.size + 1) (V + 1) V (wx.heap.size + 1 + 1) (V + 1 + 1) cb co cc L l e he0 he1 hd bd hm hn hidx hl hgl.1.2 hgl.2 h13
                (fun x hx => by have h := HCX.out x hx; exact ⟨by rw [cell_of_row _ _ _ _ _ _ HKB6.out]; exact h.1, by rw [cell_of_row _ _ _ _ _ _ HKB6.out]; exact h.2⟩)
                (show _ = _ by rw [cell_of_row _ _ _ _ _ _ HNB6.out]; rfl) (fun h0 => by rw [cell_of_row _ _ _ _ _ _ HCB6.out, ← hin.out.ca h0]; rfl) HCR6.out hLg (by have := HSV.out; show V ≠ _; omega) (by show wx.heap.size ≠ _; omega))
              clear hS hLg hSM hsz6 hidx hall hTX hold hl hgl h13 hb6
              refine HUS.out.mono ?_
              rintro r w7 ⟨vl, vi, rfl, hur⟩
              have HUR := hide hur
              clear HUS hur
              rw [hSd] at HLg HSM HSZ6 HSV HUR ⊢
              clear hSd
              have HT7 := hide HUR.out.turn
              have HIV : Hid (∀ i, i < m → Is w7 (Vv i) (L i)) := fun i hi => ((HALL.out i hi).2.1).turn HT7.out HLg.out
              have cSM : w7.cell? ⟨S + 1 + 1, 0, none⟩ = some (.bool true) := by
                have h := HT7.out.heap HSM.out (by omega)
                rw [cell_of_row _ _ _ _ _ _ h]; rfl
              have cLg : w7.cell? ⟨S + 1, 0, none⟩ = some vl := by rw [cell_of_row _ _ _ _ _ _ HUR.out.log.1]; rfl
              have HCB7 : Hid (w7.heap[V]? = some (.cells #[.slice ca n cc] 22)) := HT7.out.heap HCB6.out (by have := HSV.out; omega)
              have HNB7 : Hid (w7.heap[V + 1]? = some (.cells #[.int .i64 n] 3)) := HT7.out.heap HNB6.out (by have := HSV.out; omega)
              have HCR7 : Hid (∀ x : Nat, x < n → w7.cell? ⟨cb, co + x * 2 + 1, none⟩ = some (.int .i32 (bd x))) := fun x hx => HT7.out.cell (HCR6.out x hx).2 (int_ne HLg.out (HCR6.out x hx).2)
              have HB7 : Hid (Below w.heap.size w w7) := HB6.out.trans (HT7.out.below (B := w.heap.size) HB6.out.size (fun i hi h => by have := HV.out; have := HSV.out; omega))
              have HLOG := hide (is_of_owns HUR.out.log.2)
              have HGOT := hide (is_of_owns HUR.out.own)
              have HNIL := hide HUR.out.nil
              clear HCB6 HNB6 HCR6 HB6 HLg HSM HKB6 HCX HKB5 HCB5 HNB5 HRL
              have h3 : (0 ≤ e ∧ e < m) ∨ e < 0 ∨ (0 ≤ e ∧ (m : Int) ≤ e) := by omega
              rcases h3 with hr | hr | hr
              have hr0 : 0 ≤ e := hr.1
              have hr1 : e < m := hr.2
              have HLI : Hid (Is w7 (Vv e.toNat) l) := by
                have h := HIV.out e.toNat (by omega)
                rw [← HAT.out]; unfold at_; rw [if_pos hr]; exact h
              have cGB : w7.cell? ⟨GB, e.toNat, none⟩ = some (Vv e.toNat) := HT7.out.cell (HALL.out e.toNat (by omega)).1 (by have := HSV.out; omega)
              generalize Vv e.toNat = vlist at HLI cGB
              clear hr HUR HALL HIV
              go_wp2_with fail
              clear cGB hr0 hr1
              rotate_left
              have HLI : Hid (Is w7 (.slice none 0 0) l) := by rw [← HAT.out]; unfold at_; rw [if_neg (by omega)]; exact is_nil w7
              clear HUR HALL HIV
              go_wp2_with fail
              clear hr
              rotate_left
              have HLI : Hid (Is w7 (.slice none 0 0) l) := by rw [← HAT.out]; unfold at_; rw [if_neg (by omega)]; exact is_nil w7
              have hr0 : 0 ≤ e := hr.1
              have hr1 : (m : Int) ≤ e := hr.2
              clear hr HUR HALL HIV
              go_wp2_with fail
              clear hr0 hr1
              rotate_left
              all_goals
                refine (equal_same HLOG.out HLI.out (by have := HGL.out.2; omega)).mono ?_
                rintro r w8 ⟨rfl, kq, rfl⟩
                clear cLg cSM HLOG
                go_wp2
                go_loopw [27, 28] (fun vw i wy => ∃ k : Nat, k ≤ n ∧ i = .int .i64 k ∧ wy.ownsRow w7.heap.size 21 1 vw (wants bd l k).length ((wants bd l k).map (Value.int .i32)) ∧ (wants bd l k = [] → vw = .slice none 0 0) ∧ Below w7.heap.size w7 wy) (fun _ i _ => n - (intOf i).toNat)
                case atStart => exact ⟨0, Nat.zero_le _, rfl, World.ownsRow_nil _ _ _ _, fun _ => rfl, below_drewN (Below.refl _ _) _⟩
                case round =>
                  obtain ⟨k, hk, rfl, hown, hnil, hbel⟩ := hrel
                  have HO := hide hown
                  have HNL := hide hnil
                  have HBL := hide hbel
                  clear hown hnil hbel
                  have cN : wr.cell? ⟨V + 1, 0, none⟩ = some (.int .i64 n) := by
                    have h := (HBL.out.block (V + 1) (Array.getElem?_eq_some_iff.1 HNB7.out).1).trans HNB7.out
                    rw [cell_of_row _ _ _ _ _ _ h]; rfl
                  by_cases hlt : k < n
                  · have hki : (k : Int) < n := by omega
                    obtain rfl := hin.out.ca (by omega)
                    have cC : wr.cell? ⟨V, 0, none⟩ = some (.slice (some ⟨cb, co, none⟩) n cc) := by
                      have h := (HBL.out.block V (Array.getElem?_eq_some_iff.1 HCB7.out).1).trans HCB7.out
                      rw [cell_of_row _ _ _ _ _ _ h]; rfl
                    have cB : wr.cell? ⟨cb, co + k * 2 + 1, none⟩ = some (.int .i32 (bd k)) := (HBL.out.cell (by exact block_lt_of_cell (HCR7.out k hlt))).trans (HCR7.out k hlt)
                    have HCT := hide (contains_any (HLI.out.below HBL.out) (k : Int) (by have := HGL.out.2; omega))
                    have HWS := hide (wants_succ bd l k)
                    have HWL := hide (wants_length bd l k)
                    cases hbm : decide ((k : Int) ∈ l) with
                    | false =>
                      rw [hbm] at HCT HWS
                      have HWE : Hid (wants bd l (k + 1) = wants bd l k) := hide (by rw [HWS.out]; simp)
                      clear hbm
                      go_wp2_with fail
                      refine HCT.out.mono ?_
                      rintro r w' ⟨rfl, hw⟩
                      obtain rfl := hw.symm
                      clear HCT
                      go_wp2
                      go_roundw
                      case rel => exact ⟨k + 1, by omega, by go_num, by rw [HWE.out]; exact HO.out, by rw [HWE.out]; exact HNL.out, HBL.out⟩
                      case measure => simp [intOf]; omega
                    | true =>
                      cases hev : ev (bd k) with
                      | false =>
                        rw [hbm] at HCT
                        have hev' : (bits BinOp.and IntKind.i32 (bd k) 1 == 0) = false := hev
                        have HWE : Hid (wants bd l (k + 1) = wants bd l k) := hide (by rw [HWS.out, hbm, hev]; simp)
                        clear hbm hev
                        go_wp2_with fail
                        refine HCT.out.mono ?_
                        rintro r w' ⟨rfl, hw⟩
                        obtain rfl := hw.symm
                        clear HCT
                        go_wp2
                        go_roundw
                        case rel => exact ⟨k + 1, by omega, by go_num, by rw [HWE.out]; exact HO.out, by rw [HWE.out]; exact HNL.out, HBL.out⟩
                        case measure => simp [intOf]; omega
                      | true =>
                        rw [hbm] at HCT
                        have hev' : (bits BinOp.and IntKind.i32 (bd k) 1 == 0) = true := hev
                        have HWE : Hid (wants bd l (k + 1) = wants bd l k ++ [(k : Int)]) := hide (by rw [HWS.out, hbm, hev]; simp)
                        clear hbm hev
                        go_wp2_with fail
                        refine HCT.out.mono ?_
                        rintro r w' ⟨rfl, hw⟩
                        obtain rfl := hw.symm
                        clear HCT
                        go_wp2_with (first | (at_builtin; refine wpList_append_own_at _ rfl (.tmp 183) (.tmp 186) 30 rfl w7.heap.size 21 i1 (.int .i32 0) 1 4 Yba.underlying30 hi hz0 hz1 hz2 rfl (by decide) _ _ _ rfl (HO.out.alloc _) ⟨wr.heap.size, 0, none⟩ 1 1 [.int .i32 (k : Int)] rfl rfl (cell_one_new _ _ _) (ints_oneCell .i32 [(k : Int)]) ?_ ?_ ?_ ?_))
                        · have := HWL.out; unfold maxLen; omega
                        · have := HWL.out; omega
                        · have h1 := HBL.out.size; first | omega | (rw [World.size_alloc]; omega)
                        · intro v'' w'' hown'' hgrow _ _
                          have HR : Hid (Below w7.heap.size w7 w'') := (HBL.out.alloc HBL.out.size _).grown hgrow (by have := HBL.out.size; rw [World.size_alloc]; omega) (fun g hg => (owns_lt HO.out hg).1)
                          have HO' : Hid (w''.ownsRow w7.heap.size 21 1 v'' (wants bd l (k + 1)).length ((wants bd l (k + 1)).map (Value.int .i32))) := by rw [HWE.out, List.length_append, List.map_append]; exact hown''
                          clear hown'' hgrow
                          go_wp2
                          go_roundw
                          case rel => exact ⟨k + 1, by omega, by go_num, HO'.out, fun h => absurd h (by rw [HWE.out]; simp), HR.out⟩
                          case measure => simp [intOf]; omega
                  · obtain rfl : n = k := by omega
                    clear hlt hk
                    have HPQ : Hid (picks bd l = wants bd l n) := picks_eq bd n l HGL.out.1
                    have HBF : Hid (Below w.heap.size w wr) := HB7.out.trans (HBL.out.mono HB7.out.size)
                    by_cases hw0 : wants bd l n = []
                    · obtain rfl := HNL.out hw0
                      obtain rfl := HNIL.out (HPQ.out.trans hw0)
                      have heq := fun x : World => Lib.run_eql_slice_nil (P := Yba.prog) x 30 21 none 0 0 0 0 Yba.underlying30
                      clear hw0
                      go_wp2
                      go_ret
                      exact ⟨rfl, HBF.out⟩
                    · obtain ⟨wa, wc', hu27⟩ : ∃ wa wc', u27 = .slice wa (wants bd l n).length wc' := by
                        obtain ⟨_, ⟨h1, h2⟩ | ⟨g, cap, _, hv, _⟩⟩ := HO.out
                        · exact ⟨none, 0, by rw [h1, h2]⟩
                        · exact ⟨_, _, hv⟩
                      subst hu27
                      have hb0 : (((wants bd l n).length : Int) == 0) = false := by
                        have := List.length_pos_iff.2 hw0
                        simp; omega
                      have HEQ := hide (equal_same (w := wr) (l := wants bd l n) (by rw [← HPQ.out]; exact HGOT.out.below HBL.out) (is_of_owns HO.out) (by have := wants_length bd l n; omega))
                      clear hw0
                      go_wp2_with fail
                      refine HEQ.out.mono ?_
                      rintro r w9 ⟨rfl, kz, rfl⟩
                      clear HEQ
                      go_wp2
                      go_ret
                      exact ⟨rfl, below_drewN HBF.out _⟩
end Go.Proofs.Ybulkbzlg
