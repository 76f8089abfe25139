/-
  Seat b3787a: the walk of 'LawS3787BMemberName' (5).
-/
import Derived.Test.YbulkbzkeParent
namespace Go.Proofs.Ybulkbzke
open Go Go.RowKit
set_option linter.unusedVariables false
set_option linter.unusedSimpArgs false

theorem below_new {w w1 : World} {Z : Obj} (h : Below (w.heap.size + 1) (w.alloc Z) w1) : w1.heap[w.heap.size]? = some Z :=
  (h.block w.heap.size (Nat.lt_succ_self _)).trans (heap_alloc_new w Z)
theorem heap6 (w : World) (a b c d e g : Obj) : (((((w.alloc a).alloc b).alloc c).alloc d).alloc e |>.alloc g).heap[w.heap.size]? = some a ∧ (((((w.alloc a).alloc b).alloc c).alloc d).alloc e |>.alloc g).heap[w.heap.size + 1]? = some b ∧
    (((((w.alloc a).alloc b).alloc c).alloc d).alloc e |>.alloc g).heap[w.heap.size + 1 + 1]? = some c ∧ (((((w.alloc a).alloc b).alloc c).alloc d).alloc e |>.alloc g).heap[w.heap.size + 1 + 1 + 1]? = some d ∧
    (((((w.alloc a).alloc b).alloc c).alloc d).alloc e |>.alloc g).heap[w.heap.size + 1 + 1 + 1 + 1]? = some e ∧ (((((w.alloc a).alloc b).alloc c).alloc d).alloc e |>.alloc g).heap[w.heap.size + 1 + 1 + 1 + 1 + 1]? = some g ∧
    (((((w.alloc a).alloc b).alloc c).alloc d).alloc e |>.alloc g).heap.size = w.heap.size + 1 + 1 + 1 + 1 + 1 + 1 ∧ Below w.heap.size w (((((w.alloc a).alloc b).alloc c).alloc d).alloc e |>.alloc g) := by
  refine ⟨?_, ?_, ?_, ?_, ?_, ?_, ?_, ?_⟩
  · exact below_new ((((((Below.refl _ _).alloc (by simp) _).alloc (by simp) _).alloc (by simp) _).alloc (by simp) _).alloc (by simp) _)
  · have := below_new (w := w.alloc a) (Z := b) (w1 := (((((w.alloc a).alloc b).alloc c).alloc d).alloc e |>.alloc g)) (((((Below.refl _ _).alloc (by simp) _).alloc (by simp) _).alloc (by simp) _).alloc (by simp) _)
    rw [World.size_alloc] at this; exact this
  · have := below_new (w := (w.alloc a).alloc b) (Z := c) (w1 := (((((w.alloc a).alloc b).alloc c).alloc d).alloc e |>.alloc g)) ((((Below.refl _ _).alloc (by simp) _).alloc (by simp) _).alloc (by simp) _)
    rw [World.size_alloc, World.size_alloc] at this; exact this
  · have := below_new (w := ((w.alloc a).alloc b).alloc c) (Z := d) (w1 := (((((w.alloc a).alloc b).alloc c).alloc d).alloc e |>.alloc g)) (((Below.refl _ _).alloc (by simp) _).alloc (by simp) _)
    rw [World.size_alloc, World.size_alloc, World.size_alloc] at this; exact this
  · have := below_new (w := (((w.alloc a).alloc b).alloc c).alloc d) (Z := e) (w1 := (((((w.alloc a).alloc b).alloc c).alloc d).alloc e |>.alloc g)) ((Below.refl _ _).alloc (by simp) _)
    rw [World.size_alloc, World.size_alloc, World.size_alloc, World.size_alloc] at this; exact this
  · have := Go.heap_alloc_new ((((w.alloc a).alloc b).alloc c).alloc d |>.alloc e) g
    rw [World.size_alloc, World.size_alloc, World.size_alloc, World.size_alloc, World.size_alloc] at this; exact this
  · simp
  · exact ((((((Below.refl _ _).alloc (Nat.le_refl _) _).alloc (by simp) _).alloc (by simp; omega) _).alloc (by simp; omega) _).alloc (by simp; omega) _).alloc (by simp; omega) _
/-- The three modules by number: none, A, B. -/
def md (B : Nat) : Nat → Option Addr
  | 1 => some ⟨B, 0, none⟩
  | 2 => some ⟨B + 1, 0, none⟩
  | _ => none
def nmd (a b : ByteArray) : Nat → ByteArray
  | 1 => a
  | 2 => b
  | _ => { data := #[] }
/-- What the loop reads of the blocks that were laid ahead of it. -/
structure Base (w W0 : World) (B : Nat) (nameA nameB : ByteArray) : Prop where
  hA : ∃ ca, W0.heap[B]? = some (.cells ca 45 (0, 0)) ∧ ca[0]? = some (.string nameA)
  hB : ∃ cb, W0.heap[B + 1]? = some (.cells cb 45 (0, 0)) ∧ cb[0]? = some (.string nameB)
  mods : ∀ j, j < 3 → W0.cell? ⟨B + 1 + 1, j, none⟩ = some (.pointer (md B j))
  nms : ∀ j, j < 3 → W0.cell? ⟨B + 1 + 1 + 1, j, none⟩ = some (.string (nmd nameA nameB j))
  kinds : W0.cell? ⟨B + 1 + 1 + 1 + 1, 0, none⟩ = some (.int .i64 0) ∧ W0.cell? ⟨B + 1 + 1 + 1 + 1, 1, none⟩ = some (.int .i64 6) ∧ W0.cell? ⟨B + 1 + 1 + 1 + 1, 2, none⟩ = some (.int .i64 7) ∧ W0.cell? ⟨B + 1 + 1 + 1 + 1, 3, none⟩ = some (.int .i64 3)
  root : Up W0 0 (B + 1 + 1 + 1 + 1 + 1) (B + 1 + 1 + 1 + 1 + 1) ∧ W0.cell? ⟨B + 1 + 1 + 1 + 1 + 1, 2, none⟩ = some (.pointer none)
  size : W0.heap.size = B + 1 + 1 + 1 + 1 + 1 + 1
  bel : Below B w W0

theorem base_of (nameA nameB : ByteArray) (w : World) : Base w ((((((w.alloc (.cells #[.string nameA, .string { data := #[] }, .bool false, .string { data := #[] }, .string { data := #[] }, .string { data := #[] }, .pointer none, .slice none 0 0, .map none, .int .i64 0, .bool false, .pointer none, .slice none 0 0, .pointer none, .map none, .map none, .map none, .map none, .map none] 45)).alloc (.cells #[.string nameB, .string { data := #[] }, .bool false, .string { data := #[] }, .string { data := #[] }, .string { data := #[] }, .pointer none, .slice none 0 0, .map none, .int .i64 0, .bool false, .pointer none, .slice none 0 0, .pointer none, .map none, .map none, .map none, .map none, .map none] 45)).alloc (.cells #[.pointer none, .pointer (some ⟨w.heap.size, 0, none⟩), .pointer (some ⟨w.heap.size + 1, 0, none⟩)] 46)).alloc (.cells #[.string { data := #[] }, .string nameA, .string nameB] 47)).alloc (.cells #[.int .i64 0, .int .i64 6, .int .i64 7, .int .i64 3] 49)).alloc (.cells #[.int .i64 0, .string { data := #[] }, .pointer none, .pointer none, .pointer none, .slice none 0 0, .pointer none, .slice none 0 0, .nilIface, .slice none 0 0, .slice none 0 0, .bool false, .slice none 0 0, .bool false, .slice none 0 0, .bool false, .int .i64 0, .slice none 0 0, .map none, .bool false, .bool false, .slice none 0 0, .slice none 0 0, .pointer none, .slice none 0 0, .map none] 62)) w.heap.size nameA nameB := by
  obtain ⟨h0, h1, h2, h3, h4, h5, hs, hb⟩ := heap6 w (.cells #[.string nameA, .string { data := #[] }, .bool false, .string { data := #[] }, .string { data := #[] }, .string { data := #[] }, .pointer none, .slice none 0 0, .map none, .int .i64 0, .bool false, .pointer none, .slice none 0 0, .pointer none, .map none, .map none, .map none, .map none, .map none] 45) (.cells #[.string nameB, .string { data := #[] }, .bool false, .string { data := #[] }, .string { data := #[] }, .string { data := #[] }, .pointer none, .slice none 0 0, .map none, .int .i64 0, .bool false, .pointer none, .slice none 0 0, .pointer none, .map none, .map none, .map none, .map none, .map none] 45) (.cells #[.pointer none, .pointer (some ⟨w.heap.size, 0, none⟩), .pointer (some ⟨w.heap.size + 1, 0, none⟩)] 46) (.cells #[.string { data := #[] }, .string nameA, .string nameB] 47) (.cells #[.int .i64 0, .int .i64 6, .int .i64 7, .int .i64 3] 49) (.cells #[.int .i64 0, .string { data := #[] }, .pointer none, .pointer none, .pointer none, .slice none 0 0, .pointer none, .slice none 0 0, .nilIface, .slice none 0 0, .slice none 0 0, .bool false, .slice none 0 0, .bool false, .slice none 0 0, .bool false, .int .i64 0, .slice none 0 0, .map none, .bool false, .bool false, .slice none 0 0, .slice none 0 0, .pointer none, .slice none 0 0, .map none] 62)
  refine ⟨⟨_, h0, rfl⟩, ⟨_, h1, rfl⟩, ?_, ?_, ⟨?_, ?_, ?_, ?_⟩, ⟨⟨rfl, 0, ?_, rfl, rfl⟩, ?_⟩, hs, hb⟩
  · intro j hj
    rw [cell_of_row _ _ j _ _ _ h2]
    match j, hj with
    | 0, _ | 1, _ | 2, _ => rfl
  · intro j hj
    rw [cell_of_row _ _ j _ _ _ h3]
    match j, hj with
    | 0, _ | 1, _ | 2, _ => rfl
  · rw [cell_of_row _ _ _ _ _ _ h4]; rfl
  · rw [cell_of_row _ _ _ _ _ _ h4]; rfl
  · rw [cell_of_row _ _ _ _ _ _ h4]; rfl
  · rw [cell_of_row _ _ _ _ _ _ h4]; rfl
  · rw [cell_of_row _ _ _ _ _ _ h5]; rfl
  · rw [cell_of_row _ _ _ _ _ _ h5]; rfl
/-- Where the chain stands: the node in block bp; up from it the node r, of module m. -/
def At (w : World) (B bp m : Nat) : Prop := ∃ d r, Up w d bp r ∧ w.cell? ⟨r, 2, none⟩ = some (.pointer (md B m))
theorem At.below {w w' : World} {B bp m : Nat} (h : At w B bp m) (hb : Below w.heap.size w w') : At w' B bp m := by
  obtain ⟨d, r, hu, hc⟩ := h
  exact ⟨d, r, hu.below hb, (hb.cell (p := ⟨r, 2, none⟩) (block_lt_of_cell hc)).trans hc⟩
/-- A choice or a case is hung below. -/
theorem At.inner {w : World} {B bp m : Nat} (h : At w B bp m) {cs : Array Value} {t : TypeId} {kd : Int} (hk : kd = 6 ∨ kd = 7) (h0 : cs[0]? = some (.int .i64 kd)) (h4 : cs[4]? = some (.pointer (some ⟨bp, 0, none⟩))) : At (w.alloc (.cells cs t)) B w.heap.size m := by
  obtain ⟨d, r, hu, hc⟩ := h.below (w' := w.alloc (.cells cs t)) ((Below.refl _ _).alloc (Nat.le_refl _) _)
  refine ⟨d + 1, r, ⟨kd, bp, ?_, hk, ?_, hu⟩, hc⟩
  · rw [cell_of_row _ _ _ _ _ _ (heap_alloc_new w _)]; exact h0
  · rw [cell_of_row _ _ _ _ _ _ (heap_alloc_new w _)]; exact h4
/-- A container or a list is hung below. -/
theorem at_outer {w : World} {B m : Nat} {cs : Array Value} {t : TypeId} {kd : Int} (h6 : (kd == 6) = false) (h7 : (kd == 7) = false) (h0 : cs[0]? = some (.int .i64 kd)) (h2 : cs[2]? = some (.pointer (md B m))) : At (w.alloc (.cells cs t)) B w.heap.size m := by
  refine ⟨0, w.heap.size, ⟨rfl, kd, ?_, h6, h7⟩, ?_⟩
  · rw [cell_of_row _ _ _ _ _ _ (heap_alloc_new w _)]; exact h0
  · rw [cell_of_row _ _ _ _ _ _ (heap_alloc_new w _)]; exact h2

/-- 'memberName' of the leaf: bare where its parent's module is its own, else qualified. -/
theorem member_at {W : World} {B n bp m si : Nat} {name nameA nameB : ByteArray} (hA : ∃ ca, W.heap[B]? = some (.cells ca 45 (0, 0)) ∧ ca[0]? = some (.string nameA)) (hB : ∃ cb, W.heap[B + 1]? = some (.cells cb 45 (0, 0)) ∧ cb[0]? = some (.string nameB))
    (hm : m < 3) (hsi : si = 1 ∨ si = 2) (hat : At W B bp m) (c1 : W.cell? ⟨n, 1, none⟩ = some (.string name)) (c2 : W.cell? ⟨n, 2, none⟩ = some (.pointer (md B si))) (c4 : W.cell? ⟨n, 4, none⟩ = some (.pointer (some ⟨bp, 0, none⟩)))
    (hsz : (nmd nameA nameB si).size + 1 + name.size ≤ 9223372036854775807) :
    Calls Yba.prog 12 #[.pointer (some ⟨n, 0, none⟩)] W fun e w' => e = .returned (.string (if m = si then name else nmd nameA nameB si ++ { data := #[58] } ++ name)) ∧ ∃ k, w' = W.drewN k := by
  obtain ⟨d, r, hu, hr⟩ := hat
  obtain ⟨ca, hA1, hA2⟩ := hA
  obtain ⟨cb, hB1, hB2⟩ := hB
  have eA : W.cell? ⟨B, 0, none⟩ = some (.string nameA) := by rw [cell_of_row _ _ _ _ _ _ hA1]; exact hA2
  have eB : W.cell? ⟨B + 1, 0, none⟩ = some (.string nameB) := by rw [cell_of_row _ _ _ _ _ _ hB1]; exact hB2
  have neAB : (⟨B, 0, none⟩ : Addr) ≠ ⟨B + 1, 0, none⟩ := by intro e; have := congrArg Addr.block e; simp at this
  have n1 : nmd nameA nameB 1 = nameA := rfl
  have n2 : nmd nameA nameB 2 = nameB := rfl
  have h3 : m = 0 ∨ m = 1 ∨ m = 2 := by omega
  rcases hsi with rfl | rfl
  · rw [n1] at hsz ⊢
    by_cases e : m = 1
    · subst e
      rw [if_pos rfl]
      exact member_same n bp r d B W name c4 hu c1 c2 hr (fun k => run_neq_of (run_equal_ptr_same Yba.underlying33 size45 _ _))
    · rw [if_neg e]
      refine member_other n bp r d B (md B m) W name nameA c4 hu c1 c2 hr (fun k => ?_) eA (hide hsz)
      rcases h3 with rfl | rfl | rfl
      · exact run_neq_of (run_equal_nil_ptr Yba.underlying33 _ _)
      · exact absurd rfl e
      · have h : (Op.equal 33 (.pointer (some ⟨B + 1, 0, none⟩)) (.pointer (some ⟨B, 0, none⟩))).run Yba.prog (W.drewN k) = .ok false (W.drewN k) := run_equal_ptr_other (P := Yba.prog) (t := 33) (e := 45) Yba.underlying33 size45 (a := ⟨B + 1, 0, none⟩) (b := ⟨B, 0, none⟩) (W.drewN k) neAB.symm (ca := cb) (cb := ca) (ta := 45) (tb := 45) hB1 hA1
        exact run_neq_of h
  · rw [n2] at hsz ⊢
    by_cases e : m = 2
    · subst e
      rw [if_pos rfl]
      exact member_same n bp r d (B + 1) W name c4 hu c1 c2 hr (fun k => run_neq_of (run_equal_ptr_same Yba.underlying33 size45 _ _))
    · rw [if_neg e]
      refine member_other n bp r d (B + 1) (md B m) W name nameB c4 hu c1 c2 hr (fun k => ?_) eB (hide hsz)
      rcases h3 with rfl | rfl | rfl
      · exact run_neq_of (run_equal_nil_ptr Yba.underlying33 _ _)
      · have h : (Op.equal 33 (.pointer (some ⟨B, 0, none⟩)) (.pointer (some ⟨B + 1, 0, none⟩))).run Yba.prog (W.drewN k) = .ok false (W.drewN k) := run_equal_ptr_other (P := Yba.prog) (t := 33) (e := 45) Yba.underlying33 size45 (a := ⟨B, 0, none⟩) (b := ⟨B + 1, 0, none⟩) (W.drewN k) neAB (ca := ca) (cb := cb) (ta := 45) (tb := 45) hA1 hB1
        exact run_neq_of h
      · exact absurd rfl e

set_option maxRecDepth 100000 in
set_option maxHeartbeats 4000000 in
theorem walk_any (name nameA nameB : ByteArray) (a : Option Addr) (b off len cap : Nat) (zs : List Int) (self : Int) (w : World) (hl : len ≤ 1024) (hself : 0 ≤ self ∧ self ≤ 255)
    (ha : Hid (0 < len → a = some ⟨b, off, none⟩)) (hb : Hid (0 < len → b < w.heap.size)) (hc : Hid (∀ j, j < len → w.cell? ⟨b, off + j, none⟩ = some (.int .u8 (zs.getD j 0)))) (hz : Hid (∀ j, 0 ≤ zs.getD j 0 ∧ zs.getD j 0 ≤ 255))
    (hsA : Hid (nameA.size + 1 + name.size ≤ 9223372036854775807)) (hsB : Hid (nameB.size + 1 + name.size ≤ 9223372036854775807)) :
    Calls Yba.prog 5 #[.string name, .string nameA, .string nameB, .slice a len cap, .int .u8 self] w fun e w' => e = .returned (.bool true) ∧ Below w.heap.size w w' := by
  go_enter Yba.func5, Yba.ntmps5
  go_wp2
  have HB := hide (base_of nameA nameB w)
  generalize ((((((w.alloc (.cells #[.string nameA, .string { data := #[] }, .bool false, .string { data := #[] }, .string { data := #[] }, .string { data := #[] }, .pointer none, .slice none 0 0, .map none, .int .i64 0, .bool false, .pointer none, .slice none 0 0, .pointer none, .map none, .map none, .map none, .map none, .map none] 45)).alloc (.cells #[.string nameB, .string { data := #[] }, .bool false, .string { data := #[] }, .string { data := #[] }, .string { data := #[] }, .pointer none, .slice none 0 0, .map none, .int .i64 0, .bool false, .pointer none, .slice none 0 0, .pointer none, .map none, .map none, .map none, .map none, .map none] 45)).alloc (.cells #[.pointer none, .pointer (some ⟨w.heap.size, 0, none⟩), .pointer (some ⟨w.heap.size + 1, 0, none⟩)] 46)).alloc (.cells #[.string { data := #[] }, .string nameA, .string nameB] 47)).alloc (.cells #[.int .i64 0, .int .i64 6, .int .i64 7, .int .i64 3] 49)).alloc (.cells #[.int .i64 0, .string { data := #[] }, .pointer none, .pointer none, .pointer none, .slice none 0 0, .pointer none, .slice none 0 0, .nilIface, .slice none 0 0, .slice none 0 0, .bool false, .slice none 0 0, .bool false, .slice none 0 0, .bool false, .int .i64 0, .slice none 0 0, .map none, .bool false, .bool false, .slice none 0 0, .slice none 0 0, .pointer none, .slice none 0 0, .map none] 62)) = W0 at HB ⊢
  obtain ⟨B, hBdef⟩ : ∃ B, w.heap.size = B := ⟨_, rfl⟩
  rw [hBdef] at HB ⊢
  have HBD := hide hBdef
  clear hBdef
  go_loopw [16, 17, 46] (fun p dp i wr => ∃ k : Nat, k ≤ len ∧ i = .int .i64 k ∧ ∃ bp m : Nat, p = .pointer (some ⟨bp, 0, none⟩) ∧ dp = .int .i64 m ∧ m < 3 ∧ At wr B bp m ∧ Below W0.heap.size W0 wr)
    (fun _ _ i _ => len - (intOf i).toNat)
  case atStart => exact ⟨0, Nat.zero_le _, rfl, _, 0, rfl, rfl, by decide, ⟨0, _, HB.out.root.1, HB.out.root.2⟩, Below.refl _ _⟩
  case round =>
    obtain ⟨k, hk, rfl, bp, m, rfl, rfl, hm3, hat, hnx⟩ := hrel
    have HAT := hide hat
    have HNX := hide hnx
    clear hat hnx
    by_cases hlt : k < len
    · have hlen : 0 < len := by omega
      obtain rfl := ha.out hlen
      have hcz := hz.out k
      have hcell : wr.cell? ⟨b, off + k, none⟩ = some (.int .u8 (zs.getD k 0)) := (HNX.out.cell (by have := hb.out hlen; have := HB.out.size; have := HBD.out; show b < _; omega)).trans ((HB.out.bel.cell (by have := hb.out hlen; have := HBD.out; show b < B; omega)).trans (hc.out k hlt))
      obtain ⟨c, hcd⟩ : ∃ c, c = zs.getD k 0 := ⟨_, rfl⟩
      rw [← hcd] at hcell hcz
      clear hcd
      obtain ⟨h0, h255⟩ := hcz
      obtain ⟨mi, hmi, hmi3⟩ : ∃ mi : Nat, c / 4 % 3 = (mi : Int) ∧ mi < 3 := ⟨(c / 4 % 3).toNat, by omega, by omega⟩
      have hS : ∀ p : Addr, p.block < B + 1 + 1 + 1 + 1 + 1 + 1 → wr.cell? p = W0.cell? p := fun p hp => HNX.out.cell (by rw [HB.out.size]; exact hp)
      have hmod : wr.cell? ⟨B + 1 + 1, mi, none⟩ = some (.pointer (md B mi)) := (hS _ (by show B + 1 + 1 < _; omega)).trans (HB.out.mods mi hmi3)
      obtain ⟨mv, hmv⟩ : ∃ mv, md B mi = mv := ⟨_, rfl⟩
      rw [hmv] at hmod
      have HMV := hide hmv
      clear hmv
      have HS := hide hS
      clear hS
      have h4 : c % 4 = 0 ∨ c % 4 = 1 ∨ c % 4 = 2 ∨ c % 4 = 3 := by omega
      have hki : (k : Int) < len := by omega
      rcases h4 with h4 | h4 | h4 | h4
      · have hkd : wr.cell? ⟨B + 1 + 1 + 1 + 1, 0, none⟩ = some (.int .i64 0) := (HS.out _ (by show B + 1 + 1 + 1 + 1 < _; omega)).trans HB.out.kinds.1
        go_wp2
        go_roundw
        case rel => exact ⟨k + 1, by omega, by go_num, wr.heap.size, mi, rfl, by rw [hmi], hmi3, at_outer rfl rfl rfl (by rw [HMV.out]; rfl), HNX.out.alloc HNX.out.size _⟩
        case measure => simp [intOf]; omega
      · have hkd : wr.cell? ⟨B + 1 + 1 + 1 + 1, 1, none⟩ = some (.int .i64 6) := (HS.out _ (by show B + 1 + 1 + 1 + 1 < _; omega)).trans HB.out.kinds.2.1
        go_wp2
        go_roundw
        case rel => exact ⟨k + 1, by omega, by go_num, wr.heap.size, m, rfl, rfl, hm3, HAT.out.inner (kd := 6) (by decide) rfl rfl, HNX.out.alloc HNX.out.size _⟩
        case measure => simp [intOf]; omega
      · have hkd : wr.cell? ⟨B + 1 + 1 + 1 + 1, 2, none⟩ = some (.int .i64 7) := (HS.out _ (by show B + 1 + 1 + 1 + 1 < _; omega)).trans HB.out.kinds.2.2.1
        go_wp2
        go_roundw
        case rel => exact ⟨k + 1, by omega, by go_num, wr.heap.size, m, rfl, rfl, hm3, HAT.out.inner (kd := 7) (by decide) rfl rfl, HNX.out.alloc HNX.out.size _⟩
        case measure => simp [intOf]; omega
      · have hkd : wr.cell? ⟨B + 1 + 1 + 1 + 1, 3, none⟩ = some (.int .i64 3) := (HS.out _ (by show B + 1 + 1 + 1 + 1 < _; omega)).trans HB.out.kinds.2.2.2
        go_wp2
        go_roundw
        case rel => exact ⟨k + 1, by omega, by go_num, wr.heap.size, mi, rfl, by rw [hmi], hmi3, at_outer rfl rfl rfl (by rw [HMV.out]; rfl), HNX.out.alloc HNX.out.size _⟩
        case measure => simp [intOf]; omega
    · obtain rfl : k = len := by omega
      have hS : ∀ p : Addr, p.block < B + 1 + 1 + 1 + 1 + 1 + 1 → wr.cell? p = W0.cell? p := fun p hp => HNX.out.cell (by rw [HB.out.size]; exact hp)
      have HBW : Hid (Below w.heap.size w wr) := (HB.out.bel.mono (by rw [HBD.out]; exact Nat.le_refl _)).trans (HNX.out.mono (by have := HB.out.size; have := HBD.out; omega))
      have HS := hide hS
      clear hS hlt hk
      obtain ⟨si, hsi, hsi1, hsi2⟩ : ∃ si : Nat, self % 2 + 1 = (si : Int) ∧ 1 ≤ si ∧ si ≤ 2 := ⟨(self % 2 + 1).toNat, by omega, by omega, by omega⟩
      have he33 := fun (q : Addr) (x : World) => run_eql_of (run_equal_ptr_same Yba.underlying33 size45 q x)
      have he50 := fun (q : Addr) (x : World) => run_eql_of (run_equal_ptr_same Yba.underlying50 size62 q x)
      have hss : self % 2 = 0 ∨ self % 2 = 1 := by omega
      rcases hss with hss | hss
      · have hmod : wr.cell? ⟨B + 1 + 1, 1, none⟩ = some (.pointer (some ⟨B, 0, none⟩)) := (HS.out _ (by show B + 1 + 1 < _; omega)).trans (HB.out.mods 1 (by decide))
        go_wp2_with fail
        have hb1 : Below wr.heap.size wr (wr.alloc (.cells #[.int .i64 1, .string name, .pointer (some ⟨B, 0, none⟩), .pointer none, .pointer (some ⟨bp, 0, none⟩), .slice none 0 0, .pointer none, .slice none 0 0, .nilIface, .slice none 0 0, .slice none 0 0, .bool false, .slice none 0 0, .bool false, .slice none 0 0, .bool false, .int .i64 0, .slice none 0 0, .map none, .bool false, .bool false, .slice none 0 0, .slice none 0 0, .pointer none, .slice none 0 0, .map none] 62)) := (Below.refl _ _).alloc (Nat.le_refl _) _
        have c1 : (wr.alloc (.cells #[.int .i64 1, .string name, .pointer (some ⟨B, 0, none⟩), .pointer none, .pointer (some ⟨bp, 0, none⟩), .slice none 0 0, .pointer none, .slice none 0 0, .nilIface, .slice none 0 0, .slice none 0 0, .bool false, .slice none 0 0, .bool false, .slice none 0 0, .bool false, .int .i64 0, .slice none 0 0, .map none, .bool false, .bool false, .slice none 0 0, .slice none 0 0, .pointer none, .slice none 0 0, .map none] 62)).cell? ⟨wr.heap.size, 1, none⟩ = some (.string name) := by rw [cell_of_row _ _ _ _ _ _ (heap_alloc_new wr _)]; rfl
        have c2 : (wr.alloc (.cells #[.int .i64 1, .string name, .pointer (some ⟨B, 0, none⟩), .pointer none, .pointer (some ⟨bp, 0, none⟩), .slice none 0 0, .pointer none, .slice none 0 0, .nilIface, .slice none 0 0, .slice none 0 0, .bool false, .slice none 0 0, .bool false, .slice none 0 0, .bool false, .int .i64 0, .slice none 0 0, .map none, .bool false, .bool false, .slice none 0 0, .slice none 0 0, .pointer none, .slice none 0 0, .map none] 62)).cell? ⟨wr.heap.size, 2, none⟩ = some (.pointer (some ⟨B, 0, none⟩)) := by rw [cell_of_row _ _ _ _ _ _ (heap_alloc_new wr _)]; rfl
        have c4 : (wr.alloc (.cells #[.int .i64 1, .string name, .pointer (some ⟨B, 0, none⟩), .pointer none, .pointer (some ⟨bp, 0, none⟩), .slice none 0 0, .pointer none, .slice none 0 0, .nilIface, .slice none 0 0, .slice none 0 0, .bool false, .slice none 0 0, .bool false, .slice none 0 0, .bool false, .int .i64 0, .slice none 0 0, .map none, .bool false, .bool false, .slice none 0 0, .slice none 0 0, .pointer none, .slice none 0 0, .map none] 62)).cell? ⟨wr.heap.size, 4, none⟩ = some (.pointer (some ⟨bp, 0, none⟩)) := by rw [cell_of_row _ _ _ _ _ _ (heap_alloc_new wr _)]; rfl
        generalize (wr.alloc (.cells #[.int .i64 1, .string name, .pointer (some ⟨B, 0, none⟩), .pointer none, .pointer (some ⟨bp, 0, none⟩), .slice none 0 0, .pointer none, .slice none 0 0, .nilIface, .slice none 0 0, .slice none 0 0, .bool false, .slice none 0 0, .bool false, .slice none 0 0, .bool false, .int .i64 0, .slice none 0 0, .map none, .bool false, .bool false, .slice none 0 0, .slice none 0 0, .pointer none, .slice none 0 0, .map none] 62)) = W1 at hb1 c1 c2 c4 ⊢
        have hsz1 : B + 1 + 1 + 1 + 1 + 1 + 1 ≤ wr.heap.size := by have h1 := HNX.out.size; have h2 := HB.out.size; omega
        have cM : W1.cell? ⟨B + 1 + 1, 1, none⟩ = some (.pointer (some ⟨B, 0, none⟩)) := (hb1.cell (by show B + 1 + 1 < _; omega)).trans hmod
        have cN : W1.cell? ⟨B + 1 + 1 + 1, 1, none⟩ = some (.string nameA) := (hb1.cell (by show B + 1 + 1 + 1 < _; omega)).trans ((HS.out _ (by show B + 1 + 1 + 1 < _; omega)).trans (HB.out.nms 1 (by decide)))
        have HHA : Hid (∃ ca, W1.heap[B]? = some (.cells ca 45 (0, 0)) ∧ ca[0]? = some (.string nameA)) := by
          obtain ⟨ca, h1, h2⟩ := HB.out.hA
          exact ⟨ca, (hb1.block B (by omega)).trans ((HNX.out.block B (by rw [HB.out.size]; omega)).trans h1), h2⟩
        have HHB : Hid (∃ cb, W1.heap[B + 1]? = some (.cells cb 45 (0, 0)) ∧ cb[0]? = some (.string nameB)) := by
          obtain ⟨cb, h1, h2⟩ := HB.out.hB
          exact ⟨cb, (hb1.block (B + 1) (by omega)).trans ((HNX.out.block (B + 1) (by rw [HB.out.size]; omega)).trans h1), h2⟩
        have HMC := hide (member_at (si := 1) HHA.out HHB.out hm3 (by decide) (HAT.out.below hb1) c1 c2 c4 hsA.out)
        have HB1 := hide hb1
        clear hb1 hmod HS
        by_cases hmm : m = 1
        · subst hmm
          refine (HMC.out).mono ?_
          rintro e w2 ⟨he, kq, rfl⟩
          rw [if_pos rfl] at he
          subst he
          clear HMC
          go_wp2
          go_quiet (fail)
          go_wp2
          go_ret
          exact ⟨rfl, below_drewN (below_drewN ((HBW.out).trans (HB1.out.mono HBW.out.size)) _) _⟩
        · have s1 := fun x => run_string_add_sum (P := Yba.prog) x nameA { data := #[58] } (by have := hsA.out; show _ + 1 ≤ _; omega)
          have s2 := fun x => run_string_add_sum (P := Yba.prog) x (nameA ++ { data := #[58] }) name (by have := hsA.out; rw [ByteArray.size_append]; exact this)
          have hb : ((m : Int) != 1) = true := by simp; omega
          refine (HMC.out).mono ?_
          rintro e w2 ⟨he, kq, rfl⟩
          rw [if_neg hmm, show nmd nameA nameB 1 = nameA from rfl] at he
          subst he
          clear HMC hmm
          go_wp2
          go_quiet (fail)
          go_wp2
          go_ret
          exact ⟨rfl, below_drewN (below_drewN ((HBW.out).trans (HB1.out.mono HBW.out.size)) _) _⟩
      · have hmod : wr.cell? ⟨B + 1 + 1, 2, none⟩ = some (.pointer (some ⟨B + 1, 0, none⟩)) := (HS.out _ (by show B + 1 + 1 < _; omega)).trans (HB.out.mods 2 (by decide))
        go_wp2_with fail
        have hb1 : Below wr.heap.size wr (wr.alloc (.cells #[.int .i64 1, .string name, .pointer (some ⟨B + 1, 0, none⟩), .pointer none, .pointer (some ⟨bp, 0, none⟩), .slice none 0 0, .pointer none, .slice none 0 0, .nilIface, .slice none 0 0, .slice none 0 0, .bool false, .slice none 0 0, .bool false, .slice none 0 0, .bool false, .int .i64 0, .slice none 0 0, .map none, .bool false, .bool false, .slice none 0 0, .slice none 0 0, .pointer none, .slice none 0 0, .map none] 62)) := (Below.refl _ _).alloc (Nat.le_refl _) _
        have c1 : (wr.alloc (.cells #[.int .i64 1, .string name, .pointer (some ⟨B + 1, 0, none⟩), .pointer none, .pointer (some ⟨bp, 0, none⟩), .slice none 0 0, .pointer none, .slice none 0 0, .nilIface, .slice none 0 0, .slice none 0 0, .bool false, .slice none 0 0, .bool false, .slice none 0 0, .bool false, .int .i64 0, .slice none 0 0, .map none, .bool false, .bool false, .slice none 0 0, .slice none 0 0, .pointer none, .slice none 0 0, .map none] 62)).cell? ⟨wr.heap.size, 1, none⟩ = some (.string name) := by rw [cell_of_row _ _ _ _ _ _ (heap_alloc_new wr _)]; rfl
        have c2 : (wr.alloc (.cells #[.int .i64 1, .string name, .pointer (some ⟨B + 1, 0, none⟩), .pointer none, .pointer (some ⟨bp, 0, none⟩), .slice none 0 0, .pointer none, .slice none 0 0, .nilIface, .slice none 0 0, .slice none 0 0, .bool false, .slice none 0 0, .bool false, .slice none 0 0, .bool false, .int .i64 0, .slice none 0 0, .map none, .bool false, .bool false, .slice none 0 0, .slice none 0 0, .pointer none, .slice none 0 0, .map none] 62)).cell? ⟨wr.heap.size, 2, none⟩ = some (.pointer (some ⟨B + 1, 0, none⟩)) := by rw [cell_of_row _ _ _ _ _ _ (heap_alloc_new wr _)]; rfl
        have c4 : (wr.alloc (.cells #[.int .i64 1, .string name, .pointer (some ⟨B + 1, 0, none⟩), .pointer none, .pointer (some ⟨bp, 0, none⟩), .slice none 0 0, .pointer none, .slice none 0 0, .nilIface, .slice none 0 0, .slice none 0 0, .bool false, .slice none 0 0, .bool false, .slice none 0 0, .bool false, .int .i64 0, .slice none 0 0, .map none, .bool false, .bool false, .slice none 0 0, .slice none 0 0, .pointer none, .slice none 0 0, .map none] 62)).cell? ⟨wr.heap.size, 4, none⟩ = some (.pointer (some ⟨bp, 0, none⟩)) := by rw [cell_of_row _ _ _ _ _ _ (heap_alloc_new wr _)]; rfl
        generalize (wr.alloc (.cells #[.int .i64 1, .string name, .pointer (some ⟨B + 1, 0, none⟩), .pointer none, .pointer (some ⟨bp, 0, none⟩), .slice none 0 0, .pointer none, .slice none 0 0, .nilIface, .slice none 0 0, .slice none 0 0, .bool false, .slice none 0 0, .bool false, .slice none 0 0, .bool false, .int .i64 0, .slice none 0 0, .map none, .bool false, .bool false, .slice none 0 0, .slice none 0 0, .pointer none, .slice none 0 0, .map none] 62)) = W1 at hb1 c1 c2 c4 ⊢
        have hsz1 : B + 1 + 1 + 1 + 1 + 1 + 1 ≤ wr.heap.size := by have h1 := HNX.out.size; have h2 := HB.out.size; omega
        have cM : W1.cell? ⟨B + 1 + 1, 2, none⟩ = some (.pointer (some ⟨B + 1, 0, none⟩)) := (hb1.cell (by show B + 1 + 1 < _; omega)).trans hmod
        have cN : W1.cell? ⟨B + 1 + 1 + 1, 2, none⟩ = some (.string nameB) := (hb1.cell (by show B + 1 + 1 + 1 < _; omega)).trans ((HS.out _ (by show B + 1 + 1 + 1 < _; omega)).trans (HB.out.nms 2 (by decide)))
        have HHA : Hid (∃ ca, W1.heap[B]? = some (.cells ca 45 (0, 0)) ∧ ca[0]? = some (.string nameA)) := by
          obtain ⟨ca, h1, h2⟩ := HB.out.hA
          exact ⟨ca, (hb1.block B (by omega)).trans ((HNX.out.block B (by rw [HB.out.size]; omega)).trans h1), h2⟩
        have HHB : Hid (∃ cb, W1.heap[B + 1]? = some (.cells cb 45 (0, 0)) ∧ cb[0]? = some (.string nameB)) := by
          obtain ⟨cb, h1, h2⟩ := HB.out.hB
          exact ⟨cb, (hb1.block (B + 1) (by omega)).trans ((HNX.out.block (B + 1) (by rw [HB.out.size]; omega)).trans h1), h2⟩
        have HMC := hide (member_at (si := 2) HHA.out HHB.out hm3 (by decide) (HAT.out.below hb1) c1 c2 c4 hsB.out)
        have HB1 := hide hb1
        clear hb1 hmod HS
        by_cases hmm : m = 2
        · subst hmm
          refine (HMC.out).mono ?_
          rintro e w2 ⟨he, kq, rfl⟩
          rw [if_pos rfl] at he
          subst he
          clear HMC
          go_wp2
          go_quiet (fail)
          go_wp2
          go_ret
          exact ⟨rfl, below_drewN (below_drewN ((HBW.out).trans (HB1.out.mono HBW.out.size)) _) _⟩
        · have s1 := fun x => run_string_add_sum (P := Yba.prog) x nameB { data := #[58] } (by have := hsB.out; show _ + 1 ≤ _; omega)
          have s2 := fun x => run_string_add_sum (P := Yba.prog) x (nameB ++ { data := #[58] }) name (by have := hsB.out; rw [ByteArray.size_append]; exact this)
          have hb : ((m : Int) != 2) = true := by simp; omega
          refine (HMC.out).mono ?_
          rintro e w2 ⟨he, kq, rfl⟩
          rw [if_neg hmm, show nmd nameA nameB 2 = nameB from rfl] at he
          subst he
          clear HMC hmm
          go_wp2
          go_quiet (fail)
          go_wp2
          go_ret
          exact ⟨rfl, below_drewN (below_drewN ((HBW.out).trans (HB1.out.mono HBW.out.size)) _) _⟩
end Go.Proofs.Ybulkbzke
