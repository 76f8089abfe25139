/-
  Seat b3784aD: the walk of 'LawS3784AValid' (4), for each of the three sign words; the tables stand as variables, with what is known of them.
-/
import Derived.Test.YbulkbzioDoorBases
import Derived.Test.YbulkbzioDoorMap
import Derived.Test.YbulkbzioDoorSpec
import Derived.BigQuiet
import Derived.Deep.QuietTactic
import Derived.WalkSmall
namespace Go.Proofs.YbulkbzioDoor
open Go Go.RowKit
set_option linter.unusedVariables false
set_option linter.unusedSimpArgs false

theorem hide {p : Prop} (h : p) : Hid p := h
/-- A whole value into the block that was made last. -/
theorem wpList_store_last {P : Program} {ops : Array Oper} {rest : List Oper} {o : Oper} {a : Act} {Q : Exit → Act → World → Prop} {w : World} (hgd : o.guard = none) (ty : TypeId) (x y : Operand) (ho : o.op = .store ty x y)
    (W : World) (n : Nat) (hn : n = W.heap.size) (cs cs' : Array Value) (t : TypeId) (hx : a.eval x = .pointer (some ⟨n, 0, none⟩)) (hy : a.eval y = .agg cs') (hi : (P.info? ty).map (·.size) = some cs'.size)
    (hold : cs.size = cs'.size) (h1 : cs'.all (·.oneCell') = true) (hw : w = W.alloc (.cells cs t)) (h : wpList P ops Q rest (a.put o.dst undef) (W.alloc (.cells cs' t))) : wpList P ops Q (o :: rest) a w := by
  subst hn hw
  refine wpList_store_row hgd ty x y ho W.heap.size cs' hx hy t cs (Go.heap_alloc_new W _) hi hold h1 ?_
  rw [World.setRow_alloc_new]
  exact h
theorem wpList_load_row_at {P : Program} {ops : Array Oper} {rest : List Oper} {op : Oper} {a : Act} {w : World} {Q : Exit → Act → World → Prop} (hgd : op.guard = none) (ty : TypeId) (x : Operand) (ho : op.op = .load ty x)
    (b o : Nat) (hx : a.eval x = .pointer (some ⟨b, o, none⟩)) (cs : Array Value) (d : TypeDesc) (hc : w.rangeAt b o cs.toList)
    (hu : P.underlying ty = some d) (hd : d.isRow = true) (hi : (P.info? ty).map (·.size) = some cs.size)
    (h : wpList P ops Q rest (a.put op.dst (.agg cs)) w) : wpList P ops Q (op :: rest) a w :=
  wpList_load_mid hgd ty x ho b o hx cs.toList d hc hu hd (by simpa using hi) (by simpa using h)

theorem heap6 (w1 : World) (a b c d e g : Obj) : ((((((w1.alloc a).alloc b).alloc c).alloc d).alloc e).alloc g).heap[w1.heap.size + 1]? = some b ∧
    ((((((w1.alloc a).alloc b).alloc c).alloc d).alloc e).alloc g).heap[w1.heap.size + 1 + 1 + 1]? = some d ∧
    ((((((w1.alloc a).alloc b).alloc c).alloc d).alloc e).alloc g).heap[w1.heap.size + 1 + 1 + 1 + 1]? = some e ∧
    ((((((w1.alloc a).alloc b).alloc c).alloc d).alloc e).alloc g).heap.size = w1.heap.size + 1 + 1 + 1 + 1 + 1 + 1 ∧
    Below w1.heap.size w1 ((((((w1.alloc a).alloc b).alloc c).alloc d).alloc e).alloc g) := by
  refine ⟨?_, ?_, ?_, ?_, ?_⟩
  · have := below_new (w := w1.alloc a) (Z := b) (w1 := ((((((w1.alloc a).alloc b).alloc c).alloc d).alloc e).alloc g)) (((((Below.refl _ _).alloc (by simp) _).alloc (by simp) _).alloc (by simp) _).alloc (by simp) _)
    rw [World.size_alloc] at this; exact this
  · have := below_new (w := ((w1.alloc a).alloc b).alloc c) (Z := d) (w1 := ((((((w1.alloc a).alloc b).alloc c).alloc d).alloc e).alloc g)) (((Below.refl _ _).alloc (by simp) _).alloc (by simp) _)
    rw [World.size_alloc, World.size_alloc, World.size_alloc] at this; exact this
  · have := below_new (w := (((w1.alloc a).alloc b).alloc c).alloc d) (Z := e) (w1 := ((((((w1.alloc a).alloc b).alloc c).alloc d).alloc e).alloc g)) ((Below.refl _ _).alloc (by simp) _)
    rw [World.size_alloc, World.size_alloc, World.size_alloc, World.size_alloc] at this; exact this
  · simp
  · exact ((((((Below.refl _ _).alloc (Nat.le_refl _) _).alloc (by simp) _).alloc (by simp; omega) _).alloc (by simp; omega) _).alloc (by simp; omega) _).alloc (by simp; omega) _
/-- Is x among the first k words? -/
def seen (f : Nat → ByteArray) (x : ByteArray) (k : Nat) : Bool := (List.range k).any fun j => (f j).toList == x.toList
theorem seen_hit {f : Nat → ByteArray} {x : ByteArray} {k : Nat} (h : ((f k).toList == x.toList) = true) : seen f x (k + 1) = true := by
  unfold seen; rw [List.range_succ, List.any_append]; simp [h]
theorem seen_miss {f : Nat → ByteArray} {x : ByteArray} {k : Nat} (h : ((f k).toList == x.toList) = false) : seen f x (k + 1) = seen f x k := by
  unfold seen; rw [List.range_succ, List.any_append]; simp [h]
theorem seen_not {f : Nat → ByteArray} {x : ByteArray} {n : Nat} (h : seen f x n = false) (j : Nat) (hj : j < n) : f j ≠ x := by
  intro e
  unfold seen at h
  rw [List.any_eq_false] at h
  exact h j (List.mem_range.2 hj) (by rw [e]; simp)
theorem Glob.below {w w' : World} (h : Glob w) (hb : Below w.heap.size w w') : Glob w' := fun g hg => by
  obtain ⟨t, fr, e⟩ := h g hg
  exact ⟨t, fr, (hb.block g (h.lt hg)).trans e⟩
/-- The seven counts behind the map are what 'specifiedType' reads. -/
theorem env_of {w : World} {bm n : Nat} {f : Nat → Int} (h : HoldsAt w bm n f) (hg : Glob w) : Env w bm (f 0) (f 1) (f 2) (f 3) (f 4) (f 5) (f 6) where
  lt := h.lt
  gl := hg
  ks x hx := h.look (j := 0) (by decide) x hx
  ku x hx := h.look (j := 1) (by decide) x hx
  kc x hx := h.look (j := 2) (by decide) x hx
  ksh x hx := h.look (j := 3) (by decide) x hx
  ki x hx := h.look (j := 4) (by decide) x hx
  kl x hx := h.look (j := 5) (by decide) x hx
  kb x hx := h.look (j := 6) (by decide) x hx
/-- One store more. -/
theorem step_put {cs : Nat → Int} {k : Nat} {w : World} {bm n : Nat} (h : HoldsAt w bm n (fun i => if i = k then cs k else if i < k then cs i else 0)) : HoldsAt w bm n (fun i => if i < k + 1 then cs i else 0) :=
  h.congr fun i _ => by
    by_cases e : i = k
    · subst e; simp
    · simp only [e, if_false]
      by_cases l : i < k
      · rw [if_pos l, if_pos (by omega)]
      · rw [if_neg l, if_neg (by omega)]
theorem step_none {cs : Nat → Int} {k : Nat} {w : World} {bm n : Nat} (h : HoldsAt w bm n (fun i => if i < k then cs i else 0)) (hz : cs k = 0) : HoldsAt w bm n (fun i => if i < k + 1 then cs i else 0) :=
  h.congr fun i _ => by
    by_cases e : i = k
    · subst e; simp [hz]
    · by_cases l : i < k
      · rw [if_pos l, if_pos (by omega)]
      · rw [if_neg l, if_neg (by omega)]

def cs0 (r0 r1 r2 r3 r4 : Int) (j : Nat) : Int := ([0, 0, r0, r1, r2, r3, r4] : List Int).getD j 0
set_option maxRecDepth 100000 in
set_option maxHeartbeats 4000000 in
theorem valid_0 (base sign xv : Int) (x : ByteArray) (w : World) (hb0 : 0 ≤ base) (hb1 : base ≤ 255) (hs0 : 0 ≤ sign) (hs1 : sign ≤ 255) (hsg : sign % 3 = 0) (hxs : Hid (x.size ≤ maxLen)) (hxv : Hid ((Lit.int .i64 xv).wf = true))
    (BS Z RA NM : Array Value) (f : Nat → ByteArray) (hf : Hid (f = nm)) (hgl : Hid (Glob w))
    (hB : Hid (∀ w, Calls Ybad.prog 10 #[] w fun e w' => e = .returned (.agg BS) ∧ Below w.heap.size w w'))
    (hz : ∀ w, (zeroValue 37).run Ybad.prog w = .ok (.agg Z) w) (sB : Hid ((Ybad.prog.info? 37).map (·.size) = some BS.size)) (sZ : Hid (Z.size = BS.size)) (oB : Hid (BS.all (·.oneCell') = true))
    (sR : Hid ((Ybad.prog.info? 36).map (·.size) = some RA.size)) (sY : Hid (20 = RA.size)) (oR : Hid (RA.all (·.oneCell') = true))
    (hrow : Hid (∀ w1 : World, (w1.alloc (.cells BS 37)).rangeAt w1.heap.size ((base % 10).toNat * 20) RA.toList))
    (hN : Hid (∀ w, Calls Ybad.prog 7 #[] w fun e w' => e = .returned (.agg NM) ∧ w' = w.alloc (.cells NM 23)))
    (sN : Hid ((Ybad.prog.info? 23).map (·.size) = some NM.size)) (s7 : Hid (7 = NM.size)) (hNM : Hid (∀ j, j < 7 → NM[j]? = some (.string (f j)))) (oN : Hid (NM.all (·.oneCell') = true))
    (r0 r1 r2 r3 r4 : Int) (S : ByteArray) (B R : Int) (U ok : Bool)
    (q0 : RA[0]? = some (.int .i64 r0)) (q1 : RA[1]? = some (.int .i64 r1)) (q2 : RA[2]? = some (.int .i64 r2)) (q3 : RA[3]? = some (.int .i64 r3)) (q4 : RA[4]? = some (.int .i64 r4))
    (y0 : Hid (RA[5]? = some (.string S))) (y1 : Hid (RA[6]? = some (.int .i64 B))) (y2 : Hid (RA[7]? = some (.bool U))) (y3 : Hid (RA[8]? = some (.int .i64 R))) (y4 : Hid (RA[17]? = some (.bool ok)))
    (hcs : Hid (∀ j, j < 7 → 0 ≤ cs0 r0 r1 r2 r3 r4 j ∧ cs0 r0 r1 r2 r3 r4 j ≤ 3))
    (H8 : Hid (∀ (W : World) (bm : Nat), Env W bm 0 0 r0 r1 r2 r3 r4 → Calls Ybad.prog 8 #[.map (some bm)] W fun e w' => e = .returned (.tuple #[.agg #[.string S, .int .i64 B, .bool U, .int .i64 R], .bool ok]) ∧ Below W.heap.size W w')) :
    Calls Ybad.prog 4 #[.int .u8 base, .int .u8 sign, .string x, .int .i64 xv] w fun e w' => e = .returned (.bool true) ∧ Below w.heap.size w w' := by
  have hmm := @run_makeMap Ybad.prog
  go_enter Ybad.func4, Ybad.ntmps4
  go_wp2_with (first | (go_at_call 10; refine (hB.out _).mono ?_; rintro e w1 ⟨rfl, hbel1⟩) | (refine wpList_store_last rfl 37 (.tmp 9) (.tmp 20) rfl w1 w1.heap.size rfl Z BS 37 rfl rfl sB.out sZ.out oB.out rfl ?_) | (refine wpList_load_row_at rfl 36 (.tmp 24) rfl w1.heap.size ((base % 10).toNat * 20) rfl RA _ (hrow.out w1) Ybad.underlying36 rfl sR.out ?_) | (refine wpList_store_last rfl 36 (.tmp 10) (.tmp 25) rfl (w1.alloc (.cells BS 37)) (w1.heap.size + 1) (by simp) _ RA 36 rfl rfl sR.out (by exact sY.out) oR.out rfl ?_) | (go_at_call 7; refine (hN.out _).mono ?_; rintro e w2 ⟨rfl, rfl⟩)  | (refine wpList_store_last rfl 23 (.tmp 12) (.tmp 29) rfl (((w1.alloc (.cells BS 37)).alloc (.cells RA 36)).alloc (.cells NM 23)) (w1.heap.size + 1 + 1 + 1) (by simp) _ NM 23 rfl rfl sN.out (by exact s7.out) oN.out rfl ?_))
  clear hz hmm q0 q1 q2 q3 q4 hB sB sZ oB sR sY oR hrow hN sN s7 oN
  obtain ⟨hx1, hx3, hx4, hsz, hbel2⟩ := heap6 w1 (.cells BS 37) (.cells RA 36) (.cells NM 23) (.cells NM 23) (.cells #[.int .i64 0, .int .i64 0, .int .i64 r0, .int .i64 r1, .int .i64 r2, .int .i64 r3, .int .i64 r4] 22) (.map #[] 0)
  have hmap : HoldsAt ((((((w1.alloc (.cells BS 37)).alloc (.cells RA 36)).alloc (.cells NM 23)).alloc (.cells NM 23)).alloc (.cells #[.int .i64 0, .int .i64 0, .int .i64 r0, .int .i64 r1, .int .i64 r2, .int .i64 r3, .int .i64 r4] 22)).alloc (.map #[] 0)) (w1.heap.size + 1 + 1 + 1 + 1 + 1) 0 (fun _ => 0) := by
    have h := holds_made (((((w1.alloc (.cells BS 37)).alloc (.cells RA 36)).alloc (.cells NM 23)).alloc (.cells NM 23)).alloc (.cells #[.int .i64 0, .int .i64 0, .int .i64 r0, .int .i64 r1, .int .i64 r2, .int .i64 r3, .int .i64 r4] 22))
    rw [World.size_alloc, World.size_alloc, World.size_alloc, World.size_alloc, World.size_alloc] at h
    exact h
  generalize ((((((w1.alloc (.cells BS 37)).alloc (.cells RA 36)).alloc (.cells NM 23)).alloc (.cells NM 23)).alloc (.cells #[.int .i64 0, .int .i64 0, .int .i64 r0, .int .i64 r1, .int .i64 r2, .int .i64 r3, .int .i64 r4] 22)).alloc (.map #[] 0)) = W0 at hx1 hx3 hx4 hsz hbel2 hmap ⊢
  have hnm : Hid (∀ j, j < 7 → W0.cell? ⟨w1.heap.size + 1 + 1 + 1, j, none⟩ = some (.string (f j))) := fun j hj => by rw [cell_of_row W0 _ j NM 23 (0, 0) hx3]; exact hNM.out j hj
  have hct : Hid (∀ j, j < 7 → W0.cell? ⟨w1.heap.size + 1 + 1 + 1 + 1, j, none⟩ = some (.int .i64 (cs0 r0 r1 r2 r3 r4 j))) := fun j hj => by
    rw [cell_of_row W0 _ j _ 22 (0, 0) hx4]
    match j, hj with
    | 0, _ | 1, _ | 2, _ | 3, _ | 4, _ | 5, _ | 6, _ => rfl
  have HX1 := hide hx1
  have HB1 := hide hbel1
  have HB2 := hide hbel2
  have HSZ := hide hsz
  have HM := hide hmap
  clear hx1 hx3 hx4 hNM hbel1 hbel2 hsz hmap
  go_loop [15, 16] (fun kn i => ∃ k : Nat, k ≤ 7 ∧ i = .int .i64 k ∧ kn = .bool (seen f x k)) (fun _ i => 7 - (intOf i).toNat)
  case atStart => exact ⟨0, by omega, rfl, rfl⟩
  case round =>
    obtain ⟨k, hk, rfl, rfl⟩ := hrel
    by_cases hlt : k < 7
    · have hc := hnm.out k hlt
      have hidx : (k : Int) < 7 := by omega
      go_wp2
      · have ht : ((f k).toList == x.toList) = true := by assumption
        go_round
        case rel => exact ⟨k + 1, by omega, by go_num, by rw [seen_hit ht]⟩
        case measure => simp [intOf]; omega
      · have ht : ((f k).toList == x.toList) = false := by assumption
        go_round
        case rel => exact ⟨k + 1, by omega, by go_num, by rw [seen_miss ht]⟩
        case measure => simp [intOf]; omega
    · obtain rfl : k = 7 := by omega
      clear hk hlt
      cases hse : seen f x 7
      · obtain ⟨w', hrun, hold, hg⟩ := HM.out.other (by unfold maxLen; omega) hxs.out (by rw [← hf.out]; exact seen_not hse) hxv.out
        have HG := hide hg
        have HO : Hid (HoldsAt w' (w1.heap.size + 1 + 1 + 1 + 1 + 1) 1 (fun _ => 0)) := hold
        have HL : Hid (Below (w1.heap.size + 1 + 1 + 1 + 1 + 1) W0 w') := (Below.refl _ _).grown hg (by rw [HSZ.out]; omega) (fun k hk => by cases hk; exact Nat.le_refl _)
        clear hg hold hse
        go_wp2
        clear hrun HG
        go_loopw [17] (fun i wr => ∃ k : Nat, k ≤ 7 ∧ i = .int .i64 k ∧ HoldsAt wr (w1.heap.size + 1 + 1 + 1 + 1 + 1) (k + 1) (fun j => if j < k then cs0 r0 r1 r2 r3 r4 j else 0) ∧ Below (w1.heap.size + 1 + 1 + 1 + 1 + 1) W0 wr) (fun i _ => 7 - (intOf i).toNat)
        case atStart => exact ⟨0, by omega, rfl, HO.out.congr (fun _ _ => by simp), HL.out⟩
        case round =>
          obtain ⟨k, hk, rfl, hold, hnx⟩ := hrel
          have HN := hide hnx
          have HH := hide hold
          clear hnx hold
          by_cases hlt : k < 7
          · have hidx : (k : Int) < 7 := by omega
            have cN : wr.cell? ⟨w1.heap.size + 1 + 1 + 1, k, none⟩ = some (.string (f k)) := (HN.out.cell (by show w1.heap.size + 1 + 1 + 1 < w1.heap.size + 1 + 1 + 1 + 1 + 1; omega)).trans (hnm.out k hlt)
            have cC : wr.cell? ⟨w1.heap.size + 1 + 1 + 1 + 1, k, none⟩ = some (.int .i64 (cs0 r0 r1 r2 r3 r4 k)) := (HN.out.cell (by show w1.heap.size + 1 + 1 + 1 + 1 < w1.heap.size + 1 + 1 + 1 + 1 + 1; omega)).trans (hct.out k hlt)
            have hbd := hcs.out k hlt
            by_cases hc0 : cs0 r0 r1 r2 r3 r4 k = 0
            · have HN' := hide (step_none HH.out hc0)
              have hb : (cs0 r0 r1 r2 r3 r4 k != 0) = false := by simp [hc0]
              clear hc0
              go_wp2
              go_roundw
              case rel => exact ⟨k + 1, by omega, by go_num, HN'.out.mono (by omega), HN.out⟩
              case measure => simp [intOf]; omega
            · have hb : (cs0 r0 r1 r2 r3 r4 k != 0) = true := by simp [hc0]
              obtain ⟨w', hrun, hold', hg⟩ := HH.out.drew.put (by unfold maxLen; omega) hlt (wf_small hbd.1 hbd.2)
              have hrun' : (Instr.mapUpdate 25 (.map (some (w1.heap.size + 1 + 1 + 1 + 1 + 1))) (.string (f k)) (.int .i64 (cs0 r0 r1 r2 r3 r4 k))).run Ybad.prog wr.drew = .ok () w' := by rw [hf.out]; exact hrun
              have HN' := hide (step_put hold')
              have HL' : Hid (Below (w1.heap.size + 1 + 1 + 1 + 1 + 1) W0 w') := HN.out.drew.grown hg (by have := HN.out.size; have := HSZ.out; simp; omega) (fun k hk => by cases hk; exact Nat.le_refl _)
              clear hrun hold' hg hc0
              go_wp2
              go_region
              go_wp2
              go_roundw
              case rel => exact ⟨k + 1, by omega, by go_num, HN'.out, HL'.out⟩
              case measure => simp [intOf]; omega
          · obtain rfl : k = 7 := by omega
            clear hk hlt
            have HBW : Hid (Below w.heap.size w wr) := HB1.out.trans ((HB2.out.mono HB1.out.size).trans (HN.out.mono (by have := HB1.out.size; omega)))
            have HE : Hid (Env wr (w1.heap.size + 1 + 1 + 1 + 1 + 1) 0 0 r0 r1 r2 r3 r4) := env_of HH.out (hgl.out.below HBW.out)
            have HC : Hid (∀ j, wr.cell? ⟨w1.heap.size + 1, j, none⟩ = RA[j]?) := fun j => (HN.out.cell (by show w1.heap.size + 1 < w1.heap.size + 1 + 1 + 1 + 1 + 1; omega)).trans (cell_of_row W0 _ j RA 36 (0, 0) HX1.out)
            have HSR : Hid (w1.heap.size + 1 < wr.heap.size) := by have h1 := HN.out.size; have h2 := HSZ.out; show _ < _; omega
            go_wp2_with fail
            refine (H8.out _ _ HE.out).mono ?_
            rintro e w3 ⟨rfl, hb3⟩
            have HW : Hid (∀ o j, (w3.alloc o).cell? ⟨w1.heap.size + 1, j, none⟩ = RA[j]?) := fun o j => (((hb3.alloc hb3.size o).cell (by exact HSR.out))).trans (HC.out j)
            have z0 : ∀ o, (w3.alloc o).cell? ⟨w1.heap.size + 1, 5, none⟩ = some (.string S) := fun o => (HW.out o 5).trans y0.out
            have z1 : ∀ o, (w3.alloc o).cell? ⟨w1.heap.size + 1, 5 + 1, none⟩ = some (.int .i64 B) := fun o => (HW.out o 6).trans y1.out
            have z2 : ∀ o, (w3.alloc o).cell? ⟨w1.heap.size + 1, 5 + 2, none⟩ = some (.bool U) := fun o => (HW.out o 7).trans y2.out
            have z3 : ∀ o, (w3.alloc o).cell? ⟨w1.heap.size + 1, 5 + 3, none⟩ = some (.int .i64 R) := fun o => (HW.out o 8).trans y3.out
            have z4 : ∀ o, (w3.alloc o).cell? ⟨w1.heap.size + 1, 17, none⟩ = some (.bool ok) := fun o => (HW.out o 17).trans y4.out
            have HB3 := hide hb3
            clear hb3
            go_wp2
            go_quiet (fail)
            go_wp2
            go_ret
            exact ⟨rfl, below_drewN ((HBW.out.trans (HB3.out.mono HBW.out.size)).alloc (Nat.le_trans HBW.out.size HB3.out.size) _) _⟩
      · have HO : Hid (HoldsAt W0 (w1.heap.size + 1 + 1 + 1 + 1 + 1) 1 (fun _ => 0)) := HM.out.mono (by omega)
        have HL : Hid (Below (w1.heap.size + 1 + 1 + 1 + 1 + 1) W0 W0) := Below.refl _ _
        clear hse
        go_wp2
        go_loopw [17] (fun i wr => ∃ k : Nat, k ≤ 7 ∧ i = .int .i64 k ∧ HoldsAt wr (w1.heap.size + 1 + 1 + 1 + 1 + 1) (k + 1) (fun j => if j < k then cs0 r0 r1 r2 r3 r4 j else 0) ∧ Below (w1.heap.size + 1 + 1 + 1 + 1 + 1) W0 wr) (fun i _ => 7 - (intOf i).toNat)
        case atStart => exact ⟨0, by omega, rfl, HO.out.congr (fun _ _ => by simp), HL.out⟩
        case round =>
          obtain ⟨k, hk, rfl, hold, hnx⟩ := hrel
          have HN := hide hnx
          have HH := hide hold
          clear hnx hold
          by_cases hlt : k < 7
          · have hidx : (k : Int) < 7 := by omega
            have cN : wr.cell? ⟨w1.heap.size + 1 + 1 + 1, k, none⟩ = some (.string (f k)) := (HN.out.cell (by show w1.heap.size + 1 + 1 + 1 < w1.heap.size + 1 + 1 + 1 + 1 + 1; omega)).trans (hnm.out k hlt)
            have cC : wr.cell? ⟨w1.heap.size + 1 + 1 + 1 + 1, k, none⟩ = some (.int .i64 (cs0 r0 r1 r2 r3 r4 k)) := (HN.out.cell (by show w1.heap.size + 1 + 1 + 1 + 1 < w1.heap.size + 1 + 1 + 1 + 1 + 1; omega)).trans (hct.out k hlt)
            have hbd := hcs.out k hlt
            by_cases hc0 : cs0 r0 r1 r2 r3 r4 k = 0
            · have HN' := hide (step_none HH.out hc0)
              have hb : (cs0 r0 r1 r2 r3 r4 k != 0) = false := by simp [hc0]
              clear hc0
              go_wp2
              go_roundw
              case rel => exact ⟨k + 1, by omega, by go_num, HN'.out.mono (by omega), HN.out⟩
              case measure => simp [intOf]; omega
            · have hb : (cs0 r0 r1 r2 r3 r4 k != 0) = true := by simp [hc0]
              obtain ⟨w', hrun, hold', hg⟩ := HH.out.drew.put (by unfold maxLen; omega) hlt (wf_small hbd.1 hbd.2)
              have hrun' : (Instr.mapUpdate 25 (.map (some (w1.heap.size + 1 + 1 + 1 + 1 + 1))) (.string (f k)) (.int .i64 (cs0 r0 r1 r2 r3 r4 k))).run Ybad.prog wr.drew = .ok () w' := by rw [hf.out]; exact hrun
              have HN' := hide (step_put hold')
              have HL' : Hid (Below (w1.heap.size + 1 + 1 + 1 + 1 + 1) W0 w') := HN.out.drew.grown hg (by have := HN.out.size; have := HSZ.out; simp; omega) (fun k hk => by cases hk; exact Nat.le_refl _)
              clear hrun hold' hg hc0
              go_wp2
              go_region
              go_wp2
              go_roundw
              case rel => exact ⟨k + 1, by omega, by go_num, HN'.out, HL'.out⟩
              case measure => simp [intOf]; omega
          · obtain rfl : k = 7 := by omega
            clear hk hlt
            have HBW : Hid (Below w.heap.size w wr) := HB1.out.trans ((HB2.out.mono HB1.out.size).trans (HN.out.mono (by have := HB1.out.size; omega)))
            have HE : Hid (Env wr (w1.heap.size + 1 + 1 + 1 + 1 + 1) 0 0 r0 r1 r2 r3 r4) := env_of HH.out (hgl.out.below HBW.out)
            have HC : Hid (∀ j, wr.cell? ⟨w1.heap.size + 1, j, none⟩ = RA[j]?) := fun j => (HN.out.cell (by show w1.heap.size + 1 < w1.heap.size + 1 + 1 + 1 + 1 + 1; omega)).trans (cell_of_row W0 _ j RA 36 (0, 0) HX1.out)
            have HSR : Hid (w1.heap.size + 1 < wr.heap.size) := by have h1 := HN.out.size; have h2 := HSZ.out; show _ < _; omega
            go_wp2_with fail
            refine (H8.out _ _ HE.out).mono ?_
            rintro e w3 ⟨rfl, hb3⟩
            have HW : Hid (∀ o j, (w3.alloc o).cell? ⟨w1.heap.size + 1, j, none⟩ = RA[j]?) := fun o j => (((hb3.alloc hb3.size o).cell (by exact HSR.out))).trans (HC.out j)
            have z0 : ∀ o, (w3.alloc o).cell? ⟨w1.heap.size + 1, 5, none⟩ = some (.string S) := fun o => (HW.out o 5).trans y0.out
            have z1 : ∀ o, (w3.alloc o).cell? ⟨w1.heap.size + 1, 5 + 1, none⟩ = some (.int .i64 B) := fun o => (HW.out o 6).trans y1.out
            have z2 : ∀ o, (w3.alloc o).cell? ⟨w1.heap.size + 1, 5 + 2, none⟩ = some (.bool U) := fun o => (HW.out o 7).trans y2.out
            have z3 : ∀ o, (w3.alloc o).cell? ⟨w1.heap.size + 1, 5 + 3, none⟩ = some (.int .i64 R) := fun o => (HW.out o 8).trans y3.out
            have z4 : ∀ o, (w3.alloc o).cell? ⟨w1.heap.size + 1, 17, none⟩ = some (.bool ok) := fun o => (HW.out o 17).trans y4.out
            have HB3 := hide hb3
            clear hb3
            go_wp2
            go_quiet (fail)
            go_wp2
            go_ret
            exact ⟨rfl, below_drewN ((HBW.out.trans (HB3.out.mono HBW.out.size)).alloc (Nat.le_trans HBW.out.size HB3.out.size) _) _⟩

def cs1 (r0 r1 r2 r3 r4 : Int) (j : Nat) : Int := ([1, 0, r0, r1, r2, r3, r4] : List Int).getD j 0
set_option maxRecDepth 100000 in
set_option maxHeartbeats 4000000 in
theorem valid_1 (base sign xv : Int) (x : ByteArray) (w : World) (hb0 : 0 ≤ base) (hb1 : base ≤ 255) (hs0 : 0 ≤ sign) (hs1 : sign ≤ 255) (hsg : sign % 3 = 1) (hxs : Hid (x.size ≤ maxLen)) (hxv : Hid ((Lit.int .i64 xv).wf = true))
    (BS Z RA NM : Array Value) (f : Nat → ByteArray) (hf : Hid (f = nm)) (hgl : Hid (Glob w))
    (hB : Hid (∀ w, Calls Ybad.prog 10 #[] w fun e w' => e = .returned (.agg BS) ∧ Below w.heap.size w w'))
    (hz : ∀ w, (zeroValue 37).run Ybad.prog w = .ok (.agg Z) w) (sB : Hid ((Ybad.prog.info? 37).map (·.size) = some BS.size)) (sZ : Hid (Z.size = BS.size)) (oB : Hid (BS.all (·.oneCell') = true))
    (sR : Hid ((Ybad.prog.info? 36).map (·.size) = some RA.size)) (sY : Hid (20 = RA.size)) (oR : Hid (RA.all (·.oneCell') = true))
    (hrow : Hid (∀ w1 : World, (w1.alloc (.cells BS 37)).rangeAt w1.heap.size ((base % 10).toNat * 20) RA.toList))
    (hN : Hid (∀ w, Calls Ybad.prog 7 #[] w fun e w' => e = .returned (.agg NM) ∧ w' = w.alloc (.cells NM 23)))
    (sN : Hid ((Ybad.prog.info? 23).map (·.size) = some NM.size)) (s7 : Hid (7 = NM.size)) (hNM : Hid (∀ j, j < 7 → NM[j]? = some (.string (f j)))) (oN : Hid (NM.all (·.oneCell') = true))
    (r0 r1 r2 r3 r4 : Int) (S : ByteArray) (B R : Int) (U ok : Bool)
    (q0 : RA[0]? = some (.int .i64 r0)) (q1 : RA[1]? = some (.int .i64 r1)) (q2 : RA[2]? = some (.int .i64 r2)) (q3 : RA[3]? = some (.int .i64 r3)) (q4 : RA[4]? = some (.int .i64 r4))
    (y0 : Hid (RA[9]? = some (.string S))) (y1 : Hid (RA[10]? = some (.int .i64 B))) (y2 : Hid (RA[11]? = some (.bool U))) (y3 : Hid (RA[12]? = some (.int .i64 R))) (y4 : Hid (RA[18]? = some (.bool ok)))
    (hcs : Hid (∀ j, j < 7 → 0 ≤ cs1 r0 r1 r2 r3 r4 j ∧ cs1 r0 r1 r2 r3 r4 j ≤ 3))
    (H8 : Hid (∀ (W : World) (bm : Nat), Env W bm 1 0 r0 r1 r2 r3 r4 → Calls Ybad.prog 8 #[.map (some bm)] W fun e w' => e = .returned (.tuple #[.agg #[.string S, .int .i64 B, .bool U, .int .i64 R], .bool ok]) ∧ Below W.heap.size W w')) :
    Calls Ybad.prog 4 #[.int .u8 base, .int .u8 sign, .string x, .int .i64 xv] w fun e w' => e = .returned (.bool true) ∧ Below w.heap.size w w' := by
  have hmm := @run_makeMap Ybad.prog
  go_enter Ybad.func4, Ybad.ntmps4
  go_wp2_with (first | (go_at_call 10; refine (hB.out _).mono ?_; rintro e w1 ⟨rfl, hbel1⟩) | (refine wpList_store_last rfl 37 (.tmp 9) (.tmp 20) rfl w1 w1.heap.size rfl Z BS 37 rfl rfl sB.out sZ.out oB.out rfl ?_) | (refine wpList_load_row_at rfl 36 (.tmp 24) rfl w1.heap.size ((base % 10).toNat * 20) rfl RA _ (hrow.out w1) Ybad.underlying36 rfl sR.out ?_) | (refine wpList_store_last rfl 36 (.tmp 10) (.tmp 25) rfl (w1.alloc (.cells BS 37)) (w1.heap.size + 1) (by simp) _ RA 36 rfl rfl sR.out (by exact sY.out) oR.out rfl ?_) | (go_at_call 7; refine (hN.out _).mono ?_; rintro e w2 ⟨rfl, rfl⟩)  | (refine wpList_store_last rfl 23 (.tmp 12) (.tmp 29) rfl (((w1.alloc (.cells BS 37)).alloc (.cells RA 36)).alloc (.cells NM 23)) (w1.heap.size + 1 + 1 + 1) (by simp) _ NM 23 rfl rfl sN.out (by exact s7.out) oN.out rfl ?_))
  clear hz hmm q0 q1 q2 q3 q4 hB sB sZ oB sR sY oR hrow hN sN s7 oN
  obtain ⟨hx1, hx3, hx4, hsz, hbel2⟩ := heap6 w1 (.cells BS 37) (.cells RA 36) (.cells NM 23) (.cells NM 23) (.cells #[.int .i64 1, .int .i64 0, .int .i64 r0, .int .i64 r1, .int .i64 r2, .int .i64 r3, .int .i64 r4] 22) (.map #[] 0)
  have hmap : HoldsAt ((((((w1.alloc (.cells BS 37)).alloc (.cells RA 36)).alloc (.cells NM 23)).alloc (.cells NM 23)).alloc (.cells #[.int .i64 1, .int .i64 0, .int .i64 r0, .int .i64 r1, .int .i64 r2, .int .i64 r3, .int .i64 r4] 22)).alloc (.map #[] 0)) (w1.heap.size + 1 + 1 + 1 + 1 + 1) 0 (fun _ => 0) := by
    have h := holds_made (((((w1.alloc (.cells BS 37)).alloc (.cells RA 36)).alloc (.cells NM 23)).alloc (.cells NM 23)).alloc (.cells #[.int .i64 1, .int .i64 0, .int .i64 r0, .int .i64 r1, .int .i64 r2, .int .i64 r3, .int .i64 r4] 22))
    rw [World.size_alloc, World.size_alloc, World.size_alloc, World.size_alloc, World.size_alloc] at h
    exact h
  generalize ((((((w1.alloc (.cells BS 37)).alloc (.cells RA 36)).alloc (.cells NM 23)).alloc (.cells NM 23)).alloc (.cells #[.int .i64 1, .int .i64 0, .int .i64 r0, .int .i64 r1, .int .i64 r2, .int .i64 r3, .int .i64 r4] 22)).alloc (.map #[] 0)) = W0 at hx1 hx3 hx4 hsz hbel2 hmap ⊢
  have hnm : Hid (∀ j, j < 7 → W0.cell? ⟨w1.heap.size + 1 + 1 + 1, j, none⟩ = some (.string (f j))) := fun j hj => by rw [cell_of_row W0 _ j NM 23 (0, 0) hx3]; exact hNM.out j hj
  have hct : Hid (∀ j, j < 7 → W0.cell? ⟨w1.heap.size + 1 + 1 + 1 + 1, j, none⟩ = some (.int .i64 (cs1 r0 r1 r2 r3 r4 j))) := fun j hj => by
    rw [cell_of_row W0 _ j _ 22 (0, 0) hx4]
    match j, hj with
    | 0, _ | 1, _ | 2, _ | 3, _ | 4, _ | 5, _ | 6, _ => rfl
  have HX1 := hide hx1
  have HB1 := hide hbel1
  have HB2 := hide hbel2
  have HSZ := hide hsz
  have HM := hide hmap
  clear hx1 hx3 hx4 hNM hbel1 hbel2 hsz hmap
  go_loop [15, 16] (fun kn i => ∃ k : Nat, k ≤ 7 ∧ i = .int .i64 k ∧ kn = .bool (seen f x k)) (fun _ i => 7 - (intOf i).toNat)
  case atStart => exact ⟨0, by omega, rfl, rfl⟩
  case round =>
    obtain ⟨k, hk, rfl, rfl⟩ := hrel
    by_cases hlt : k < 7
    · have hc := hnm.out k hlt
      have hidx : (k : Int) < 7 := by omega
      go_wp2
      · have ht : ((f k).toList == x.toList) = true := by assumption
        go_round
        case rel => exact ⟨k + 1, by omega, by go_num, by rw [seen_hit ht]⟩
        case measure => simp [intOf]; omega
      · have ht : ((f k).toList == x.toList) = false := by assumption
        go_round
        case rel => exact ⟨k + 1, by omega, by go_num, by rw [seen_miss ht]⟩
        case measure => simp [intOf]; omega
    · obtain rfl : k = 7 := by omega
      clear hk hlt
      cases hse : seen f x 7
      · obtain ⟨w', hrun, hold, hg⟩ := HM.out.other (by unfold maxLen; omega) hxs.out (by rw [← hf.out]; exact seen_not hse) hxv.out
        have HG := hide hg
        have HO : Hid (HoldsAt w' (w1.heap.size + 1 + 1 + 1 + 1 + 1) 1 (fun _ => 0)) := hold
        have HL : Hid (Below (w1.heap.size + 1 + 1 + 1 + 1 + 1) W0 w') := (Below.refl _ _).grown hg (by rw [HSZ.out]; omega) (fun k hk => by cases hk; exact Nat.le_refl _)
        clear hg hold hse
        go_wp2
        clear hrun HG
        go_loopw [17] (fun i wr => ∃ k : Nat, k ≤ 7 ∧ i = .int .i64 k ∧ HoldsAt wr (w1.heap.size + 1 + 1 + 1 + 1 + 1) (k + 1) (fun j => if j < k then cs1 r0 r1 r2 r3 r4 j else 0) ∧ Below (w1.heap.size + 1 + 1 + 1 + 1 + 1) W0 wr) (fun i _ => 7 - (intOf i).toNat)
        case atStart => exact ⟨0, by omega, rfl, HO.out.congr (fun _ _ => by simp), HL.out⟩
        case round =>
          obtain ⟨k, hk, rfl, hold, hnx⟩ := hrel
          have HN := hide hnx
          have HH := hide hold
          clear hnx hold
          by_cases hlt : k < 7
          · have hidx : (k : Int) < 7 := by omega
            have cN : wr.cell? ⟨w1.heap.size + 1 + 1 + 1, k, none⟩ = some (.string (f k)) := (HN.out.cell (by show w1.heap.size + 1 + 1 + 1 < w1.heap.size + 1 + 1 + 1 + 1 + 1; omega)).trans (hnm.out k hlt)
            have cC : wr.cell? ⟨w1.heap.size + 1 + 1 + 1 + 1, k, none⟩ = some (.int .i64 (cs1 r0 r1 r2 r3 r4 k)) := (HN.out.cell (by show w1.heap.size + 1 + 1 + 1 + 1 < w1.heap.size + 1 + 1 + 1 + 1 + 1; omega)).trans (hct.out k hlt)
            have hbd := hcs.out k hlt
            by_cases hc0 : cs1 r0 r1 r2 r3 r4 k = 0
            · have HN' := hide (step_none HH.out hc0)
              have hb : (cs1 r0 r1 r2 r3 r4 k != 0) = false := by simp [hc0]
              clear hc0
              go_wp2
              go_roundw
              case rel => exact ⟨k + 1, by omega, by go_num, HN'.out.mono (by omega), HN.out⟩
              case measure => simp [intOf]; omega
            · have hb : (cs1 r0 r1 r2 r3 r4 k != 0) = true := by simp [hc0]
              obtain ⟨w', hrun, hold', hg⟩ := HH.out.drew.put (by unfold maxLen; omega) hlt (wf_small hbd.1 hbd.2)
              have hrun' : (Instr.mapUpdate 25 (.map (some (w1.heap.size + 1 + 1 + 1 + 1 + 1))) (.string (f k)) (.int .i64 (cs1 r0 r1 r2 r3 r4 k))).run Ybad.prog wr.drew = .ok () w' := by rw [hf.out]; exact hrun
              have HN' := hide (step_put hold')
              have HL' : Hid (Below (w1.heap.size + 1 + 1 + 1 + 1 + 1) W0 w') := HN.out.drew.grown hg (by have := HN.out.size; have := HSZ.out; simp; omega) (fun k hk => by cases hk; exact Nat.le_refl _)
              clear hrun hold' hg hc0
              go_wp2
              go_region
              go_wp2
              go_roundw
              case rel => exact ⟨k + 1, by omega, by go_num, HN'.out, HL'.out⟩
              case measure => simp [intOf]; omega
          · obtain rfl : k = 7 := by omega
            clear hk hlt
            have HBW : Hid (Below w.heap.size w wr) := HB1.out.trans ((HB2.out.mono HB1.out.size).trans (HN.out.mono (by have := HB1.out.size; omega)))
            have HE : Hid (Env wr (w1.heap.size + 1 + 1 + 1 + 1 + 1) 1 0 r0 r1 r2 r3 r4) := env_of HH.out (hgl.out.below HBW.out)
            have HC : Hid (∀ j, wr.cell? ⟨w1.heap.size + 1, j, none⟩ = RA[j]?) := fun j => (HN.out.cell (by show w1.heap.size + 1 < w1.heap.size + 1 + 1 + 1 + 1 + 1; omega)).trans (cell_of_row W0 _ j RA 36 (0, 0) HX1.out)
            have HSR : Hid (w1.heap.size + 1 < wr.heap.size) := by have h1 := HN.out.size; have h2 := HSZ.out; show _ < _; omega
            go_wp2_with fail
            refine (H8.out _ _ HE.out).mono ?_
            rintro e w3 ⟨rfl, hb3⟩
            have HW : Hid (∀ o j, (w3.alloc o).cell? ⟨w1.heap.size + 1, j, none⟩ = RA[j]?) := fun o j => (((hb3.alloc hb3.size o).cell (by exact HSR.out))).trans (HC.out j)
            have z0 : ∀ o, (w3.alloc o).cell? ⟨w1.heap.size + 1, 9, none⟩ = some (.string S) := fun o => (HW.out o 9).trans y0.out
            have z1 : ∀ o, (w3.alloc o).cell? ⟨w1.heap.size + 1, 9 + 1, none⟩ = some (.int .i64 B) := fun o => (HW.out o 10).trans y1.out
            have z2 : ∀ o, (w3.alloc o).cell? ⟨w1.heap.size + 1, 9 + 2, none⟩ = some (.bool U) := fun o => (HW.out o 11).trans y2.out
            have z3 : ∀ o, (w3.alloc o).cell? ⟨w1.heap.size + 1, 9 + 3, none⟩ = some (.int .i64 R) := fun o => (HW.out o 12).trans y3.out
            have z4 : ∀ o, (w3.alloc o).cell? ⟨w1.heap.size + 1, 18, none⟩ = some (.bool ok) := fun o => (HW.out o 18).trans y4.out
            have HB3 := hide hb3
            clear hb3
            go_wp2
            go_quiet (fail)
            go_wp2
            go_ret
            exact ⟨rfl, below_drewN ((HBW.out.trans (HB3.out.mono HBW.out.size)).alloc (Nat.le_trans HBW.out.size HB3.out.size) _) _⟩
      · have HO : Hid (HoldsAt W0 (w1.heap.size + 1 + 1 + 1 + 1 + 1) 1 (fun _ => 0)) := HM.out.mono (by omega)
        have HL : Hid (Below (w1.heap.size + 1 + 1 + 1 + 1 + 1) W0 W0) := Below.refl _ _
        clear hse
        go_wp2
        go_loopw [17] (fun i wr => ∃ k : Nat, k ≤ 7 ∧ i = .int .i64 k ∧ HoldsAt wr (w1.heap.size + 1 + 1 + 1 + 1 + 1) (k + 1) (fun j => if j < k then cs1 r0 r1 r2 r3 r4 j else 0) ∧ Below (w1.heap.size + 1 + 1 + 1 + 1 + 1) W0 wr) (fun i _ => 7 - (intOf i).toNat)
        case atStart => exact ⟨0, by omega, rfl, HO.out.congr (fun _ _ => by simp), HL.out⟩
        case round =>
          obtain ⟨k, hk, rfl, hold, hnx⟩ := hrel
          have HN := hide hnx
          have HH := hide hold
          clear hnx hold
          by_cases hlt : k < 7
          · have hidx : (k : Int) < 7 := by omega
            have cN : wr.cell? ⟨w1.heap.size + 1 + 1 + 1, k, none⟩ = some (.string (f k)) := (HN.out.cell (by show w1.heap.size + 1 + 1 + 1 < w1.heap.size + 1 + 1 + 1 + 1 + 1; omega)).trans (hnm.out k hlt)
            have cC : wr.cell? ⟨w1.heap.size + 1 + 1 + 1 + 1, k, none⟩ = some (.int .i64 (cs1 r0 r1 r2 r3 r4 k)) := (HN.out.cell (by show w1.heap.size + 1 + 1 + 1 + 1 < w1.heap.size + 1 + 1 + 1 + 1 + 1; omega)).trans (hct.out k hlt)
            have hbd := hcs.out k hlt
            by_cases hc0 : cs1 r0 r1 r2 r3 r4 k = 0
            · have HN' := hide (step_none HH.out hc0)
              have hb : (cs1 r0 r1 r2 r3 r4 k != 0) = false := by simp [hc0]
              clear hc0
              go_wp2
              go_roundw
              case rel => exact ⟨k + 1, by omega, by go_num, HN'.out.mono (by omega), HN.out⟩
              case measure => simp [intOf]; omega
            · have hb : (cs1 r0 r1 r2 r3 r4 k != 0) = true := by simp [hc0]
              obtain ⟨w', hrun, hold', hg⟩ := HH.out.drew.put (by unfold maxLen; omega) hlt (wf_small hbd.1 hbd.2)
              have hrun' : (Instr.mapUpdate 25 (.map (some (w1.heap.size + 1 + 1 + 1 + 1 + 1))) (.string (f k)) (.int .i64 (cs1 r0 r1 r2 r3 r4 k))).run Ybad.prog wr.drew = .ok () w' := by rw [hf.out]; exact hrun
              have HN' := hide (step_put hold')
              have HL' : Hid (Below (w1.heap.size + 1 + 1 + 1 + 1 + 1) W0 w') := HN.out.drew.grown hg (by have := HN.out.size; have := HSZ.out; simp; omega) (fun k hk => by cases hk; exact Nat.le_refl _)
              clear hrun hold' hg hc0
              go_wp2
              go_region
              go_wp2
              go_roundw
              case rel => exact ⟨k + 1, by omega, by go_num, HN'.out, HL'.out⟩
              case measure => simp [intOf]; omega
          · obtain rfl : k = 7 := by omega
            clear hk hlt
            have HBW : Hid (Below w.heap.size w wr) := HB1.out.trans ((HB2.out.mono HB1.out.size).trans (HN.out.mono (by have := HB1.out.size; omega)))
            have HE : Hid (Env wr (w1.heap.size + 1 + 1 + 1 + 1 + 1) 1 0 r0 r1 r2 r3 r4) := env_of HH.out (hgl.out.below HBW.out)
            have HC : Hid (∀ j, wr.cell? ⟨w1.heap.size + 1, j, none⟩ = RA[j]?) := fun j => (HN.out.cell (by show w1.heap.size + 1 < w1.heap.size + 1 + 1 + 1 + 1 + 1; omega)).trans (cell_of_row W0 _ j RA 36 (0, 0) HX1.out)
            have HSR : Hid (w1.heap.size + 1 < wr.heap.size) := by have h1 := HN.out.size; have h2 := HSZ.out; show _ < _; omega
            go_wp2_with fail
            refine (H8.out _ _ HE.out).mono ?_
            rintro e w3 ⟨rfl, hb3⟩
            have HW : Hid (∀ o j, (w3.alloc o).cell? ⟨w1.heap.size + 1, j, none⟩ = RA[j]?) := fun o j => (((hb3.alloc hb3.size o).cell (by exact HSR.out))).trans (HC.out j)
            have z0 : ∀ o, (w3.alloc o).cell? ⟨w1.heap.size + 1, 9, none⟩ = some (.string S) := fun o => (HW.out o 9).trans y0.out
            have z1 : ∀ o, (w3.alloc o).cell? ⟨w1.heap.size + 1, 9 + 1, none⟩ = some (.int .i64 B) := fun o => (HW.out o 10).trans y1.out
            have z2 : ∀ o, (w3.alloc o).cell? ⟨w1.heap.size + 1, 9 + 2, none⟩ = some (.bool U) := fun o => (HW.out o 11).trans y2.out
            have z3 : ∀ o, (w3.alloc o).cell? ⟨w1.heap.size + 1, 9 + 3, none⟩ = some (.int .i64 R) := fun o => (HW.out o 12).trans y3.out
            have z4 : ∀ o, (w3.alloc o).cell? ⟨w1.heap.size + 1, 18, none⟩ = some (.bool ok) := fun o => (HW.out o 18).trans y4.out
            have HB3 := hide hb3
            clear hb3
            go_wp2
            go_quiet (fail)
            go_wp2
            go_ret
            exact ⟨rfl, below_drewN ((HBW.out.trans (HB3.out.mono HBW.out.size)).alloc (Nat.le_trans HBW.out.size HB3.out.size) _) _⟩

def cs2 (r0 r1 r2 r3 r4 : Int) (j : Nat) : Int := ([0, 1, r0, r1, r2, r3, r4] : List Int).getD j 0
set_option maxRecDepth 100000 in
set_option maxHeartbeats 4000000 in
theorem valid_2 (base sign xv : Int) (x : ByteArray) (w : World) (hb0 : 0 ≤ base) (hb1 : base ≤ 255) (hs0 : 0 ≤ sign) (hs1 : sign ≤ 255) (hsg : sign % 3 = 2) (hxs : Hid (x.size ≤ maxLen)) (hxv : Hid ((Lit.int .i64 xv).wf = true))
    (BS Z RA NM : Array Value) (f : Nat → ByteArray) (hf : Hid (f = nm)) (hgl : Hid (Glob w))
    (hB : Hid (∀ w, Calls Ybad.prog 10 #[] w fun e w' => e = .returned (.agg BS) ∧ Below w.heap.size w w'))
    (hz : ∀ w, (zeroValue 37).run Ybad.prog w = .ok (.agg Z) w) (sB : Hid ((Ybad.prog.info? 37).map (·.size) = some BS.size)) (sZ : Hid (Z.size = BS.size)) (oB : Hid (BS.all (·.oneCell') = true))
    (sR : Hid ((Ybad.prog.info? 36).map (·.size) = some RA.size)) (sY : Hid (20 = RA.size)) (oR : Hid (RA.all (·.oneCell') = true))
    (hrow : Hid (∀ w1 : World, (w1.alloc (.cells BS 37)).rangeAt w1.heap.size ((base % 10).toNat * 20) RA.toList))
    (hN : Hid (∀ w, Calls Ybad.prog 7 #[] w fun e w' => e = .returned (.agg NM) ∧ w' = w.alloc (.cells NM 23)))
    (sN : Hid ((Ybad.prog.info? 23).map (·.size) = some NM.size)) (s7 : Hid (7 = NM.size)) (hNM : Hid (∀ j, j < 7 → NM[j]? = some (.string (f j)))) (oN : Hid (NM.all (·.oneCell') = true))
    (r0 r1 r2 r3 r4 : Int) (S : ByteArray) (B R : Int) (U ok : Bool)
    (q0 : RA[0]? = some (.int .i64 r0)) (q1 : RA[1]? = some (.int .i64 r1)) (q2 : RA[2]? = some (.int .i64 r2)) (q3 : RA[3]? = some (.int .i64 r3)) (q4 : RA[4]? = some (.int .i64 r4))
    (y0 : Hid (RA[13]? = some (.string S))) (y1 : Hid (RA[14]? = some (.int .i64 B))) (y2 : Hid (RA[15]? = some (.bool U))) (y3 : Hid (RA[16]? = some (.int .i64 R))) (y4 : Hid (RA[19]? = some (.bool ok)))
    (hcs : Hid (∀ j, j < 7 → 0 ≤ cs2 r0 r1 r2 r3 r4 j ∧ cs2 r0 r1 r2 r3 r4 j ≤ 3))
    (H8 : Hid (∀ (W : World) (bm : Nat), Env W bm 0 1 r0 r1 r2 r3 r4 → Calls Ybad.prog 8 #[.map (some bm)] W fun e w' => e = .returned (.tuple #[.agg #[.string S, .int .i64 B, .bool U, .int .i64 R], .bool ok]) ∧ Below W.heap.size W w')) :
    Calls Ybad.prog 4 #[.int .u8 base, .int .u8 sign, .string x, .int .i64 xv] w fun e w' => e = .returned (.bool true) ∧ Below w.heap.size w w' := by
  have hmm := @run_makeMap Ybad.prog
  go_enter Ybad.func4, Ybad.ntmps4
  go_wp2_with (first | (go_at_call 10; refine (hB.out _).mono ?_; rintro e w1 ⟨rfl, hbel1⟩) | (refine wpList_store_last rfl 37 (.tmp 9) (.tmp 20) rfl w1 w1.heap.size rfl Z BS 37 rfl rfl sB.out sZ.out oB.out rfl ?_) | (refine wpList_load_row_at rfl 36 (.tmp 24) rfl w1.heap.size ((base % 10).toNat * 20) rfl RA _ (hrow.out w1) Ybad.underlying36 rfl sR.out ?_) | (refine wpList_store_last rfl 36 (.tmp 10) (.tmp 25) rfl (w1.alloc (.cells BS 37)) (w1.heap.size + 1) (by simp) _ RA 36 rfl rfl sR.out (by exact sY.out) oR.out rfl ?_) | (go_at_call 7; refine (hN.out _).mono ?_; rintro e w2 ⟨rfl, rfl⟩)  | (refine wpList_store_last rfl 23 (.tmp 12) (.tmp 29) rfl (((w1.alloc (.cells BS 37)).alloc (.cells RA 36)).alloc (.cells NM 23)) (w1.heap.size + 1 + 1 + 1) (by simp) _ NM 23 rfl rfl sN.out (by exact s7.out) oN.out rfl ?_))
  clear hz hmm q0 q1 q2 q3 q4 hB sB sZ oB sR sY oR hrow hN sN s7 oN
  obtain ⟨hx1, hx3, hx4, hsz, hbel2⟩ := heap6 w1 (.cells BS 37) (.cells RA 36) (.cells NM 23) (.cells NM 23) (.cells #[.int .i64 0, .int .i64 1, .int .i64 r0, .int .i64 r1, .int .i64 r2, .int .i64 r3, .int .i64 r4] 22) (.map #[] 0)
  have hmap : HoldsAt ((((((w1.alloc (.cells BS 37)).alloc (.cells RA 36)).alloc (.cells NM 23)).alloc (.cells NM 23)).alloc (.cells #[.int .i64 0, .int .i64 1, .int .i64 r0, .int .i64 r1, .int .i64 r2, .int .i64 r3, .int .i64 r4] 22)).alloc (.map #[] 0)) (w1.heap.size + 1 + 1 + 1 + 1 + 1) 0 (fun _ => 0) := by
    have h := holds_made (((((w1.alloc (.cells BS 37)).alloc (.cells RA 36)).alloc (.cells NM 23)).alloc (.cells NM 23)).alloc (.cells #[.int .i64 0, .int .i64 1, .int .i64 r0, .int .i64 r1, .int .i64 r2, .int .i64 r3, .int .i64 r4] 22))
    rw [World.size_alloc, World.size_alloc, World.size_alloc, World.size_alloc, World.size_alloc] at h
    exact h
  generalize ((((((w1.alloc (.cells BS 37)).alloc (.cells RA 36)).alloc (.cells NM 23)).alloc (.cells NM 23)).alloc (.cells #[.int .i64 0, .int .i64 1, .int .i64 r0, .int .i64 r1, .int .i64 r2, .int .i64 r3, .int .i64 r4] 22)).alloc (.map #[] 0)) = W0 at hx1 hx3 hx4 hsz hbel2 hmap ⊢
  have hnm : Hid (∀ j, j < 7 → W0.cell? ⟨w1.heap.size + 1 + 1 + 1, j, none⟩ = some (.string (f j))) := fun j hj => by rw [cell_of_row W0 _ j NM 23 (0, 0) hx3]; exact hNM.out j hj
  have hct : Hid (∀ j, j < 7 → W0.cell? ⟨w1.heap.size + 1 + 1 + 1 + 1, j, none⟩ = some (.int .i64 (cs2 r0 r1 r2 r3 r4 j))) := fun j hj => by
    rw [cell_of_row W0 _ j _ 22 (0, 0) hx4]
    match j, hj with
    | 0, _ | 1, _ | 2, _ | 3, _ | 4, _ | 5, _ | 6, _ => rfl
  have HX1 := hide hx1
  have HB1 := hide hbel1
  have HB2 := hide hbel2
  have HSZ := hide hsz
  have HM := hide hmap
  clear hx1 hx3 hx4 hNM hbel1 hbel2 hsz hmap
  go_loop [15, 16] (fun kn i => ∃ k : Nat, k ≤ 7 ∧ i = .int .i64 k ∧ kn = .bool (seen f x k)) (fun _ i => 7 - (intOf i).toNat)
  case atStart => exact ⟨0, by omega, rfl, rfl⟩
  case round =>
    obtain ⟨k, hk, rfl, rfl⟩ := hrel
    by_cases hlt : k < 7
    · have hc := hnm.out k hlt
      have hidx : (k : Int) < 7 := by omega
      go_wp2
      · have ht : ((f k).toList == x.toList) = true := by assumption
        go_round
        case rel => exact ⟨k + 1, by omega, by go_num, by rw [seen_hit ht]⟩
        case measure => simp [intOf]; omega
      · have ht : ((f k).toList == x.toList) = false := by assumption
        go_round
        case rel => exact ⟨k + 1, by omega, by go_num, by rw [seen_miss ht]⟩
        case measure => simp [intOf]; omega
    · obtain rfl : k = 7 := by omega
      clear hk hlt
      cases hse : seen f x 7
      · obtain ⟨w', hrun, hold, hg⟩ := HM.out.other (by unfold maxLen; omega) hxs.out (by rw [← hf.out]; exact seen_not hse) hxv.out
        have HG := hide hg
        have HO : Hid (HoldsAt w' (w1.heap.size + 1 + 1 + 1 + 1 + 1) 1 (fun _ => 0)) := hold
        have HL : Hid (Below (w1.heap.size + 1 + 1 + 1 + 1 + 1) W0 w') := (Below.refl _ _).grown hg (by rw [HSZ.out]; omega) (fun k hk => by cases hk; exact Nat.le_refl _)
        clear hg hold hse
        go_wp2
        clear hrun HG
        go_loopw [17] (fun i wr => ∃ k : Nat, k ≤ 7 ∧ i = .int .i64 k ∧ HoldsAt wr (w1.heap.size + 1 + 1 + 1 + 1 + 1) (k + 1) (fun j => if j < k then cs2 r0 r1 r2 r3 r4 j else 0) ∧ Below (w1.heap.size + 1 + 1 + 1 + 1 + 1) W0 wr) (fun i _ => 7 - (intOf i).toNat)
        case atStart => exact ⟨0, by omega, rfl, HO.out.congr (fun _ _ => by simp), HL.out⟩
        case round =>
          obtain ⟨k, hk, rfl, hold, hnx⟩ := hrel
          have HN := hide hnx
          have HH := hide hold
          clear hnx hold
          by_cases hlt : k < 7
          · have hidx : (k : Int) < 7 := by omega
            have cN : wr.cell? ⟨w1.heap.size + 1 + 1 + 1, k, none⟩ = some (.string (f k)) := (HN.out.cell (by show w1.heap.size + 1 + 1 + 1 < w1.heap.size + 1 + 1 + 1 + 1 + 1; omega)).trans (hnm.out k hlt)
            have cC : wr.cell? ⟨w1.heap.size + 1 + 1 + 1 + 1, k, none⟩ = some (.int .i64 (cs2 r0 r1 r2 r3 r4 k)) := (HN.out.cell (by show w1.heap.size + 1 + 1 + 1 + 1 < w1.heap.size + 1 + 1 + 1 + 1 + 1; omega)).trans (hct.out k hlt)
            have hbd := hcs.out k hlt
            by_cases hc0 : cs2 r0 r1 r2 r3 r4 k = 0
            · have HN' := hide (step_none HH.out hc0)
              have hb : (cs2 r0 r1 r2 r3 r4 k != 0) = false := by simp [hc0]
              clear hc0
              go_wp2
              go_roundw
              case rel => exact ⟨k + 1, by omega, by go_num, HN'.out.mono (by omega), HN.out⟩
              case measure => simp [intOf]; omega
            · have hb : (cs2 r0 r1 r2 r3 r4 k != 0) = true := by simp [hc0]
              obtain ⟨w', hrun, hold', hg⟩ := HH.out.drew.put (by unfold maxLen; omega) hlt (wf_small hbd.1 hbd.2)
              have hrun' : (Instr.mapUpdate 25 (.map (some (w1.heap.size + 1 + 1 + 1 + 1 + 1))) (.string (f k)) (.int .i64 (cs2 r0 r1 r2 r3 r4 k))).run Ybad.prog wr.drew = .ok () w' := by rw [hf.out]; exact hrun
              have HN' := hide (step_put hold')
              have HL' : Hid (Below (w1.heap.size + 1 + 1 + 1 + 1 + 1) W0 w') := HN.out.drew.grown hg (by have := HN.out.size; have := HSZ.out; simp; omega) (fun k hk => by cases hk; exact Nat.le_refl _)
              clear hrun hold' hg hc0
              go_wp2
              go_region
              go_wp2
              go_roundw
              case rel => exact ⟨k + 1, by omega, by go_num, HN'.out, HL'.out⟩
              case measure => simp [intOf]; omega
          · obtain rfl : k = 7 := by omega
            clear hk hlt
            have HBW : Hid (Below w.heap.size w wr) := HB1.out.trans ((HB2.out.mono HB1.out.size).trans (HN.out.mono (by have := HB1.out.size; omega)))
            have HE : Hid (Env wr (w1.heap.size + 1 + 1 + 1 + 1 + 1) 0 1 r0 r1 r2 r3 r4) := env_of HH.out (hgl.out.below HBW.out)
            have HC : Hid (∀ j, wr.cell? ⟨w1.heap.size + 1, j, none⟩ = RA[j]?) := fun j => (HN.out.cell (by show w1.heap.size + 1 < w1.heap.size + 1 + 1 + 1 + 1 + 1; omega)).trans (cell_of_row W0 _ j RA 36 (0, 0) HX1.out)
            have HSR : Hid (w1.heap.size + 1 < wr.heap.size) := by have h1 := HN.out.size; have h2 := HSZ.out; show _ < _; omega
            go_wp2_with fail
            refine (H8.out _ _ HE.out).mono ?_
            rintro e w3 ⟨rfl, hb3⟩
            have HW : Hid (∀ o j, (w3.alloc o).cell? ⟨w1.heap.size + 1, j, none⟩ = RA[j]?) := fun o j => (((hb3.alloc hb3.size o).cell (by exact HSR.out))).trans (HC.out j)
            have z0 : ∀ o, (w3.alloc o).cell? ⟨w1.heap.size + 1, 13, none⟩ = some (.string S) := fun o => (HW.out o 13).trans y0.out
            have z1 : ∀ o, (w3.alloc o).cell? ⟨w1.heap.size + 1, 13 + 1, none⟩ = some (.int .i64 B) := fun o => (HW.out o 14).trans y1.out
            have z2 : ∀ o, (w3.alloc o).cell? ⟨w1.heap.size + 1, 13 + 2, none⟩ = some (.bool U) := fun o => (HW.out o 15).trans y2.out
            have z3 : ∀ o, (w3.alloc o).cell? ⟨w1.heap.size + 1, 13 + 3, none⟩ = some (.int .i64 R) := fun o => (HW.out o 16).trans y3.out
            have z4 : ∀ o, (w3.alloc o).cell? ⟨w1.heap.size + 1, 19, none⟩ = some (.bool ok) := fun o => (HW.out o 19).trans y4.out
            have HB3 := hide hb3
            clear hb3
            go_wp2
            go_quiet (fail)
            go_wp2
            go_ret
            exact ⟨rfl, below_drewN ((HBW.out.trans (HB3.out.mono HBW.out.size)).alloc (Nat.le_trans HBW.out.size HB3.out.size) _) _⟩
      · have HO : Hid (HoldsAt W0 (w1.heap.size + 1 + 1 + 1 + 1 + 1) 1 (fun _ => 0)) := HM.out.mono (by omega)
        have HL : Hid (Below (w1.heap.size + 1 + 1 + 1 + 1 + 1) W0 W0) := Below.refl _ _
        clear hse
        go_wp2
        go_loopw [17] (fun i wr => ∃ k : Nat, k ≤ 7 ∧ i = .int .i64 k ∧ HoldsAt wr (w1.heap.size + 1 + 1 + 1 + 1 + 1) (k + 1) (fun j => if j < k then cs2 r0 r1 r2 r3 r4 j else 0) ∧ Below (w1.heap.size + 1 + 1 + 1 + 1 + 1) W0 wr) (fun i _ => 7 - (intOf i).toNat)
        case atStart => exact ⟨0, by omega, rfl, HO.out.congr (fun _ _ => by simp), HL.out⟩
        case round =>
          obtain ⟨k, hk, rfl, hold, hnx⟩ := hrel
          have HN := hide hnx
          have HH := hide hold
          clear hnx hold
          by_cases hlt : k < 7
          · have hidx : (k : Int) < 7 := by omega
            have cN : wr.cell? ⟨w1.heap.size + 1 + 1 + 1, k, none⟩ = some (.string (f k)) := (HN.out.cell (by show w1.heap.size + 1 + 1 + 1 < w1.heap.size + 1 + 1 + 1 + 1 + 1; omega)).trans (hnm.out k hlt)
            have cC : wr.cell? ⟨w1.heap.size + 1 + 1 + 1 + 1, k, none⟩ = some (.int .i64 (cs2 r0 r1 r2 r3 r4 k)) := (HN.out.cell (by show w1.heap.size + 1 + 1 + 1 + 1 < w1.heap.size + 1 + 1 + 1 + 1 + 1; omega)).trans (hct.out k hlt)
            have hbd := hcs.out k hlt
            by_cases hc0 : cs2 r0 r1 r2 r3 r4 k = 0
            · have HN' := hide (step_none HH.out hc0)
              have hb : (cs2 r0 r1 r2 r3 r4 k != 0) = false := by simp [hc0]
              clear hc0
              go_wp2
              go_roundw
              case rel => exact ⟨k + 1, by omega, by go_num, HN'.out.mono (by omega), HN.out⟩
              case measure => simp [intOf]; omega
            · have hb : (cs2 r0 r1 r2 r3 r4 k != 0) = true := by simp [hc0]
              obtain ⟨w', hrun, hold', hg⟩ := HH.out.drew.put (by unfold maxLen; omega) hlt (wf_small hbd.1 hbd.2)
              have hrun' : (Instr.mapUpdate 25 (.map (some (w1.heap.size + 1 + 1 + 1 + 1 + 1))) (.string (f k)) (.int .i64 (cs2 r0 r1 r2 r3 r4 k))).run Ybad.prog wr.drew = .ok () w' := by rw [hf.out]; exact hrun
              have HN' := hide (step_put hold')
              have HL' : Hid (Below (w1.heap.size + 1 + 1 + 1 + 1 + 1) W0 w') := HN.out.drew.grown hg (by have := HN.out.size; have := HSZ.out; simp; omega) (fun k hk => by cases hk; exact Nat.le_refl _)
              clear hrun hold' hg hc0
              go_wp2
              go_region
              go_wp2
              go_roundw
              case rel => exact ⟨k + 1, by omega, by go_num, HN'.out, HL'.out⟩
              case measure => simp [intOf]; omega
          · obtain rfl : k = 7 := by omega
            clear hk hlt
            have HBW : Hid (Below w.heap.size w wr) := HB1.out.trans ((HB2.out.mono HB1.out.size).trans (HN.out.mono (by have := HB1.out.size; omega)))
            have HE : Hid (Env wr (w1.heap.size + 1 + 1 + 1 + 1 + 1) 0 1 r0 r1 r2 r3 r4) := env_of HH.out (hgl.out.below HBW.out)
            have HC : Hid (∀ j, wr.cell? ⟨w1.heap.size + 1, j, none⟩ = RA[j]?) := fun j => (HN.out.cell (by show w1.heap.size + 1 < w1.heap.size + 1 + 1 + 1 + 1 + 1; omega)).trans (cell_of_row W0 _ j RA 36 (0, 0) HX1.out)
            have HSR : Hid (w1.heap.size + 1 < wr.heap.size) := by have h1 := HN.out.size; have h2 := HSZ.out; show _ < _; omega
            go_wp2_with fail
            refine (H8.out _ _ HE.out).mono ?_
            rintro e w3 ⟨rfl, hb3⟩
            have HW : Hid (∀ o j, (w3.alloc o).cell? ⟨w1.heap.size + 1, j, none⟩ = RA[j]?) := fun o j => (((hb3.alloc hb3.size o).cell (by exact HSR.out))).trans (HC.out j)
            have z0 : ∀ o, (w3.alloc o).cell? ⟨w1.heap.size + 1, 13, none⟩ = some (.string S) := fun o => (HW.out o 13).trans y0.out
            have z1 : ∀ o, (w3.alloc o).cell? ⟨w1.heap.size + 1, 13 + 1, none⟩ = some (.int .i64 B) := fun o => (HW.out o 14).trans y1.out
            have z2 : ∀ o, (w3.alloc o).cell? ⟨w1.heap.size + 1, 13 + 2, none⟩ = some (.bool U) := fun o => (HW.out o 15).trans y2.out
            have z3 : ∀ o, (w3.alloc o).cell? ⟨w1.heap.size + 1, 13 + 3, none⟩ = some (.int .i64 R) := fun o => (HW.out o 16).trans y3.out
            have z4 : ∀ o, (w3.alloc o).cell? ⟨w1.heap.size + 1, 19, none⟩ = some (.bool ok) := fun o => (HW.out o 19).trans y4.out
            have HB3 := hide hb3
            clear hb3
            go_wp2
            go_quiet (fail)
            go_wp2
            go_ret
            exact ⟨rfl, below_drewN ((HBW.out.trans (HB3.out.mono HBW.out.size)).alloc (Nat.le_trans HBW.out.size HB3.out.size) _) _⟩
end Go.Proofs.YbulkbzioDoor
