/-
  Seat b3784aD: THE CARD OF 'LawS3784AModel'.
-/
import Derived.Test.YbulkbzioDoorCards
import Derived.Test.YbulkbzioDoorTie
import Derived.Test.YbulkbzioDoorLaid
import Derived.Test.YbulkbzioDoorModel
import Derived.Test.YbulkbzioDoorExpAny
import Derived.SevenTiedAt
namespace Go.Proofs.YbulkbzioDoor
open Go Go.ChangeShapes Go.WideShapes Go.ChangeAt Go.RowKit

theorem model_any (s u c sh i l b : Int) (w : World) (hs : 0 ≤ s ∧ s ≤ 255) (hu : 0 ≤ u ∧ u ≤ 255) (hc : 0 ≤ c ∧ c ≤ 255) (hh : 0 ≤ sh ∧ sh ≤ 255) (hi : 0 ≤ i ∧ i ≤ 255) (hl : 0 ≤ l ∧ l ≤ 255) (hb : 0 ≤ b ∧ b ≤ 255) (hgl : Glob w) :
    Calls Ybad.prog 3 #[.int .u8 s, .int .u8 u, .int .u8 c, .int .u8 sh, .int .u8 i, .int .u8 l, .int .u8 b] w fun e w' => e = .returned (.bool true) ∧ Below w.heap.size w w' := by
  obtain ⟨p, hp⟩ : ∃ p, spec (s % 4) (u % 4) (c % 4) (sh % 4) (i % 4) (l % 4) (b % 4) = p := ⟨_, rfl⟩
  obtain ⟨n, ok⟩ := p
  have hn : n < 13 := by have := spec_lt (s % 4) (u % 4) (c % 4) (sh % 4) (i % 4) (l % 4) (b % 4); rw [hp] at this; exact this
  exact model_walk s u c sh i l b w hs.1 hs.2 hu.1 hu.2 hc.1 hc.2 hh.1 hh.2 hi.1 hi.2 hl.1 hl.2 hb.1 hb.2 _ _ _ _ _ _ _ rfl rfl rfl rfl rfl rfl rfl NAMES nm rfl hgl names_any size23 rfl names_at oneN
    (tS n) (tB n) (tR n) (tU n) ok
    (spec_call hp hn (by omega) (by omega) (by omega) (by omega) (by omega) (by omega) (by omega))
    (fun W => exp_any _ _ _ _ _ _ _ W (by omega) (by omega) (by omega) (by omega) (by omega) (by omega) (by omega) hp)

theorem model_vars_length {H : Type} {enc : TypeId × Value → H} {P : Program} {w : World} {sp : Nat → Bool} : ∀ {ns : List String} {ds : List (DataW H)} {ps : List MemPlace}, DataW.TrodVars enc P w sp ns ds ps → ds.length = ns.length
  | [], [], _, _ => rfl
  | _ :: ns, _ :: ds, _, h => by
    obtain ⟨_, _, _, _, _, _, _, _, _, _, h5, _⟩ := h
    simp [model_vars_length h5]
  | [], _ :: _, _, h => h.elim
  | _ :: _, [], _, h => h.elim

set_option maxRecDepth 100000 in
theorem model_lifted (os : Os) (started : os.Started) (H : Type) (enc : TypeId × Value → H) :
    ReturnsInHanded {} Ybad.checked os 3 .any (fun w args => (Rows.lawS3784AModelSpec.pre enc Ybad.prog Ybad.f3 [] false w args ∧ laidMetH Ybad.prog laid12 w) ∧ sizedMet enc Ybad.prog Ybad.f3 (OpenSpec.ofChange Rows.lawS3784AModelSpec) false w args)
      (Rows.lawS3784AModelSpec.post enc Ybad.prog Ybad.f3 false true false false) := by
  refine returnsInHanded_of_change_and (C := Ybad.checked) (X := fun w _ => laidMetH Ybad.prog laid12 w) (fun _ _ _ hh h => h.of_heap hh) own started (by kernel_rfl) Ybad.func3
    (ChangeSpec.witness_shaped (enc := enc) (C := Ybad.checked) (os := os) (X := fun w _ => laidMetH Ybad.prog laid12 w) false (World.doorLaid Ybad.prog 400 os) #[.int .u8 0, .int .u8 0, .int .u8 0, .int .u8 0, .int .u8 0, .int .u8 0, .int .u8 0] 8 rfl (World.shaped_of_RefB (by kernel_rfl) (by kernel_rfl)) (by kernel_rfl) (by kernel_rfl) (by kernel_rfl) (door_met os _)) ?_
  intro W base args ds gs before hval0 hW _ _ hL _
  have hval : ∀ (j : Nat) t v, Ybad.f3.params[j]? = some t → args[j]? = some v → Value.okWide Ybad.prog W .any base t v := hval0
  have hW' := hW
  obtain ⟨p, q, hA0, hV0, rfl, hfz, hnd⟩ := hW
  have hA : DataW.TrodAll enc Ybad.prog W 0 (fun _ => true) true Ybad.f3.params.toList args.toList ds p := hA0
  have hV : DataW.TrodVars enc Ybad.prog W (fun _ => true) names12 gs q := hV0
  rw [Ybad.params3] at hA hval
  obtain ⟨v0, vs0, d0, ds0, p0, q0, hargs, rfl, rfl, h0, r0⟩ := trodAll_cons hA
  obtain ⟨v1, vs1, d1, ds1, p1, q1, rfl, rfl, rfl, h1, r1⟩ := trodAll_cons r0
  obtain ⟨v2, vs2, d2, ds2, p2, q2, rfl, rfl, rfl, h2, r2⟩ := trodAll_cons r1
  obtain ⟨v3, vs3, d3, ds3, p3, q3, rfl, rfl, rfl, h3, r3⟩ := trodAll_cons r2
  obtain ⟨v4, vs4, d4, ds4, p4, q4, rfl, rfl, rfl, h4, r4⟩ := trodAll_cons r3
  obtain ⟨v5, vs5, d5, ds5, p5, q5, rfl, rfl, rfl, h5, r5⟩ := trodAll_cons r4
  obtain ⟨v6, vs6, d6, ds6, p6, q6, rfl, rfl, rfl, h6, r6⟩ := trodAll_cons r5
  obtain ⟨rfl, rfl, rfl⟩ := trodAll_nil r6
  obtain rfl : args = #[v0, v1, v2, v3, v4, v5, v6] := by cases args; simp_all
  obtain ⟨a0, rfl, rfl, rfl, w0⟩ := open_int Ybad.underlying5 (hval 0 5 v0 rfl rfl) h0
  obtain ⟨a1, rfl, rfl, rfl, w1⟩ := open_int Ybad.underlying5 (hval 1 5 v1 rfl rfl) h1
  obtain ⟨a2, rfl, rfl, rfl, w2⟩ := open_int Ybad.underlying5 (hval 2 5 v2 rfl rfl) h2
  obtain ⟨a3, rfl, rfl, rfl, w3⟩ := open_int Ybad.underlying5 (hval 3 5 v3 rfl rfl) h3
  obtain ⟨a4, rfl, rfl, rfl, w4⟩ := open_int Ybad.underlying5 (hval 4 5 v4 rfl rfl) h4
  obtain ⟨a5, rfl, rfl, rfl, w5⟩ := open_int Ybad.underlying5 (hval 5 5 v5 rfl rfl) h5
  obtain ⟨a6, rfl, rfl, rfl, w6⟩ := open_int Ybad.underlying5 (hval 6 5 v6 rfl rfl) h6
  have hgl := glob_of_laid hL
  have hlen := model_vars_length hV
  clear hA0 hval0 hV0
  refine (model_any a0 a1 a2 a3 a4 a5 a6 W (bounds_u8 w0) (bounds_u8 w1) (bounds_u8 w2) (bounds_u8 w3) (bounds_u8 w4) (bounds_u8 w5) (bounds_u8 w6) hgl).mono fun e W' ⟨he, bel⟩ => ?_
  subst he
  match gs, hlen with
  | [g1, g2, g3, g4, g5, g6, g7, g8, g9, g10, g11, g12], _ =>
    exact ⟨_, rfl, _, _, _, [], _, q, hW', trodAll_mk1 (shut_bool Ybad.underlying4 _), (trodAll_cons_mk (shut_int Ybad.underlying5 w0) (trodAll_cons_mk (shut_int Ybad.underlying5 w1) (trodAll_cons_mk (shut_int Ybad.underlying5 w2) (trodAll_cons_mk (shut_int Ybad.underlying5 w3) (trodAll_cons_mk (shut_int Ybad.underlying5 w4) (trodAll_cons_mk (shut_int Ybad.underlying5 w5) (trodAll_cons_mk (shut_int Ybad.underlying5 w6) trodAll_mk0))))))), vars_below laidOut bel names12_ok hV, bel.frame _, fun h => by cases h⟩

theorem model_holds : Rows.LawS3784AModelSaid :=
  OpenClaim.holds_of_wide 3 Ybad.f3 rfl rfl rfl rfl rfl rfl rfl ⟨rfl, rfl, rfl, rfl, rfl⟩ rfl rfl rfl rfl rfl (by kernel_rfl) Ybad.func3 (by kernel_rfl)
    (of_decide_eq_true (by kernel_rfl)) (by unfold Func.isWrapper; first | (rw [if_pos (by decide +kernel)]; kernel_rfl) | (rw [if_neg (by decide +kernel)]; exact ⟨rfl, rfl⟩))
    (fun os started H enc _ => model_lifted os started H enc)

/-- ████ THE TIED CARD ████ -/
theorem model_card : Rows.LawS3784AModelCardSaid :=
  Claim7.holds_tied_plain_at .later [] [.data, .data, .data, .data, .data, .data, .data, .data, .data, .data, .data, .data] true (true, "250f5bdb4bf57742571efa555b5be7abe6ddf3e08d5a7563ead4f1c6d4597299") false
    model_holds (fun _ h => by cases h) (by kernel_rfl) (fun _ h => by cases h) lawS3784AModel_row_tie rfl ⟨rfl, rfl⟩ (by kernel_rfl) rfl
    (fun f fn hf hfn => by
      obtain rfl : f = 3 := Option.some.inj ((show Ybad.prog.funcNamed Rows.lawS3784AModelRow.func = some 3 by kernel_rfl).symm.trans hf) |>.symm
      obtain rfl : fn = Ybad.f3 := (Option.some.inj (Ybad.func3.symm.trans hfn)).symm
      exact ⟨by kernel_rfl, fun j t ht => by
        rw [Ybad.params3] at ht
        have hm : t ∈ [5, 5, 5, 5, 5, 5, 5] := by simpa using Array.mem_of_getElem? ht
        have hall : ([5, 5, 5, 5, 5, 5, 5].all fun u => !Ybad.prog.wantsStandIn u) = true := by kernel_rfl
        exact (show Ybad.prog.wantsStandIn t = false by simpa using List.all_eq_true.1 hall t hm)⟩)
    (by kernel_rfl)
#print axioms model_card
end Go.Proofs.YbulkbzioDoor
