/-
  Seat b3784aD: THE CARD OF 'LawS3784AValid'.
-/
import Derived.Test.YbulkbzioDoorCards
import Derived.Test.YbulkbzioDoorTie
import Derived.Test.YbulkbzioDoorLaid
import Derived.Test.YbulkbzioDoorValidAny
import Derived.SevenTiedAt
namespace Go.Proofs.YbulkbzioDoor
open Go Go.ChangeShapes Go.WideShapes Go.ChangeAt Go.RowKit
open Go.ChangeMaps (open_string shut_string)

theorem vars_length {H : Type} {enc : TypeId × Value → H} {P : Program} {w : World} {sp : Nat → Bool} : ∀ {ns : List String} {ds : List (DataW H)} {ps : List MemPlace}, DataW.TrodVars enc P w sp ns ds ps → ds.length = ns.length
  | [], [], _, _ => rfl
  | _ :: ns, _ :: ds, _, h => by
    obtain ⟨_, _, _, _, _, _, _, _, _, _, h5, _⟩ := h
    simp [vars_length h5]
  | [], _ :: _, _, h => h.elim
  | _ :: _, [], _, h => h.elim

set_option maxRecDepth 100000 in
theorem valid_lifted (os : Os) (started : os.Started) (H : Type) (enc : TypeId × Value → H) :
    ReturnsInHanded {} Ybad.checked os 4 .any (fun w args => (Rows.lawS3784AValidSpec.pre enc Ybad.prog Ybad.f4 [] false w args ∧ laidMetH Ybad.prog laid12 w) ∧ sizedMet enc Ybad.prog Ybad.f4 (OpenSpec.ofChange Rows.lawS3784AValidSpec) false w args)
      (Rows.lawS3784AValidSpec.post enc Ybad.prog Ybad.f4 false true false false) := by
  refine returnsInHanded_of_change_and (C := Ybad.checked) (X := fun w _ => laidMetH Ybad.prog laid12 w) (fun _ _ _ hh h => h.of_heap hh) own started (by kernel_rfl) Ybad.func4
    (ChangeSpec.witness_shaped (enc := enc) (C := Ybad.checked) (os := os) (X := fun w _ => laidMetH Ybad.prog laid12 w) false (World.doorLaid Ybad.prog 400 os) #[.int .u8 0, .int .u8 0, .string { data := #[] }, .int .i64 0] 8 rfl (World.shaped_of_RefB (by kernel_rfl) (by kernel_rfl)) (by kernel_rfl) (by kernel_rfl) (by kernel_rfl) (door_met os _)) ?_
  intro W base args ds gs before hval0 hW _ _ hL _
  have hval : ∀ (j : Nat) t v, Ybad.f4.params[j]? = some t → args[j]? = some v → Value.okWide Ybad.prog W .any base t v := hval0
  have hW' := hW
  obtain ⟨p, q, hA0, hV0, rfl, hfz, hnd⟩ := hW
  have hA : DataW.TrodAll enc Ybad.prog W 0 (fun _ => true) true Ybad.f4.params.toList args.toList ds p := hA0
  have hV : DataW.TrodVars enc Ybad.prog W (fun _ => true) names12 gs q := hV0
  rw [Ybad.params4] at hA hval
  obtain ⟨v0, v1, v2, v3, d0, d1, d2, d3, p0, p1, p2, p3, rfl, rfl, rfl, h0, h1, h2, h3⟩ := trodAll_four hA
  obtain ⟨a0, rfl, rfl, rfl, w0⟩ := open_int Ybad.underlying5 (hval 0 5 v0 rfl rfl) h0
  obtain ⟨a1, rfl, rfl, rfl, w1⟩ := open_int Ybad.underlying5 (hval 1 5 v1 rfl rfl) h1
  obtain ⟨a2, rfl, rfl, rfl, w2⟩ := open_string Ybad.underlying9 (hval 2 9 v2 rfl rfl) h2
  obtain ⟨a3, rfl, rfl, rfl, w3⟩ := open_int Ybad.underlying3 (hval 3 3 v3 rfl rfl) h3
  have hgl := glob_of_laid hL
  have hlen := vars_length hV
  clear hA0 hval0 hV0
  have b0 := bounds_u8 w0
  have b1 := bounds_u8 w1
  refine (valid_any a0 a1 a3 a2 W b0.1 b0.2 b1.1 b1.2 w2 w3 hgl).mono fun e W' ⟨he, bel⟩ => ?_
  subst he
  match gs, hlen with
  | [g1, g2, g3, g4, g5, g6, g7, g8, g9, g10, g11, g12], _ =>
    exact ⟨_, rfl, _, _, _, [], [], q, hW', trodAll_mk1 (shut_bool Ybad.underlying4 _), trodAll_mk4 (shut_int Ybad.underlying5 w0) (shut_int Ybad.underlying5 w1) (shut_string Ybad.underlying9 w2) (shut_int Ybad.underlying3 w3), vars_below laidOut bel names12_ok hV, bel.frame _, fun h => by cases h⟩

theorem valid_holds : Rows.LawS3784AValidSaid :=
  OpenClaim.holds_of_wide 4 Ybad.f4 rfl rfl rfl rfl rfl rfl rfl ⟨rfl, rfl, rfl, rfl, rfl⟩ rfl rfl rfl rfl rfl (by kernel_rfl) Ybad.func4 (by kernel_rfl)
    (of_decide_eq_true (by kernel_rfl)) (by unfold Func.isWrapper; first | (rw [if_pos (by decide +kernel)]; kernel_rfl) | (rw [if_neg (by decide +kernel)]; exact ⟨rfl, rfl⟩))
    (fun os started H enc _ => valid_lifted os started H enc)

/-- ████ THE TIED CARD ████ -/
theorem valid_card : Rows.LawS3784AValidCardSaid :=
  Claim7.holds_tied_plain_at .later [] [.data, .data, .data, .data, .data, .data, .data, .data, .data, .data, .data, .data] true (true, "250f5bdb4bf57742571efa555b5be7abe6ddf3e08d5a7563ead4f1c6d4597299") false
    valid_holds (fun _ h => by cases h) (by kernel_rfl) (fun _ h => by cases h) lawS3784AValid_row_tie rfl ⟨rfl, rfl⟩ (by kernel_rfl) rfl
    (fun f fn hf hfn => by
      obtain rfl : f = 4 := Option.some.inj ((show Ybad.prog.funcNamed Rows.lawS3784AValidRow.func = some 4 by kernel_rfl).symm.trans hf) |>.symm
      obtain rfl : fn = Ybad.f4 := (Option.some.inj (Ybad.func4.symm.trans hfn)).symm
      exact ⟨by kernel_rfl, fun j t ht => by
        rw [Ybad.params4] at ht
        have hm : t ∈ [5, 5, 9, 3] := by simpa using Array.mem_of_getElem? ht
        have hall : ([5, 5, 9, 3].all fun u => !Ybad.prog.wantsStandIn u) = true := by kernel_rfl
        exact (show Ybad.prog.wantsStandIn t = false by simpa using List.all_eq_true.1 hall t hm)⟩)
    (by kernel_rfl)
#print axioms valid_card
end Go.Proofs.YbulkbzioDoor
