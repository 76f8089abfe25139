/-
  Seat b3787a: the walks of the two methods on the road: dataParent (14) and memberName (12); pointers compared.
-/
import Derived.Test.YbulkbzkeProg
import Derived.WalkKit
import Derived.Deep.LoopGhost
import Derived.Deep.QuietTactic
import Derived.BigQuiet
import Derived.WalkSmall
import Derived.LaidEql
namespace Go.Proofs.Ybulkbzke
open Go Go.RowKit
set_option linter.unusedVariables false
set_option linter.unusedSimpArgs false

theorem hide {p : Prop} (h : p) : Hid p := h

/-- From the node in block b, d steps up over choices and cases, lies the node in block r, which is neither. -/
def Up (w : World) : Nat → Nat → Nat → Prop
  | 0, b, r => r = b ∧ ∃ kd : Int, w.cell? ⟨b, 0, none⟩ = some (.int .i64 kd) ∧ (kd == 6) = false ∧ (kd == 7) = false
  | d + 1, b, r => ∃ (kd : Int) (b' : Nat), w.cell? ⟨b, 0, none⟩ = some (.int .i64 kd) ∧ (kd = 6 ∨ kd = 7) ∧ w.cell? ⟨b, 4, none⟩ = some (.pointer (some ⟨b', 0, none⟩)) ∧ Up w d b' r

theorem Up.below {w w' : World} (hb : Below w.heap.size w w') : ∀ {d b r : Nat}, Up w d b r → Up w' d b r
  | 0, b, r, ⟨e, kd, hc, h⟩ => ⟨e, kd, (hb.cell (p := ⟨b, 0, none⟩) (block_lt_of_cell hc)).trans hc, h⟩
  | d + 1, b, r, ⟨kd, b', hc, hk, hp, h⟩ => ⟨kd, b', (hb.cell (p := ⟨b, 0, none⟩) (block_lt_of_cell hc)).trans hc, hk, (hb.cell (p := ⟨b, 4, none⟩) (block_lt_of_cell hp)).trans hp, Up.below hb h⟩

set_option maxHeartbeats 1000000 in
theorem parent_any (n b r d : Nat) (w : World) (hp : w.cell? ⟨n, 4, none⟩ = some (.pointer (some ⟨b, 0, none⟩))) (hu : Hid (Up w d b r)) :
    Calls Yba.prog 14 #[.pointer (some ⟨n, 0, none⟩)] w fun e w' => e = .returned (.pointer (some ⟨r, 0, none⟩)) ∧ w' = w := by
  go_enter Yba.func14, Yba.ntmps14
  go_wp2
  go_loopg [3] d (fun k p wr => ∃ b, p = .pointer (some ⟨b, 0, none⟩) ∧ Hid (Up w k b r) ∧ wr = w)
  case atStart => exact ⟨b, rfl, hu, rfl⟩
  case round =>
    obtain ⟨b', rfl, hu', rfl⟩ := hrel
    cases gk with
    | zero =>
      obtain ⟨rfl, kd, hc, h6, h7⟩ := hu'.out
      clear hu' hu
      go_wp2
      go_ret
      exact ⟨rfl, rfl⟩
    | succ k =>
      obtain ⟨kd, b2, hc, hk, hp2, hu2⟩ := hu'.out
      have HU := hide hu2
      clear hu' hu hu2
      rcases hk with rfl | rfl
      all_goals
        go_wp2
        go_roundg k
        case measure => omega
        case rel => exact ⟨b2, rfl, HU, rfl⟩

theorem Up.draws {w : World} {d b r : Nat} (h : Up w d b r) (n : Nat) : Up (w.drewN n) d b r := h.below (below_drewN (Below.refl _ _) n)
/-- The call inside a region that draws its order. -/
theorem parent_quiet (n b r d m : Nat) (w : World) (hp : w.cell? ⟨n, 4, none⟩ = some (.pointer (some ⟨b, 0, none⟩))) (hu : Up w d b r) :
    Calls Yba.prog 14 #[.pointer (some ⟨n, 0, none⟩)] (w.drewN m) fun e w'' => e = .returned (.pointer (some ⟨r, 0, none⟩)) ∧ ∃ k, w'' = w.drewN k :=
  Calls.quiet_of_same (parent_any n b r d (w.drewN m) hp (hu.draws m))

/-! Pointers compared. -/
theorem run_equalIn_ptr_same {P : Program} {t e : TypeId} (d : Nat) (ht : P.underlying t = some (.pointer e)) (hs : (P.info? e).map (fun i => i.size == 0) = some false) (a : Addr) (w : World) : (Op.equalIn (d + 1) t (.pointer (some a)) (.pointer (some a))).run P w = .ok true w := by
  cases hq : P.info? e with
  | none => simp [hq] at hs
  | some i =>
    have hi : i.size ≠ 0 := by simpa [hq] using hs
    simp [Op.equalIn, run_underlying ht, sizeOf, typeInfo, hq, hi, run_sameAddr_same]
theorem run_equalIn_ptr_other {P : Program} {t e : TypeId} (d : Nat) (ht : P.underlying t = some (.pointer e)) (hs : (P.info? e).map (fun i => i.size == 0) = some false) {a b : Addr} (w : World) (hne : a ≠ b) {ca cb : Array Value} {ta tb : TypeId}
    (ha : w.heap[a.block]? = some (.cells ca ta (0, 0))) (hb : w.heap[b.block]? = some (.cells cb tb (0, 0))) : (Op.equalIn (d + 1) t (.pointer (some a)) (.pointer (some b))).run P w = .ok false w := by
  cases hq : P.info? e with
  | none => simp [hq] at hs
  | some i =>
    have hi : i.size ≠ 0 := by simpa [hq] using hs
    simp [Op.equalIn, run_underlying ht, sizeOf, typeInfo, hq, hi, run_sameAddr_other w hne ha hb]
theorem run_equalIn_nil_ptr {P : Program} {t e : TypeId} (d : Nat) (ht : P.underlying t = some (.pointer e)) (b : Addr) (w : World) : (Op.equalIn (d + 1) t (.pointer none) (.pointer (some b))).run P w = .ok false w := by
  simp [Op.equalIn, run_underlying ht]
theorem run_equal_ptr_same {P : Program} {t e : TypeId} (ht : P.underlying t = some (.pointer e)) (hs : (P.info? e).map (fun i => i.size == 0) = some false) (a : Addr) (w : World) : (Op.equal t (.pointer (some a)) (.pointer (some a))).run P w = .ok true w :=
  run_equalIn_ptr_same 9999 ht hs a w
theorem run_equal_ptr_other {P : Program} {t e : TypeId} (ht : P.underlying t = some (.pointer e)) (hs : (P.info? e).map (fun i => i.size == 0) = some false) {a b : Addr} (w : World) (hne : a ≠ b) {ca cb : Array Value} {ta tb : TypeId}
    (ha : w.heap[a.block]? = some (.cells ca ta (0, 0))) (hb : w.heap[b.block]? = some (.cells cb tb (0, 0))) : (Op.equal t (.pointer (some a)) (.pointer (some b))).run P w = .ok false w :=
  run_equalIn_ptr_other 9999 ht hs w hne ha hb
theorem run_equal_nil_ptr {P : Program} {t e : TypeId} (ht : P.underlying t = some (.pointer e)) (b : Addr) (w : World) : (Op.equal t (.pointer none) (.pointer (some b))).run P w = .ok false w :=
  run_equalIn_nil_ptr 9999 ht b w
theorem run_neq_of {P : Program} {t : TypeId} {x y : Option Addr} {w : World} {c : Bool} (h : (Op.equal t (.pointer x) (.pointer y)).run P w = .ok c w) : (binOp .neq t (.pointer x) (.pointer y)).run P w = .ok (.bool !c) w := by
  simp only [binOp]
  simp [h]
theorem run_eql_of {P : Program} {t : TypeId} {x y : Option Addr} {w : World} {c : Bool} (h : (Op.equal t (.pointer x) (.pointer y)).run P w = .ok c w) : (binOp .eql t (.pointer x) (.pointer y)).run P w = .ok (.bool c) w := by
  simp only [binOp]
  simp [h]
theorem size45 : (Yba.prog.info? 45).map (fun i => i.size == 0) = some false := by kernel_rfl
theorem size62 : (Yba.prog.info? 62).map (fun i => i.size == 0) = some false := by kernel_rfl

set_option maxHeartbeats 1000000 in
theorem member_same (n b r d bm : Nat) (w : World) (name : ByteArray) (hp : w.cell? ⟨n, 4, none⟩ = some (.pointer (some ⟨b, 0, none⟩))) (hu : Hid (Up w d b r))
    (hn : w.cell? ⟨n, 1, none⟩ = some (.string name)) (hm : w.cell? ⟨n, 2, none⟩ = some (.pointer (some ⟨bm, 0, none⟩))) (hr : w.cell? ⟨r, 2, none⟩ = some (.pointer (some ⟨bm, 0, none⟩)))
    (hneq : ∀ k, (binOp .neq 33 (.pointer (some ⟨bm, 0, none⟩)) (.pointer (some ⟨bm, 0, none⟩))).run Yba.prog (w.drewN k) = .ok (.bool false) (w.drewN k)) :
    Calls Yba.prog 12 #[.pointer (some ⟨n, 0, none⟩)] w fun e w' => e = .returned (.string name) ∧ ∃ k, w' = w.drewN k := by
  go_enter Yba.func12, Yba.ntmps12
  go_wp2
  go_quiet ((go_at_call 14; exact parent_quiet n b r d _ w hp hu.out))
  go_wp2
  go_ret
  exact ⟨rfl, _, rfl⟩
set_option maxHeartbeats 1000000 in
theorem member_other (n b r d bm : Nat) (mr : Option Addr) (w : World) (name mname : ByteArray) (hp : w.cell? ⟨n, 4, none⟩ = some (.pointer (some ⟨b, 0, none⟩))) (hu : Hid (Up w d b r))
    (hn : w.cell? ⟨n, 1, none⟩ = some (.string name)) (hm : w.cell? ⟨n, 2, none⟩ = some (.pointer (some ⟨bm, 0, none⟩))) (hr : w.cell? ⟨r, 2, none⟩ = some (.pointer mr))
    (hneq : ∀ k, (binOp .neq 33 (.pointer mr) (.pointer (some ⟨bm, 0, none⟩))).run Yba.prog (w.drewN k) = .ok (.bool true) (w.drewN k))
    (hmn : w.cell? ⟨bm, 0, none⟩ = some (.string mname)) (hs : Hid (mname.size + 1 + name.size ≤ 9223372036854775807)) :
    Calls Yba.prog 12 #[.pointer (some ⟨n, 0, none⟩)] w fun e w' => e = .returned (.string (mname ++ { data := #[58] } ++ name)) ∧ ∃ k, w' = w.drewN k := by
  have s1 := fun x => run_string_add_sum (P := Yba.prog) x mname { data := #[58] } (by have := hs.out; show _ + 1 ≤ _; omega)
  have s2 := fun x => run_string_add_sum (P := Yba.prog) x (mname ++ { data := #[58] }) name (by have := hs.out; rw [ByteArray.size_append]; exact this)
  go_enter Yba.func12, Yba.ntmps12
  go_wp2
  go_quiet ((go_at_call 14; exact parent_quiet n b r d _ w hp hu.out))
  go_wp2
  go_quiet (fail)
  go_wp2
  go_ret
  exact ⟨rfl, _, World.drewN_drewN _ _ _⟩
end Go.Proofs.Ybulkbzke
