/-
  Seat b3789a: the walk of '(*CredentialSet).usersWhere' (5) with the law's own closure.
-/
import Derived.Test.YbulkbzlgKeep
namespace Go.Proofs.Ybulkbzlg
open Go Go.RowKit
set_option linter.unusedVariables false
set_option linter.unusedSimpArgs false

/-- One number more: kept if its body is even and it is not the last one kept. -/
def pick (bd : Int → Int) (acc : List Int) (x : Int) : List Int := if ev (bd x) = true ∧ (acc = [] ∨ acc.getLast? ≠ some x) then acc ++ [x] else acc
def picks (bd : Int → Int) (l : List Int) : List Int := l.foldl (pick bd) []
theorem picks_snoc (bd : Int → Int) (l : List Int) (x : Int) : picks bd (l ++ [x]) = pick bd (picks bd l) x := by simp [picks]
theorem take_snoc (l : List Int) (k : Nat) (h : k < l.length) : l.take (k + 1) = l.take k ++ [l.getD k 0] := by
  rw [List.take_succ_eq_append_getElem h]; simp [List.getD, h]
theorem pick_length (bd : Int → Int) (acc : List Int) (x : Int) : (pick bd acc x).length ≤ acc.length + 1 := by
  unfold pick; split <;> simp
theorem picks_length (bd : Int → Int) (l : List Int) (k : Nat) (hk : k ≤ l.length) : (picks bd (l.take k)).length ≤ k := by
  induction k with
  | zero => simp [picks]
  | succ k ih =>
    rw [take_snoc l k (by omega), picks_snoc]
    have h1 := pick_length bd (picks bd (l.take k)) (l.getD k 0)
    have h2 := ih (by omega)
    omega

theorem owns_turn {w w' : World} {A : Nat → Prop} {base : Nat} {v : Value} {n : Nat} {xs : List Value} (h : w.ownsRow base 21 1 v n xs) (ht : Turn w w' A) (hn : ∀ g, v.ownBlock = some g → ¬ A g) : w'.ownsRow base 21 1 v n xs := by
  obtain ⟨h1, h2 | ⟨g, cap, cur, rfl, hb, hh, r⟩⟩ := h
  · exact ⟨h1, .inl h2⟩
  · exact ⟨h1, .inr ⟨g, cap, cur, rfl, hb, ht.heap hh (hn g rfl), r⟩⟩
theorem owns_lt {w : World} {base e size : Nat} {v : Value} {n : Nat} {xs : List Value} (h : w.ownsRow base e size v n xs) {g : Nat} (hg : v.ownBlock = some g) : base ≤ g ∧ g < w.heap.size := h.lt g hg
/-- A row of numbers is not the block of the captured slice. -/
theorem owns_apart {w : World} {base LG : Nat} {v vl : Value} {n : Nat} {xs : List Value} (h : w.ownsRow base 21 1 v n xs) (hL : w.heap[LG]? = some (.cells #[vl] 30 (0, 0))) : v.ownBlock ≠ some LG := by
  obtain ⟨_, ⟨rfl, _⟩ | ⟨g, cap, cur, rfl, _, hh, _⟩⟩ := h
  · intro e; cases e
  · intro e
    have : g = LG := by simpa [Value.ownBlock] using e
    subst this
    rw [hh] at hL
    simp at hL

/-- A cell that holds a number lies in another block than the captured slice. -/
theorem int_ne {w : World} {LG b o : Nat} {a : Option Addr} {n c : Nat} {t : TypeId} {fr : Nat × Nat} {k : IntKind} {z : Int} (hL : w.heap[LG]? = some (.cells #[.slice a n c] t fr)) (hc : w.cell? ⟨b, o, none⟩ = some (.int k z)) : b ≠ LG := by
  intro e
  subst e
  rw [cell_of_row _ _ _ _ _ _ hL] at hc
  cases o with
  | zero => simp at hc
  | succ o => simp at hc
/-- Where the loop stands: the log has 'll', the result 'dd'; the two lie apart; all old memory but the log's own variable is as it was. -/
structure UR (W wr : World) (LG : Nat) (vl vi : Value) (ll dd : List Int) : Prop where
  log : Log wr LG W.heap.size vl ll
  own : wr.ownsRow W.heap.size 21 1 vi dd.length (dd.map (Value.int .i32))
  nil : dd = [] → vi = .slice none 0 0
  sep : ∀ g, vl.ownBlock = some g → vi.ownBlock ≠ some g
  turn : Turn W wr (fun i => i = LG)
theorem UR.keep {W wr w' : World} {LG : Nat} {vl vi vl' : Value} {ll dd : List Int} {id : Int} (h : UR W wr LG vl vi ll dd) (hl : Log w' LG W.heap.size vl' (ll ++ [id])) (ht : Turn wr w' (fun i => i = LG ∨ vl.ownBlock = some i))
    (hloc : vl'.ownBlock = vl.ownBlock ∨ ∃ g, wr.heap.size ≤ g ∧ vl'.ownBlock = some g) : UR W w' LG vl' vi (ll ++ [id]) dd where
  log := hl
  own := owns_turn h.own ht (fun g hg hA => by
    rcases hA with rfl | hA
    · exact owns_apart h.own h.log.1 hg
    · exact h.sep g hA hg)
  nil := h.nil
  sep g hg hi := by
    rcases hloc with e | ⟨g', h1, e⟩
    · exact h.sep g (e ▸ hg) hi
    · have : g' = g := Option.some.inj (e.symm.trans hg)
      have := (owns_lt h.own hi).2
      omega
  turn := (h.turn.trans ht).mono (fun i hi hA => by
    rcases hA with hA | hA | hA
    · exact hA
    · exact hA
    · have := (owns_lt h.log.2 hA).1
      omega)
theorem UR.push {W w' w'' : World} {LG : Nat} {vl vi v'' : Value} {ll dd : List Int} {id : Int} {o : Obj} (h : UR W w' LG vl vi ll dd) (ho : w''.ownsRow W.heap.size 21 1 v'' (dd.length + 1) (dd.map (Value.int .i32) ++ [.int .i32 id]))
    (hg : (w'.alloc o).grownBy w'' vi.ownBlock) (hloc : v''.ownBlock = vi.ownBlock ∨ v''.ownBlock = some (w'.heap.size + 1)) : UR W w'' LG vl v'' ll (dd ++ [id]) := by
  have ht : Turn w' w'' (fun i => vi.ownBlock = some i) := ((turn_alloc w' o (fun _ => False)).trans (turn_grown hg)).mono (fun i _ h => h.elim False.elim (fun x => x))
  refine ⟨⟨ht.heap h.log.1 (owns_apart h.own h.log.1), owns_turn h.log.2 ht (fun g hg hA => h.sep g hg hA)⟩, ?_, fun e => absurd e (by simp), ?_, ?_⟩
  · rw [List.length_append, List.map_append]; exact ho
  · intro g hgl hgi
    rcases hloc with e | e
    · exact h.sep g hgl (e ▸ hgi)
    · have := (owns_lt h.log.2 hgl).2
      have : w'.heap.size + 1 = g := Option.some.inj (e.symm.trans hgi)
      omega
  · exact (h.turn.trans ht).mono (fun i hi hA => by
      rcases hA with hA | hA
      · exact hA
      · have := (owns_lt h.own hA).1
        omega)

set_option maxRecDepth 100000 in
set_option maxHeartbeats 4000000 in
theorem users_any (W : World) (S m n LG NB CB SM KB cb co cc : Nat) (L : Nat → List Int) (l : List Int) (e : Int) (he0 : -2147483648 ≤ e) (he1 : e ≤ 2147483647) (hd bd : Int → Int) (hm : m ≤ 1024) (hn : n ≤ 1024)
    (hidx : Hid (Idx W S 18 m L)) (hat : Hid (at_ L m e = l)) (hgood : Hid (∀ x ∈ l, 0 ≤ x ∧ x < n)) (hlen : Hid (l.length ≤ 1024))
    (hK : W.cell? ⟨S, 13, none⟩ = some (.slice (some ⟨KB, 0, none⟩) n n)) (hKc : Hid (∀ x : Nat, x < n → W.cell? ⟨KB, x * 2, none⟩ = some (.int .i32 (hd x)) ∧ W.cell? ⟨KB, x * 2 + 1, none⟩ = some (.int .i32 (bd x))))
    (hN : Hid (W.cell? ⟨NB, 0, none⟩ = some (.int .i64 n))) (hC : Hid (0 < n → W.cell? ⟨CB, 0, none⟩ = some (.slice (some ⟨cb, co, none⟩) n cc)))
    (hCc : Hid (∀ x : Nat, x < n → W.cell? ⟨cb, co + x * 2, none⟩ = some (.int .i32 (hd x)) ∧ W.cell? ⟨cb, co + x * 2 + 1, none⟩ = some (.int .i32 (bd x))))
    (hL : Hid (W.heap[LG]? = some (.cells #[.slice none 0 0] 30 (0, 0)))) (nCL : Hid (CB ≠ LG)) (nSL : Hid (S ≠ LG)) :
    Calls Yba.prog 5 #[.pointer (some ⟨S, 0, none⟩), .int .i32 e, .func (.func 4) #[] #[.pointer (some ⟨LG, 0, none⟩), .pointer (some ⟨NB, 0, none⟩), .pointer (some ⟨CB, 0, none⟩), .pointer (some ⟨SM, 0, none⟩)]] W fun r w' =>
      ∃ vl vi, r = .returned vi ∧ UR W w' LG vl vi l (picks bd l) := by
  obtain ⟨i0, hi, hz0, hz1, hz2⟩ := info_parts info21
  go_enter Yba.func5, Yba.ntmps5
  go_wp2_with fail
  refine (of_any hidx.out hm e he0 he1).mono ?_
  rintro r w1 ⟨⟨v, rfl, his⟩, kq, rfl⟩
  rw [hat.out] at his
  obtain ⟨a, c, rfl, hia⟩ := his
  have HIA := hide hia
  clear hia hidx hat
  obtain ⟨nl, hnl⟩ : ∃ nl, l.length = nl := ⟨_, rfl⟩
  rw [hnl] at hlen ⊢
  have HNL := hide hnl
  clear hnl
  have hln : nl ≤ 1024 := hlen.out
  go_wp2
  go_loopw [7, 16] (fun vi i wr => ∃ (k : Nat) (vl : Value), k ≤ nl ∧ i = .int .i64 k ∧ UR W wr LG vl vi (l.take k) (picks bd (l.take k))) (fun _ i _ => nl - (intOf i).toNat)
  case atStart => exact ⟨0, .slice none 0 0, Nat.zero_le _, rfl, ⟨⟨hL.out, World.ownsRow_nil _ _ _ _⟩, World.ownsRow_nil _ _ _ _, fun _ => rfl, (fun g h => by cases h), turn_draws W _ _⟩⟩
  case round =>
    obtain ⟨k, vl, hk, rfl, hur⟩ := hrel
    have HUR := hide hur
    clear hur
    by_cases hlt : k < nl
    · have hkl : k < l.length := by rw [HNL.out]; exact hlt
      obtain ⟨b, o, rfl, hcl⟩ := HIA.out (by intro e; rw [e] at hkl; simp at hkl)
      have hcW := hcl k hkl
      obtain ⟨x, hx, hxn⟩ : ∃ x : Nat, l.getD k 0 = x ∧ x < n := by
        have hm := hgood.out (l.getD k 0) (by rw [List.getD, List.getElem?_eq_getElem hkl]; exact List.getElem_mem hkl)
        exact ⟨(l.getD k 0).toNat, by omega, by omega⟩
      have HTS : Hid (l.take (k + 1) = l.take k ++ [(x : Int)]) := by rw [← hx]; exact take_snoc l k hkl
      rw [hx] at hcW
      have hn0 : 0 < n := by omega
      have HT := hide HUR.out.turn
      have cI : wr.cell? ⟨b, o + k, none⟩ = some (.int .i32 x) := HT.out.cell hcW (int_ne hL.out hcW)
      have cS : wr.cell? ⟨S, 13, none⟩ = some (.slice (some ⟨KB, 0, none⟩) n n) := HT.out.cell hK nSL.out
      have kh : wr.cell? ⟨KB, x * 2, none⟩ = some (.int .i32 (hd x)) := HT.out.cell (hKc.out x hxn).1 (int_ne hL.out (hKc.out x hxn).1)
      have kb : wr.cell? ⟨KB, x * 2 + 1, none⟩ = some (.int .i32 (bd x)) := HT.out.cell (hKc.out x hxn).2 (int_ne hL.out (hKc.out x hxn).1)
      have hKP : Hid (Calls Yba.prog 4 #[.int .i32 (x : Int), .agg #[.int .i32 (hd x), .int .i32 (bd x)], .pointer (some ⟨LG, 0, none⟩), .pointer (some ⟨NB, 0, none⟩), .pointer (some ⟨CB, 0, none⟩), .pointer (some ⟨SM, 0, none⟩)] wr fun e w' =>
          e = .returned (.bool (ev (bd x))) ∧ ∃ vl', Log w' LG W.heap.size vl' (l.take k ++ [(x : Int)]) ∧ Turn wr w' (fun i => i = LG ∨ vl.ownBlock = some i) ∧ (vl'.ownBlock = vl.ownBlock ∨ ∃ g, wr.heap.size ≤ g ∧ vl'.ownBlock = some g)) := by
        have hge : ∀ p, p < W.heap.size → vl.ownBlock ≠ some p := fun p hp h => by have := (owns_lt HUR.out.log.2 h).1; omega
        refine keep_any x (hd x) (bd x) 0 LG NB CB SM cb co cc W.heap.size n vl (l.take k) wr (by omega) (by omega) hn (by rw [List.length_take]; omega) HT.out.size HUR.out.log (HT.out.cell hN.out (int_ne hL.out hN.out)) (HT.out.cell (hC.out hn0) nCL.out) ?_ ?_ (int_ne hL.out hN.out) nCL.out (int_ne hL.out (hCc.out x hxn).1)
          (hge _ (block_lt_of_cell hN.out)) (hge _ (block_lt_of_cell (hC.out hn0))) (hge _ (block_lt_of_cell (hCc.out x hxn).1))
        · rw [Int.toNat_natCast]; exact HT.out.cell (hCc.out x hxn).1 (int_ne hL.out (hCc.out x hxn).1)
        · rw [Int.toNat_natCast]; exact HT.out.cell (hCc.out x hxn).2 (int_ne hL.out (hCc.out x hxn).1)
      have hki : (k : Int) < nl := by omega
      have hxi : (x : Int) < n := by omega
      clear hcl hcW hx hK
      have HPL := hide (picks_length bd l k (by omega))
      obtain ⟨dd, hdd⟩ : ∃ dd, picks bd (l.take k) = dd := ⟨_, rfl⟩
      rw [hdd] at HUR HPL
      have HDD : Hid (picks bd (l.take (k + 1)) = pick bd dd x) := by rw [HTS.out, picks_snoc, hdd]; rfl
      clear hdd
      cases hev : ev (bd x) with
      | false =>
        have HP : Hid (pick bd dd x = dd) := by unfold pick; rw [if_neg (by rw [hev]; simp)]; rfl
        rw [hev] at hKP
        clear hev
        go_wp2_with fail
        refine hKP.out.mono ?_
        rintro e w' ⟨rfl, vl', hlog', hturn', hloc'⟩
        have HU := hide (HUR.out.keep hlog' hturn' hloc')
        clear hlog' hturn' hloc'
        go_wp2
        go_roundw
        case rel => exact ⟨k + 1, vl', by omega, by go_num, by rw [HDD.out, HP.out, HTS.out]; exact HU.out⟩
        case measure => simp [intOf]; omega
      | true =>
        by_cases hd0 : dd = []
        · have HP : Hid (pick bd dd x = dd ++ [(x : Int)]) := by unfold pick; rw [if_pos ⟨hev, .inl hd0⟩]; rfl
          obtain rfl := HUR.out.nil hd0
          rw [hev] at hKP
          have hl0 : dd.length = 0 := by rw [hd0]; rfl
          have HD0 := hide hd0
          clear hev hd0
          go_wp2_with fail
          refine hKP.out.mono ?_
          rintro e w' ⟨rfl, vl', hlog', hturn', hloc'⟩
          have HU := hide (HUR.out.keep hlog' hturn' hloc')
          clear hlog' hturn' hloc'
          have HO : Hid (w'.ownsRow W.heap.size 21 1 (.slice none 0 0) 0 []) := World.ownsRow_nil _ _ _ _
          go_wp2_with (first | (at_builtin; refine wpList_append_own_at _ rfl (.tmp 45) (.tmp 47) 30 rfl W.heap.size 21 i0 (.int .i32 0) 1 4 Yba.underlying30 hi hz0 hz1 hz2 rfl (by decide) _ _ _ rfl (HO.out.alloc _) ⟨w'.heap.size, 0, none⟩ 1 1 [.int .i32 (x : Int)] rfl rfl (cell_one_new _ _ _) (ints_oneCell .i32 [(x : Int)]) ?_ ?_ ?_ ?_))
          · unfold maxLen; omega
          · omega
          · have h1 := HU.out.turn.size; rw [World.size_alloc]; omega
          · intro v'' w'' hown'' hgrow _ hloc
            have HF : Hid (UR W w'' LG vl' v'' (l.take k ++ [(x : Int)]) (dd ++ [(x : Int)])) := HU.out.push (by rw [HD0.out]; simpa using hown'') hgrow (by simpa using hloc)
            clear hown'' hgrow hloc
            go_wp2
            go_roundw
            case rel => exact ⟨k + 1, vl', by omega, by go_num, by rw [HDD.out, HP.out, HTS.out]; exact HF.out⟩
            case measure => simp [intOf]; omega
        · obtain ⟨g, cap, hvi⟩ : ∃ g cap, u7 = .slice (some ⟨g, 0, none⟩) dd.length cap := by
            obtain ⟨_, ⟨_, h0⟩ | ⟨g, cap, _, hv, _⟩⟩ := HUR.out.own
            · exact absurd (List.length_eq_zero_iff.1 h0) hd0
            · exact ⟨g, cap, hv⟩
          subst hvi
          obtain ⟨dl, hdl⟩ : ∃ dl, dd.length = dl + 1 := ⟨dd.length - 1, by have := List.length_pos_iff.2 hd0; omega⟩
          obtain ⟨z, hz⟩ : ∃ z, dd.getLast? = some z := ⟨dd.getLast hd0, List.getLast?_eq_some_getLast hd0⟩
          have HZC : Hid ((dd.map (Value.int .i32))[dl]? = some (.int .i32 z)) := by
            rw [List.getLast?_eq_getElem?, hdl] at hz
            simp at hz
            show _ = _
            simp [hz]
          have hdk : dl + 1 ≤ k := by rw [← hdl]; exact HPL.out
          rw [hev] at hKP
          by_cases hzx : z = x
          · have HP : Hid (pick bd dd x = dd) := by
              unfold pick
              rw [if_neg (by
                rintro ⟨_, h | h⟩
                · exact hd0 h
                · exact h (by rw [hz, hzx]))]
              rfl
            have hb : (z != (x : Int)) = false := by simp [hzx]
            have HDL := hide hdl
            clear hev hd0 hz hzx
            rw [hdl]
            clear hdl
            go_wp2_with fail
            refine hKP.out.mono ?_
            rintro e w' ⟨rfl, vl', hlog', hturn', hloc'⟩
            have HU := hide (HUR.out.keep hlog' hturn' hloc')
            clear hlog' hturn' hloc'
            have cz : w'.cell? ⟨g, dl, none⟩ = some (.int .i32 z) := by
              have h := HU.out.own.cellAt dl (by rw [HDL.out]; omega)
              rw [h]; exact HZC.out
            go_wp2
            go_roundw
            case rel => exact ⟨k + 1, vl', by omega, by go_num, by rw [HDD.out, HP.out, HTS.out, ← HDL.out]; exact HU.out⟩
            case measure => simp [intOf]; omega
          · have HP : Hid (pick bd dd x = dd ++ [(x : Int)]) := by
              unfold pick
              rw [if_pos ⟨hev, .inr (by rw [hz]; intro e; exact hzx (Option.some.inj e))⟩]
              rfl
            have hb : (z != (x : Int)) = true := by simp [hzx]
            have HDL := hide hdl
            clear hev hd0 hz hzx
            rw [hdl]
            clear hdl
            go_wp2_with fail
            refine hKP.out.mono ?_
            rintro e w' ⟨rfl, vl', hlog', hturn', hloc'⟩
            have HU := hide (HUR.out.keep hlog' hturn' hloc')
            clear hlog' hturn' hloc'
            have cz : w'.cell? ⟨g, dl, none⟩ = some (.int .i32 z) := by
              have h := HU.out.own.cellAt dl (by rw [HDL.out]; omega)
              rw [h]; exact HZC.out
            have HO : Hid (w'.ownsRow W.heap.size 21 1 (.slice (some ⟨g, 0, none⟩) (dl + 1) cap) (dl + 1) (dd.map (Value.int .i32))) := by
              have h := HU.out.own
              rw [HDL.out] at h; exact h
            go_wp2_with (first | (at_builtin; refine wpList_append_own_at _ rfl (.tmp 45) (.tmp 47) 30 rfl W.heap.size 21 i0 (.int .i32 0) 1 4 Yba.underlying30 hi hz0 hz1 hz2 rfl (by decide) _ _ _ rfl (HO.out.alloc _) ⟨w'.heap.size, 0, none⟩ 1 1 [.int .i32 (x : Int)] rfl rfl (cell_one_new _ _ _) (ints_oneCell .i32 [(x : Int)]) ?_ ?_ ?_ ?_))
            · unfold maxLen; omega
            · omega
            · have h1 := HU.out.turn.size; rw [World.size_alloc]; omega
            · intro v'' w'' hown'' hgrow _ hloc
              have HF : Hid (UR W w'' LG vl' v'' (l.take k ++ [(x : Int)]) (dd ++ [(x : Int)])) := HU.out.push (by rw [HDL.out]; exact hown'') hgrow (by first | exact hloc | (rw [World.size_alloc] at hloc; exact hloc))
              clear hown'' hgrow hloc
              go_wp2
              go_roundw
              case rel => exact ⟨k + 1, vl', by omega, by go_num, by rw [HDD.out, HP.out, HTS.out]; exact HF.out⟩
              case measure => simp [intOf]; omega
    · obtain rfl : k = nl := by omega
      clear hlt hk
      have HF : Hid (UR W wr LG vl u7 l (picks bd l)) := by have h := HUR.out; rw [List.take_of_length_le (by rw [HNL.out]; exact Nat.le_refl _)] at h; exact h
      clear HUR
      go_wp2
      go_ret
      exact ⟨vl, _, rfl, HF.out⟩
end Go.Proofs.Ybulkbzlg
