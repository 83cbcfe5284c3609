/-
  The walk of inOrder at 12 members or fewer: insertion in place.
-/
import Derived.Test.Qxb6602415aOwn
import Derived.Test.Qxb6602415aOrd
import Derived.Test.Qxb6602415aStrs
import Derived.RegionTactic
import Derived.BigRegion
import Derived.Deep.DeepCutAuto
namespace Go.Proofs.Qxb6602415a
open Go.RowKit Go.Maps
set_option linter.unusedVariables false

/-- What stood there, then f. -/
def ext (pre : Nat → Value) (start : Nat) (f : Nat → Nat) : Nat → Value := fun t => if t < start then pre t else .int .i64 (f (t - start) : Int)

theorem ext_append (pre : Nat → Value) (start k : Nat) (f : Nat → Nat) (t : Nat) (ht : t < start + k + 1) : (if t = start + k then .int .i64 (k : Int) else ext pre start f t) = ext pre start (ins f k k) t := by
  unfold ext
  by_cases h1 : t < start
  · simp [h1, show t ≠ start + k by omega]
  · simp only [h1, if_false]
    rw [ins_end f k (t - start) (by omega)]
    by_cases h2 : t = start + k
    · simp [h2]
    · simp [h2, show t - start ≠ k by omega]
theorem ext_at (pre : Nat → Value) (start : Nat) (f : Nat → Nat) (j : Nat) : ext pre start f (start + j) = .int .i64 (f j : Int) := by
  unfold ext; simp [show ¬ start + j < start by omega]
theorem ext_swap (pre : Nat → Value) (start k j : Nat) (f : Nat → Nat) (hj : 0 < j) (F : Nat → Value) (N : Nat) (hF : ∀ t, t < N → F t = ext pre start (ins f k j) t) (t : Nat) (ht : t < N) :
    upd (upd F (start + j) (.int .i64 (ins f k j (j - 1) : Int))) (start + (j - 1)) (.int .i64 (ins f k j j : Int)) t = ext pre start (ins f k (j - 1)) t := by
  by_cases h1 : t = start + (j - 1)
  · subst h1; rw [upd_same, ext_at, ins_step f k j hj]; simp [show j - 1 ≠ j by omega]
  · rw [upd_other _ _ _ _ h1]
    by_cases h2 : t = start + j
    · subst h2; rw [upd_same, ext_at, ins_step f k j hj]; simp
    · rw [upd_other _ _ _ _ h2, hF t ht]
      unfold ext
      by_cases h3 : t < start
      · simp [h3]
      · simp only [h3, if_false]
        rw [ins_step f k j hj (t - start)]
        simp [show t - start ≠ j by omega, show t - start ≠ j - 1 by omega]
theorem ins_here (f : Nat → Nat) (k j : Nat) : ins f k j j = k := by simp [ins]
theorem ins_left (f : Nat → Nat) (k j : Nat) (hj : 0 < j) : ins f k j (j - 1) = f (j - 1) := by simp [ins, show j - 1 < j by omega]

set_option maxRecDepth 100000 in
set_option maxHeartbeats 2000000 in
theorem inOrder_small (bm n start B : Nat) (ks : Nat → ByteArray) (d : Nat → Bool) (o : Int) (a0 : Option Addr) (cap0 : Nat) (pre : Nat → Value) (w : World) (hn : n ≤ 12) (hst : start ≤ 65536)
    (hM : MRow w bm n ks d) (hO : Owns w B (.slice a0 start cap0) start pre) (hB : B ≤ w.heap.size) (hne : some bm ≠ (Value.slice a0 start cap0).ownBlock) :
    Calls Try.prog 21 #[.slice (some ⟨bm, 0, none⟩) n n, .int .u8 o, .slice a0 start cap0] w fun e w' => ∃ v' f, e = .returned v' ∧ Owns w' B v' (start + n) (ext pre start f) ∧ w.grownBy w' (Value.slice a0 start cap0).ownBlock ∧ Order o ks n f := by
  obtain ⟨i0, hi, hz0, hz1, hz2⟩ := info_parts info3
  have hbm := hM.lt
  have hv0 := hO.lt
  go_enter Try.func21, Try.ntmps21
  go_wp2_with fail
  obtain ⟨w2, hw2⟩ : ∃ w2, w2 = (w.alloc (.cells #[.slice (some ⟨bm, 0, none⟩) n n] 37)).alloc (.cells #[.int .u8 o] 45) := ⟨_, rfl⟩
  rw [← hw2]
  have hz : w2.heap.size = w.heap.size + 2 := by rw [hw2]; simp
  have hg2 : w.grownBy w2 (Value.slice a0 start cap0).ownBlock := by rw [hw2]; exact grownBy_alloc (grownBy_alloc (grownBy_refl _ _) _) _
  have hM2 : MRow w2 bm n ks d := by rw [hw2]; exact (hM.alloc _).alloc _
  have hO2 : Owns w2 B (.slice a0 start cap0) start pre := by rw [hw2]; exact (hO.alloc _).alloc _
  have c3 : w2.cell? ⟨w.heap.size, 0, none⟩ = some (.slice (some ⟨bm, 0, none⟩) n n) := by rw [hw2]; simp [World.cell?_alloc_old, World.cell?_alloc_new]
  have c4 : w2.cell? ⟨w.heap.size + 1, 0, none⟩ = some (.int .u8 o) := by rw [hw2]; rw [World.cell?_alloc_at _ _ _ _ (by simp)]; rfl
  have n3 : some w.heap.size ≠ (Value.slice a0 start cap0).ownBlock := fun e => by have := (hv0 _ e.symm).2; omega
  have n4 : some (w.heap.size + 1) ≠ (Value.slice a0 start cap0).ownBlock := fun e => by have := (hv0 _ e.symm).2; omega
  have HZ : Hid (w2.heap.size = w.heap.size + 2) := hz
  have hz' : w.heap.size + 2 ≤ w2.heap.size := by omega
  clear hw2 hz hM hO hv0
  go_loopw [2, 35] (fun v i wr => ∃ (k : Nat) (f : Nat → Nat), k ≤ n ∧ i = .int .i64 k ∧ Owns wr B v (start + k) (ext pre start f) ∧ w2.grownBy wr (Value.slice a0 start cap0).ownBlock ∧ Lies w2.heap.size (.slice a0 start cap0) v ∧ Order o ks k f) (fun _ i _ => n - (intOf i).toNat)
  case atStart =>
    exact ⟨0, id, Nat.zero_le _, rfl, hO2.congr (fun t ht => by simp [ext, ht]), grownBy_refl _ _, Lies.refl _ _, order_nil _ _ _⟩
  case round =>
    obtain ⟨k, f, hk, rfl, hown, hgr, hlies, hord⟩ := hrel
    by_cases hlt : k < n
    · have hsz := hgr.size
      go_wp2_with (at_builtin; refine wpList_append_own_at _ rfl _ _ 23 rfl B 3 i0 (.int .i64 0) 1 8 Try.underlying23 hi hz0 hz1 hz2 rfl (by decide) _ (start + k) _ rfl (World.ownsRow.alloc hown _) ⟨wr.heap.size, 0, none⟩ 1 1 [.int .i64 (k : Int)] rfl rfl (cell_one_new _ _ _) (ints_oneCell .i64 [(k : Int)]) (by unfold maxLen; omega) (by omega) (by simp; omega) ?_)
      intro v' w1 hown' hgrow hnil hloc
      have hO1 := (owns_append hown').congr (fun t ht => ext_append pre start k f t ht)
      have hg1 : w2.grownBy w1 (Value.slice a0 start cap0).ownBlock := hlies.grown (grownBy_alloc hgr _) hgrow
      have hl1 : Lies w2.heap.size (.slice a0 start cap0) v' := hlies.step (m := wr.heap.size + 1) (by omega) hloc
      clear hown' hgrow hnil hloc hown hgr hlies
      obtain ⟨g, cap, F, rfl, hgB, hcap1, hcap2, hrow, hF⟩ := hO1.row (by omega)
      have hM1 : MRow w1 bm n ks d := hM2.of_block (hg1.block bm (by omega) hne)
      have d3 : w1.cell? ⟨w.heap.size, 0, none⟩ = some (.slice (some ⟨bm, 0, none⟩) n n) := by rw [World.cell?_of_block (hg1.block w.heap.size (by omega) n3)]; exact c3
      have d4 : w1.cell? ⟨w.heap.size + 1, 0, none⟩ = some (.int .u8 o) := by rw [World.cell?_of_block (hg1.block (w.heap.size + 1) (by omega) n4)]; exact c4
      have g1 : bm ≠ g := fun e => hl1.ne (by omega) hne (by rw [e]; rfl)
      have g2 : w.heap.size ≠ g := fun e => hl1.ne (by omega) n3 (by rw [e]; rfl)
      have g3 : w.heap.size + 1 ≠ g := fun e => hl1.ne (by omega) n4 (by rw [e]; rfl)
      unfold maxLen at hcap2
      go_wp2_with fail
      rw [show start + k + 1 - start = k + 1 from by omega]
      go_loopw [11] (fun vj wm => ∃ (j : Nat) (F : Nat → Value), j ≤ k ∧ vj = .int .i64 j ∧ Row wm g cap 3 F ∧ Hid (∀ t, t < start + k + 1 → F t = ext pre start (ins f k j) t) ∧ w1.grownBy wm (some g) ∧ Hid (∀ t, j ≤ t → t < k → kb o (ks k) (ks (f t)) = true)) (fun vj _ => (intOf vj).toNat)
      case atStart => exact ⟨k, F, Nat.le_refl _, by go_num, hrow, hF, grownBy_refl _ _, fun t h1 h2 => absurd h1 (by omega)⟩
      case round =>
        clear hrow hF
        obtain ⟨j, F, hj, rfl, hrow, HF, hgm, HR⟩ := hrel
        have hM3 : MRow wr bm n ks d := hM1.of_block (hgm.block bm hM1.lt (fun e => g1 (by injection e)))
        have e3 : wr.cell? ⟨w.heap.size, 0, none⟩ = some (.slice (some ⟨bm, 0, none⟩) n n) := by rw [World.cell?_of_block (hgm.block w.heap.size (block_lt d3) (fun e => g2 (by injection e)))]; exact d3
        have e4 : wr.cell? ⟨w.heap.size + 1, 0, none⟩ = some (.int .u8 o) := by rw [World.cell?_of_block (hgm.block (w.heap.size + 1) (block_lt d4) (fun e => g3 (by injection e)))]; exact d4
        by_cases hj0 : 0 < j
        · have r1 : wr.cell? ⟨g, start + j, none⟩ = some (.int .i64 (k : Int)) := by rw [hrow.cell _ (by omega), HF.out _ (by omega), ext_at, ins_here]
          have r2 : wr.cell? ⟨g, start + (j - 1), none⟩ = some (.int .i64 (f (j - 1) : Int)) := by rw [hrow.cell _ (by omega), HF.out _ (by omega), ext_at, ins_left _ _ _ hj0]
          have q1 := hrow.frozen (start + j)
          have q2 := hrow.frozen (start + (j - 1))
          have hfl := hord.lt (j - 1) (by omega)
          have hfl2 : f (j - 1) < n := by omega
          have m1 := hM3.key k hlt
          have m2 := hM3.key (f (j - 1)) hfl2
          cases hkb : kb o (ks k) (ks (f (j - 1))) with
          | true =>
            go_wp2_with fail
            go_quiet ((go_at_call 26; exact Calls.quiet_of_same (less_calls _ _ _ _)))
            go_wp2_with fail
            go_region
            all_goals
              go_wp2_with fail
              go_roundw
              case rel =>
                refine ⟨j - 1, _, by omega, by go_num, ((hrow.drewN _).set (start + j) _).set (start + (j - 1)) _, fun t ht => ?_, grownBy_setCell (grownBy_setCell (grownBy_drewN hgm _) _ _) _ _, fun t h1 h2 => ?_⟩
                · rw [← ext_swap pre start k j f hj0 F (start + k + 1) HF.out t ht, ins_left _ _ _ hj0, ins_here]
                · by_cases e : t = j - 1
                  · rw [e]; exact hkb
                  · exact HR.out t (by omega) h2
              case measure => simp [intOf]; omega
          | false =>
            go_wp2_with fail
            go_quiet ((go_at_call 26; exact Calls.quiet_of_same (less_calls _ _ _ _)))
            go_wp2_with fail
            go_roundw
            case rel =>
              refine ⟨k + 1, ins f k j, by omega, by go_num, ?_, Lies.grown hl1 hg1 (grownBy_drewN hgm _), hl1, order_ins hord hj HR.out (fun _ => hkb)⟩
              exact owns_of_row hgB (by omega) (by unfold maxLen; omega) (hrow.drewN _) HF.out
            case measure => simp [intOf]; omega
        · have hd0 : decide ((0 : Int) < (j : Int)) = false := decide_eq_false (by omega)
          go_wp2_with fail
          go_quiet (fail)
          go_wp2_with fail
          go_roundw
          case rel =>
            refine ⟨k + 1, ins f k j, by omega, by go_num, ?_, Lies.grown hl1 hg1 (grownBy_drewN hgm _), hl1, order_ins hord hj HR.out (fun h => absurd h hj0)⟩
            exact owns_of_row hgB (by omega) (by unfold maxLen; omega) (hrow.drewN _) HF.out
          case measure => simp [intOf]; omega
    · have E : Hid (k = n) := show k = n by omega
      go_wp2_with fail
      go_ret
      exact ⟨_, f, rfl, by rw [← E.out]; exact hown, grownBy_trans hg2 hgr, by rw [← E.out]; exact hord⟩

end Go.Proofs.Qxb6602415a
