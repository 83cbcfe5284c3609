/-
  The marks of a Grades as one predicate; the walks of add, mark and the shims over it.
-/
import Derived.Test.Qxb6000508aAdd
namespace Go.Proofs.Qxb6000508a
open Go.RowKit
set_option linter.unusedVariables false

/-- The Grades at block bg holds N marks, mark i being f i; the marks' blocks are among S. -/
def Marks (w : World) (B bg bf bt : Nat) (tv : Value) (N : Nat) (f : Nat → Mk) (S : Nat → Prop) : Prop :=
  ∃ v C r blk, Row w bg 6 50 (gv bf v N tv bt) ∧ GM w B v C r f blk ∧ NC N C r ∧ ¬ InM v C blk bg ∧ ∀ b, InM v C blk b → S b

theorem Marks.mono {w : World} {B bg bf bt : Nat} {tv : Value} {N : Nat} {f : Nat → Mk} {S S' : Nat → Prop} (h : Marks w B bg bf bt tv N f S) (hS : ∀ b, S b → S' b) : Marks w B bg bf bt tv N f S' := by
  obtain ⟨v, C, r, blk, h1, h2, h3, h4, h5⟩ := h
  exact ⟨v, C, r, blk, h1, h2, h3, h4, fun b hb => hS b (h5 b hb)⟩

set_option maxRecDepth 100000 in
theorem Marks.add {B bg bf bt : Nat} {tv : Value} {N : Nat} {f : Nat → Mk} {S : Nat → Prop} {w : World} (h : Marks w B bg bf bt tv N f S) (hN : N ≤ 1000000) (hB : B ≤ w.heap.size) (m : Mk) :
    Calls Try.prog 28 #[.pointer (some ⟨bg, 0, none⟩), .agg #[.int .i32 m.l, .int .i16 m.y, .int .i32 m.t, .int .i32 m.x]] w fun e w' => e = .returned (.tuple #[]) ∧
      Marks w' B bg bf bt tv (N + 1) (fun i => if i = N then m else f i) (fun b => S b ∨ w.heap.size ≤ b) ∧ Turns w w' (fun b => S b ∨ b = bg) := by
  obtain ⟨v, C, r, blk, h1, h2, h3, h4, h5⟩ := h
  rcases h3 with ⟨hC, hr, hN0⟩ | ⟨hC, hr0, hr, hN0⟩
  · subst hC hr hN0
    refine (add_new bg B 0 0 0 bf bt v tv f blk m w h1 h2 (.inl rfl) rfl (by omega) h4 hB).mono ?_
    rintro e w' ⟨he, v', blk', g1, g2, g3, g4⟩
    have n4 : ¬ InM v' (0 + 1) blk' bg := fun c => by
      rcases g3 bg c with c | c
      · exact h4 c
      · have := h1.lt; omega
    exact ⟨he, ⟨v', 0 + 1, 1, blk', g1, g2, .inr ⟨by omega, by omega, by omega, by omega⟩, n4, fun b hb => by
      rcases g3 b hb with c | c
      · exact .inl (h5 b c)
      · exact .inr c⟩, g4.mono (fun b hb => by
        rcases hb with c | c
        · exact .inl (h5 b c)
        · exact .inr c)⟩
  · by_cases hr2 : r = 4096
    · refine (add_new bg B C r N bf bt v tv f blk m w h1 h2 (.inr hr2) (by omega) hN h4 hB).mono ?_
      rintro e w' ⟨he, v', blk', g1, g2, g3, g4⟩
      have n4 : ¬ InM v' (C + 1) blk' bg := fun c => by
        rcases g3 bg c with c | c
        · exact h4 c
        · have := h1.lt; omega
      exact ⟨he, ⟨v', C + 1, 1, blk', g1, g2, .inr ⟨by omega, by omega, by omega, by omega⟩, n4, fun b hb => by
        rcases g3 b hb with c | c
        · exact .inl (h5 b c)
        · exact .inr c⟩, g4.mono (fun b hb => by
          rcases hb with c | c
          · exact .inl (h5 b c)
          · exact .inr c)⟩
    · obtain ⟨g, cap, F, rfl, _⟩ := h2.outer hC
      refine (add_room bg B C r N bf bt tv g cap f blk m w h1 h2 hC hr0 (by omega) hN0 hN h4).mono ?_
      rintro e w' ⟨he, g1, g2, g3⟩
      exact ⟨he, ⟨_, C, r + 1, blk, g1, g2, .inr ⟨hC, by omega, by omega, by omega⟩, h4, fun b hb => .inl (h5 b hb)⟩, g3.mono (fun b hb => by
        rcases hb with c | c
        · exact .inl (h5 b c)
        · exact .inr c)⟩

set_option maxRecDepth 100000 in
set_option maxHeartbeats 1000000 in
theorem zzAdd_calls {B bg bf bt : Nat} {tv : Value} {N : Nat} {f : Nat → Mk} {S : Nat → Prop} {w : World} (h : Marks w B bg bf bt tv N f S) (hN : N ≤ 1000000) (hB : B ≤ w.heap.size) (m : Mk) :
    Calls Try.prog 16 #[.pointer (some ⟨bg, 0, none⟩), .int .i32 m.l, .int .i16 m.y, .int .i32 m.t, .int .i32 m.x] w fun e w' => e = .returned (.tuple #[]) ∧
      Marks w' B bg bf bt tv (N + 1) (fun i => if i = N then m else f i) (fun b => S b ∨ w.heap.size ≤ b) ∧ Turns w w' (fun b => S b ∨ b = bg) := by
  have hc := h.add hN hB m
  have HC : Hid (Calls Try.prog 28 #[.pointer (some ⟨bg, 0, none⟩), .agg #[.int .i32 m.l, .int .i16 m.y, .int .i32 m.t, .int .i32 m.x]] w fun e w' => e = .returned (.tuple #[]) ∧
      Marks w' B bg bf bt tv (N + 1) (fun i => if i = N then m else f i) (fun b => S b ∨ w.heap.size ≤ b) ∧ Turns w w' (fun b => S b ∨ b = bg)) := hc
  clear hc
  go_enter Try.func16, Try.ntmps16
  go_wp2_with fail
  refine HC.out.mono ?_
  rintro e w' ⟨rfl, h1, h2⟩
  go_wp2_with fail
  go_end0
  exact ⟨rfl, h1, h2⟩

set_option maxHeartbeats 400000 in
theorem zzCount_calls {B bg bf bt : Nat} {tv : Value} {N : Nat} {f : Nat → Mk} {S : Nat → Prop} {w : World} (h : Marks w B bg bf bt tv N f S) :
    Calls Try.prog 17 #[.pointer (some ⟨bg, 0, none⟩)] w fun e w' => e = .returned (.int .i32 (N : Int)) ∧ w' = w := by
  obtain ⟨v, C, r, blk, h1, _⟩ := h
  have c2 : w.cell? ⟨bg, 2, none⟩ = some (.int .i32 (N : Int)) := h1.cell 2 (by omega)
  go_enter Try.func17, Try.ntmps17
  go_wp2_with fail
  go_ret
  exact ⟨rfl, rfl⟩

set_option maxHeartbeats 400000 in
theorem zzChunks_calls {B bg bf bt : Nat} {tv : Value} {N : Nat} {f : Nat → Mk} {S : Nat → Prop} {w : World} (h : Marks w B bg bf bt tv N f S) :
    Calls Try.prog 18 #[.pointer (some ⟨bg, 0, none⟩)] w fun e w' => e = .returned (.int .i64 (((N + 4095) / 4096 : Nat) : Int)) ∧ w' = w := by
  obtain ⟨v, C, r, blk, h1, h2, h3, _⟩ := h
  have hC : C = (N + 4095) / 4096 := by unfold NC at h3; omega
  obtain ⟨ao, cap, rfl⟩ : ∃ ao cap, v = .slice ao C cap := by
    rcases h2.own.2 with ⟨rfl, h0⟩ | ⟨g, cap, _, rfl, _⟩
    · rw [h0]; exact ⟨_, _, rfl⟩
    · exact ⟨_, _, rfl⟩
  have c1 : w.cell? ⟨bg, 1, none⟩ = some (.slice ao C cap) := h1.cell 1 (by omega)
  have HC : Hid (C = (N + 4095) / 4096) := hC
  clear hC
  go_enter Try.func18, Try.ntmps18
  go_wp2_with fail
  go_ret
  exact ⟨by rw [← HC.out]; rfl, rfl⟩

/-- Where mark i lies: its four cells; what a new 'next' makes of the marks. -/
structure At (w : World) (B bg bf bt : Nat) (tv : Value) (N : Nat) (f : Nat → Mk) (S : Nat → Prop) (i bb o : Nat) : Prop where
  cell : ∀ j, j < 4 → w.cell? ⟨bb, o + j, none⟩ = some (fld (f i) j)
  frozen : ∀ j, w.frozen? ⟨bb, j, none⟩ = false
  lt : bb < w.heap.size
  mem : S bb
  ne : bb ≠ bg
  set : ∀ x, Marks (w.setCell ⟨bb, o + 3, none⟩ (.int .i32 x)) B bg bf bt tv N (fun k => if k = i then { f i with x := x } else f k) S

theorem GM.at {w : World} {B : Nat} {v : Value} {C r : Nat} {f : Nat → Mk} {blk : Nat → Nat} (h : GM w B v C r f blk) {c t : Nat} (hc : c < C) (ht : t < lenf C r c) (ht2 : t < 4096) (hr4 : r ≤ 4096) (x : Int) :
    GM (w.setCell ⟨blk c, t * 4 + 3, none⟩ (.int .i32 x)) B v C r (fun k => if k = c * 4096 + t then { f (c * 4096 + t) with x := x } else f k) blk := by
  refine ⟨?_, fun c' hc' => ?_, h.inj, h.sep⟩
  · obtain ⟨h1, h2⟩ := h.own
    refine ⟨h1, ?_⟩
    rcases h2 with h2 | ⟨g, cap, cur, rfl, hB, hg, r⟩
    · exact .inl h2
    · refine .inr ⟨g, cap, cur, rfl, hB, ?_, r⟩
      rw [Below.heap_setCell w ⟨blk c, t * 4 + 3, none⟩ (.int .i32 x) g (fun e => (h.sep c hc).1 (by rw [show g = blk c from e]; rfl))]; exact hg
  · obtain ⟨F, hr, hF⟩ := h.rows c' hc'
    by_cases e : c' = c
    · subst e
      refine ⟨_, hr.set (t * 4 + 3) _, fun t' j ht' hj => ?_⟩
      by_cases e2 : t' = t
      · subst e2
        rw [if_pos rfl]
        match j, hj with
        | 0, _ => rw [upd_other _ _ _ _ (by omega), hF t' 0 ht' (by omega)]; rfl
        | 1, _ => rw [upd_other _ _ _ _ (by omega), hF t' 1 ht' (by omega)]; rfl
        | 2, _ => rw [upd_other _ _ _ _ (by omega), hF t' 2 ht' (by omega)]; rfl
        | 3, _ => rw [upd_same]; rfl
      · rw [if_neg (by omega), upd_other _ _ _ _ (by omega)]; exact hF t' j ht' hj
    · refine ⟨F, hr.set_other (fun e2 => e (h.inj _ _ hc' hc e2)) _ _, fun t' j ht' hj => ?_⟩
      have : t' < 4096 := by
        unfold lenf at ht'
        by_cases e3 : c' + 1 < C
        · rw [if_pos e3] at ht'; exact ht'
        · rw [if_neg e3] at ht'; omega
      rw [if_neg (by omega)]; exact hF t' j ht' hj

set_option maxRecDepth 100000 in
set_option maxHeartbeats 1000000 in
theorem mark_calls {B bg bf bt : Nat} {tv : Value} {N : Nat} {f : Nat → Mk} {S : Nat → Prop} {w : World} (h : Marks w B bg bf bt tv N f S) (hN : N ≤ 1000000) (i : Nat) (hi : i < N) :
    Calls Try.prog 29 #[.pointer (some ⟨bg, 0, none⟩), .int .i32 (i : Int)] w fun e w' => (∃ bb o, e = .returned (.pointer (some ⟨bb, o, none⟩)) ∧ At w B bg bf bt tv N f S i bb o) ∧ w' = w := by
  obtain ⟨v, C, r, blk, h1, h2, h3, h4, h5⟩ := h
  have hC : 0 < C ∧ 0 < r ∧ r ≤ 4096 ∧ N = (C - 1) * 4096 + r := by unfold NC at h3; omega
  obtain ⟨hC, hr0, hr, hN0⟩ := hC
  obtain ⟨g, cap, F, rfl, hgB, hcap1, hcap2, hrow, hF, hne⟩ := h2.outer hC
  have hic : i / 4096 < C := by omega
  have hit : i % 4096 < lenf C r (i / 4096) := by
    unfold lenf
    by_cases e : i / 4096 + 1 < C
    · rw [if_pos e]; omega
    · rw [if_neg e]; omega
  have hil : lenf C r (i / 4096) ≤ 4096 := by
    unfold lenf
    by_cases e : i / 4096 + 1 < C
    · rw [if_pos e]; omega
    · rw [if_neg e]; omega
  have hid : i / 4096 * 4096 + i % 4096 = i := by omega
  obtain ⟨G, hGr, hGf⟩ := h2.rows (i / 4096) hic
  have HAT : Hid (At w B bg bf bt tv N f S i (blk (i / 4096)) (i % 4096 * 4)) := by
    refine ⟨fun j hj => ?_, hGr.frozen, hGr.lt, h5 _ (.inr ⟨_, hic, rfl⟩), fun e => h4 (.inr ⟨_, hic, e⟩), fun x => ?_⟩
    · rw [hGr.cell _ (by omega), hGf _ j hit hj, hid]
    · have hnb : bg ≠ blk (i / 4096) := fun e => h4 (.inr ⟨_, hic, e.symm⟩)
      have := h2.at hic hit (by omega) hr x
      rw [hid] at this
      exact ⟨_, C, r, blk, h1.set_other hnb _ _, this, h3, h4, h5⟩
  have c1 : w.cell? ⟨bg, 1, none⟩ = some (.slice (some ⟨g, 0, none⟩) C cap) := h1.cell 1 (by omega)
  have c2 : w.cell? ⟨g, i / 4096, none⟩ = some (.slice (some ⟨blk (i / 4096), 0, none⟩) (lenf C r (i / 4096)) 4096) := by rw [hrow.cell _ (by omega), hF _ hic]; rfl
  generalize lenf C r (i / 4096) = L at c2 hit hil
  generalize blk (i / 4096) = bb at c2 HAT
  clear hGf hF hN0 hid h2 h1 h3 h4 h5 hGr hrow hne
  go_enter Try.func29, Try.ntmps29
  go_wp2_with fail
  go_ret
  exact ⟨⟨_, _, rfl, HAT.out⟩, rfl⟩

end Go.Proofs.Qxb6000508a
