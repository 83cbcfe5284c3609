/-
  The walk of FnAddReadsBack.
-/
import Derived.Test.Qxb6000508aShims
import Derived.Test.Qxb6000508aMaps
namespace Go.Proofs.Qxb6000508a
open Go.RowKit
set_option linter.unusedVariables false

theorem Marks.drewN {w : World} {B bg bf bt : Nat} {tv : Value} {N : Nat} {f : Nat → Mk} {S : Nat → Prop} (h : Marks w B bg bf bt tv N f S) (q : Nat) : Marks (w.drewN q) B bg bf bt tv N f S := by
  obtain ⟨v, C, r, blk, h1, h2, h3, h4, h5⟩ := h
  exact ⟨v, C, r, blk, h1, h2.kept ((Turns.refl w (fun _ => False)).drewN q) (fun _ _ c => c), h3, h4, h5⟩

def mf (i : Nat) (s : Int) : Mk := ⟨bits .xor .i32 (i : Int) s, IntKind.i16.wrap (IntKind.i16.wrap ((i : Int) * 7) + IntKind.i16.wrap s), wrap32 ((i : Int) + s), wrap32 (s - (i : Int))⟩

set_option maxHeartbeats 400000 in
theorem markFields_calls (i : Nat) (s : Int) (w : World) (hi : i ≤ 65536) :
    Calls Try.prog 15 #[.int .i64 (i : Int), .int .i32 s] w fun e w' => e = .returned (.tuple #[.int .i32 (mf i s).l, .int .i16 (mf i s).y, .int .i32 (mf i s).t, .int .i32 (mf i s).x]) ∧ w' = w := by
  go_enter Try.func15, Try.ntmps15
  go_wp2_with fail
  exact bodyPost_ret (v := .tuple #[.int .i32 (mf i s).l, .int .i16 (mf i s).y, .int .i32 (mf i s).t, .int .i32 (mf i s).x]) (by simp [results, Try.results15, go_sem, mf]) rfl ⟨rfl, rfl⟩

set_option maxHeartbeats 400000 in
theorem new_calls (w : World) :
    Calls Try.prog 10 #[] w fun e w' => e = .returned (.pointer (some ⟨w.heap.size + 2, 0, none⟩)) ∧ Row w' (w.heap.size + 2) 6 50 (gv w.heap.size (.slice none 0 0) 0 (.slice none 0 0) (w.heap.size + 1)) ∧
      SMap w' w.heap.size (fun _ => none) ∧ SMap w' (w.heap.size + 1) (fun _ => none) ∧ Below w.heap.size w w' ∧ w'.heap.size = w.heap.size + 3 := by
  have hmm := @run_makeMap Try.prog
  go_enter Try.func10, Try.ntmps10
  go_wp2_with fail
  go_ret
  refine ⟨rfl, ?_, ((SMap.made w).alloc _).alloc _, (SMap.made_at (by simp)).alloc _, (((Below.refl _ _).alloc (Nat.le_refl _) _).alloc (by simp) _).alloc (by simp; omega) _, by simp⟩
  refine ⟨#[.map (some w.heap.size), .slice none 0 0, .int .i32 0, .slice none 0 0, .map (some (w.heap.size + 1)), .int .i64 0], ?_, rfl, fun t ht => ?_⟩
  · have := heap_alloc_new ((w.alloc (.map #[] 0)).alloc (.map #[] 0)) (.cells #[.map (some w.heap.size), .slice none 0 0, .int .i32 0, .slice none 0 0, .map (some (w.heap.size + 1)), .int .i64 0] 50)
    simpa using this
  · match t, ht with
    | 0, _ => rfl
    | 1, _ => rfl
    | 2, _ => rfl
    | 3, _ => rfl
    | 4, _ => rfl
    | 5, _ => rfl

set_option maxRecDepth 100000 in
set_option maxHeartbeats 1000000 in
theorem markAt_calls {B bg bf bt : Nat} {tv : Value} {N : Nat} {f : Nat → Mk} {S : Nat → Prop} {w : World} (h : Marks w B bg bf bt tv N f S) (hN : N ≤ 1000000) (i : Nat) (hi : i < N) :
    Calls Try.prog 19 #[.pointer (some ⟨bg, 0, none⟩), .int .i32 (i : Int)] w fun e w' => e = .returned (.tuple #[.int .i32 (f i).l, .int .i16 (f i).y, .int .i32 (f i).t, .int .i32 (f i).x]) ∧ ∃ q, w' = w.drewN q := by
  go_enter Try.func19, Try.ntmps19
  go_wp2_with fail
  refine (mark_calls h hN i hi).mono ?_
  rintro e w' ⟨⟨bb, o, rfl, hA⟩, hw⟩
  obtain rfl := hw.symm
  clear hw
  have c0 : w.cell? ⟨bb, o, none⟩ = some (.int .i32 (f i).l) := hA.cell 0 (by omega)
  have c1 : w.cell? ⟨bb, o + 1, none⟩ = some (.int .i16 (f i).y) := hA.cell 1 (by omega)
  have c2 : w.cell? ⟨bb, o + 2, none⟩ = some (.int .i32 (f i).t) := hA.cell 2 (by omega)
  have c3 : w.cell? ⟨bb, o + 3, none⟩ = some (.int .i32 (f i).x) := hA.cell 3 (by omega)
  go_wp2_with fail
  go_quiet (fail)
  go_wp2_with fail
  exact bodyPost_ret (v := .tuple #[.int .i32 (f i).l, .int .i16 (f i).y, .int .i32 (f i).t, .int .i32 (f i).x]) (by simp [results, Try.results19, go_sem]) rfl ⟨rfl, _, rfl⟩

set_option maxRecDepth 100000 in
set_option maxHeartbeats 2000000 in
theorem law5_calls (n s : Int) (w : World) (hn : (Lit.int .i64 n).wf = true) : Calls Try.prog 5 #[.int .i64 n, .int .i32 s] w fun e w' => e = .returned (.bool true) ∧ Below w.heap.size w w' := by
  by_cases h0 : n < 0
  · go_enter Try.func5, Try.ntmps5
    go_wp2_with fail
    go_ret
    exact ⟨rfl, Below.refl _ _⟩
  by_cases h1 : 65536 < n
  · go_enter Try.func5, Try.ntmps5
    go_wp2_with fail
    go_ret
    exact ⟨rfl, Below.refl _ _⟩
  obtain ⟨N, rfl⟩ := Int.eq_ofNat_of_zero_le (show 0 ≤ n by omega)
  have hN : N ≤ 65536 := by omega
  clear h0 h1 hn
  go_enter Try.func5, Try.ntmps5
  go_wp2_with fail
  refine (new_calls w).mono ?_
  rintro e w0 ⟨rfl, hG0, _, _, hb0, hz0⟩
  have hM0 : Marks w0 w.heap.size (w.heap.size + 2) w.heap.size (w.heap.size + 1) (.slice none 0 0) 0 (fun k => mf k s) (fun b => w.heap.size ≤ b) :=
    ⟨.slice none 0 0, 0, 0, id, hG0, gm_nil _ _ _ _, .inl ⟨rfl, rfl, rfl⟩, fun c => by rcases c with c | ⟨_, c, _⟩ <;> simp [Value.ownBlock] at c, fun b c => by rcases c with c | ⟨_, c, _⟩ <;> simp [Value.ownBlock] at c⟩
  have hs0 : w.heap.size ≤ w0.heap.size := hb0.size
  clear hG0 hz0
  go_wp2_with fail
  go_loopw [6] (fun i wr => ∃ k : Nat, k ≤ N ∧ i = .int .i64 k ∧ Marks wr w.heap.size (w.heap.size + 2) w.heap.size (w.heap.size + 1) (.slice none 0 0) k (fun k => mf k s) (fun b => w.heap.size ≤ b) ∧ Below w.heap.size w wr) (fun i _ => N - (intOf i).toNat)
  case atStart => exact ⟨0, Nat.zero_le _, rfl, hM0, hb0⟩
  case round =>
    obtain ⟨k, hk, rfl, hM, hb⟩ := hrel
    clear hM0 hb0
    by_cases hlt : k < N
    · go_wp2_with fail
      refine (markFields_calls k s _ (by omega)).mono ?_
      rintro e w1 ⟨rfl, hw⟩
      obtain rfl := hw.symm
      clear hw
      go_wp2_with fail
      refine (zzAdd_calls hM (by omega) hb.size (mf k s)).mono ?_
      rintro e w1 ⟨rfl, hM1, hT1⟩
      go_wp2_with fail
      go_roundw
      case rel =>
        refine ⟨k + 1, by omega, by go_num, ?_, hb.trans (hT1.below hb.size (fun x hx => by omega))⟩
        obtain ⟨v, C, r, blk, g1, g2, g3, g4, g5⟩ := hM1
        refine ⟨v, C, r, blk, g1, ⟨g2.own, fun c hc => ?_, g2.inj, g2.sep⟩, g3, g4, fun b hb' => ?_⟩
        · obtain ⟨F, hr, hF⟩ := g2.rows c hc
          refine ⟨F, hr, fun t j ht hj => ?_⟩
          rw [hF t j ht hj]
          by_cases e : c * 4096 + t = k
          · rw [if_pos e, e]
          · rw [if_neg e]
        · have := hb.size
          rcases g5 b hb' with c | c <;> omega
      case measure => simp [intOf]; omega
    · have E : Hid (k = N) := show k = N by omega
      rw [E.out] at hM
      go_wp2_with fail
      refine (zzCount_calls hM).mono ?_
      rintro e w1 ⟨rfl, hw⟩
      obtain rfl := hw.symm
      clear hw
      go_wp2_with fail
      refine (zzChunks_calls hM).mono ?_
      rintro e w1 ⟨rfl, hw⟩
      obtain rfl := hw.symm
      clear hw
      go_wp2_with fail
      go_loopw [11] (fun i wm => ∃ k2 : Nat, k2 ≤ N ∧ i = .int .i64 k2 ∧ Marks wm w.heap.size (w.heap.size + 2) w.heap.size (w.heap.size + 1) (.slice none 0 0) N (fun k => mf k s) (fun b => w.heap.size ≤ b) ∧ Below w.heap.size w wm) (fun i _ => N - (intOf i).toNat)
      case atStart => exact ⟨0, Nat.zero_le _, rfl, hM, hb⟩
      case round =>
        clear hM hb hlt hk
        obtain ⟨k2, hk2, rfl, hM, hb⟩ := hrel
        by_cases hlt : k2 < N
        · go_wp2_with fail
          refine (markFields_calls k2 s _ (by omega)).mono ?_
          rintro e w1 ⟨rfl, hw⟩
          obtain rfl := hw.symm
          clear hw
          go_wp2_with fail
          refine (markAt_calls hM (by omega) k2 hlt).mono ?_
          rintro e w1 ⟨rfl, q, rfl⟩
          have hM2 := hM.drewN q
          have hb2 := below_drewN hb q
          clear hM hb
          generalize mf k2 s = m at *
          go_wp2_with fail
          go_roundw
          case rel => exact ⟨k2 + 1, by omega, by go_num, hM2, hb2⟩
          case measure => simp [intOf]; omega
        · go_wp2_with fail
          go_ret
          exact ⟨rfl, hb⟩

end Go.Proofs.Qxb6000508a
