/-
  'make' at the four element types; the walks of the three clones.
-/
import Derived.Test.Qxb6602415aProg
import Derived.Test.Qxb6602415aBase
import Derived.WalkSpells
import Derived.Deep.OwnRows
import Derived.Lib.SliceRun
namespace Go.Proofs.Qxb6602415a
open Go.RowKit
set_option linter.unusedVariables false

theorem info9 : (Try.prog.info? 9).map (fun i => (i.zero, i.size, i.bytes)) = some (some (.string ⟨#[]⟩), 1, 16) := by kernel_rfl
theorem info4 : (Try.prog.info? 4).map (fun i => (i.zero, i.size, i.bytes)) = some (some (.bool false), 1, 1) := by kernel_rfl
theorem info3 : (Try.prog.info? 3).map (fun i => (i.zero, i.size, i.bytes)) = some (some (.int .i64 0), 1, 8) := by kernel_rfl
def mz : Array Value := #[.string ⟨#[]⟩, .int .u32 0, .int .u32 0, .pointer none, .bool false, .bool false]
theorem info43 : (Try.prog.info? 43).map (fun i => (i.zero, i.size, i.bytes)) = some (some (.agg mz), 6, 40) := by kernel_rfl

theorem mk_strs (n : Nat) (h : n ≤ 1048576) (w : World) :
    (Instr.makeSlice 22 (.int .i64 (n : Int)) (.int .i64 (n : Int))).run Try.prog w = .ok (.slice (some ⟨w.heap.size, 0, none⟩) n n) (w.alloc (.cells (madeCells #[.string ⟨#[]⟩] n) 9)) :=
  run_make_row' 22 9 (.string ⟨#[]⟩) 16 Try.underlying22 info9 rfl .i64 .i64 n (by omega) (by omega) w
theorem mk_bools (n : Nat) (h : n ≤ 1048576) (w : World) :
    (Instr.makeSlice 29 (.int .i64 (n : Int)) (.int .i64 (n : Int))).run Try.prog w = .ok (.slice (some ⟨w.heap.size, 0, none⟩) n n) (w.alloc (.cells (madeCells #[.bool false] n) 4)) :=
  run_make_row' 29 4 (.bool false) 1 Try.underlying29 info4 rfl .i64 .i64 n (by omega) (by omega) w
theorem mk_ints (n : Nat) (h : n ≤ 1048576) (w : World) :
    (Instr.makeSlice 23 (.int .i64 (n : Int)) (.int .i64 (n : Int))).run Try.prog w = .ok (.slice (some ⟨w.heap.size, 0, none⟩) n n) (w.alloc (.cells (madeCells #[.int .i64 0] n) 3)) :=
  run_make_row' 23 3 (.int .i64 0) 8 Try.underlying23 info3 rfl .i64 .i64 n (by omega) (by omega) w
theorem mk_members (n : Nat) (h : n ≤ 1048576) (w : World) :
    (Instr.makeSlice 37 (.int .i64 (n : Int)) (.int .i64 (n : Int))).run Try.prog w = .ok (.slice (some ⟨w.heap.size, 0, none⟩) n n) (w.alloc (.cells (madeCells mz (n * 6)) 43)) := by
  obtain ⟨i, hi, hz, hs, hb⟩ := info_parts info43
  have hr := run_make (P := Try.prog) w 37 43 i (.agg mz) Try.underlying37 hi hz .i64 .i64 n n (by omega) (Int.le_refl _) (by rw [hb]; omega) (by omega)
  rw [hs] at hr
  simpa [Value.cells] using hr

theorem nil_strs (a : Option Addr) (n c : Nat) (w : World) : (binOp .eql 22 (.slice a n c) (.slice none 0 0)).run Try.prog w = .ok (.bool a.isNone) w :=
  Lib.run_eql_slice_nil w 22 9 a n c 0 0 Try.underlying22
theorem nil_bools (a : Option Addr) (n c : Nat) (w : World) : (binOp .eql 29 (.slice a n c) (.slice none 0 0)).run Try.prog w = .ok (.bool a.isNone) w :=
  Lib.run_eql_slice_nil w 29 4 a n c 0 0 Try.underlying29
theorem nil_ints (a : Option Addr) (n c : Nat) (w : World) : (binOp .eql 23 (.slice a n c) (.slice none 0 0)).run Try.prog w = .ok (.bool a.isNone) w :=
  Lib.run_eql_slice_nil w 23 3 a n c 0 0 Try.underlying23

set_option maxHeartbeats 400000 in
theorem cloneStrings_nil (n c : Nat) (w : World) : Calls Try.prog 10 #[.slice none n c] w fun e w' => e = .returned (.slice none 0 0) ∧ w' = w := by
  have hnil := nil_strs none n c
  go_enter Try.func10, Try.ntmps10
  go_wp2
  go_ret
  exact ⟨rfl, rfl⟩

set_option maxHeartbeats 400000 in
theorem cloneStrings_some (ad : Addr) (n cap : Nat) (ks : Nat → ByteArray) (w : World) (hn : n ≤ 1048576) (hR : Reads w (some ad) n (fun t => .string (ks t))) :
    Calls Try.prog 10 #[.slice (some ad) n cap] w fun e w' => e = .returned (.slice (some ⟨w.heap.size, 0, none⟩) n n) ∧ Row w' w.heap.size n 9 (fun t => .string (ks t)) ∧ Below w.heap.size w w' ∧ w'.heap.size = w.heap.size + 1 := by
  have hnil := nil_strs (some ad) n cap
  have hmk := mk_strs n hn
  go_enter Try.func10, Try.ntmps10
  go_wp2
  clear hnil hmk
  go_loopw [4] (fun i wr => ∃ k : Nat, k ≤ n ∧ i = .int .i64 k ∧ Row wr w.heap.size n 9 (fun t => if t < k then .string (ks t) else .string ⟨#[]⟩) ∧ Below w.heap.size w wr ∧ wr.heap.size = w.heap.size + 1) (fun i _ => n - (intOf i).toNat)
  case atStart =>
    refine ⟨0, Nat.zero_le _, rfl, (Row.made _ _ _ _).congr fun t _ => ?_, (Below.refl _ _).alloc (Nat.le_refl _) _, by simp⟩
    simp [Nat.mod_one]
  case round =>
    obtain ⟨k, hk, rfl, hrow, hbel, hsz⟩ := hrel
    by_cases hlt : k < n
    · obtain ⟨b, off, hb, hc⟩ := hR.at (by omega)
      simp only [Option.some.injEq] at hb
      subst hb
      have hck : wr.cell? ⟨b, off + k, none⟩ = some (.string (ks k)) := by rw [hbel.cell (block_lt (hc k hlt))]; exact hc k hlt
      have hrk := hrow.cell k hlt
      have hfk := hrow.frozen k
      clear hc
      have HR : Hid (Reads w (some ⟨b, off, none⟩) n fun t => .string (ks t)) := hR
      clear hR
      go_wp2
      go_roundw
      case rel =>
        refine ⟨k + 1, by omega, by go_num, (hrow.set k _).congr fun t ht => ?_, hbel.setCell (Nat.le_refl _) _, by simpa using hsz⟩
        by_cases e : t = k
        · subst e; rw [upd_same]; simp
        · rw [upd_other _ _ _ _ e]
          by_cases h2 : t < k
          · simp [h2, show t < k + 1 by omega]
          · simp [h2, show ¬ t < k + 1 by omega]
      case measure => simp [intOf]; omega
    · have HR : Hid (Row wr w.heap.size n 9 (fun t => .string (ks t))) := hrow.congr fun t ht => by simp [show t < k by omega]
      go_wp2
      go_ret
      exact ⟨rfl, HR.out, hbel, hsz⟩

set_option maxHeartbeats 400000 in
theorem cloneInts_nil (n c : Nat) (w : World) : Calls Try.prog 11 #[.slice none n c] w fun e w' => e = .returned (.slice none 0 0) ∧ w' = w := by
  have hnil := nil_ints none n c
  go_enter Try.func11, Try.ntmps11
  go_wp2
  go_ret
  exact ⟨rfl, rfl⟩

set_option maxHeartbeats 400000 in
theorem cloneInts_some (ad : Addr) (n cap : Nat) (ks : Nat → Int) (w : World) (hn : n ≤ 1048576) (hR : Reads w (some ad) n (fun t => .int .i64 (ks t))) :
    Calls Try.prog 11 #[.slice (some ad) n cap] w fun e w' => e = .returned (.slice (some ⟨w.heap.size, 0, none⟩) n n) ∧ Row w' w.heap.size n 3 (fun t => .int .i64 (ks t)) ∧ Below w.heap.size w w' ∧ w'.heap.size = w.heap.size + 1 := by
  have hnil := nil_ints (some ad) n cap
  have hmk := mk_ints n hn
  go_enter Try.func11, Try.ntmps11
  go_wp2
  clear hnil hmk
  go_loopw [4] (fun i wr => ∃ k : Nat, k ≤ n ∧ i = .int .i64 k ∧ Row wr w.heap.size n 3 (fun t => if t < k then .int .i64 (ks t) else .int .i64 0) ∧ Below w.heap.size w wr ∧ wr.heap.size = w.heap.size + 1) (fun i _ => n - (intOf i).toNat)
  case atStart =>
    refine ⟨0, Nat.zero_le _, rfl, (Row.made _ _ _ _).congr fun t _ => ?_, (Below.refl _ _).alloc (Nat.le_refl _) _, by simp⟩
    simp [Nat.mod_one]
  case round =>
    obtain ⟨k, hk, rfl, hrow, hbel, hsz⟩ := hrel
    by_cases hlt : k < n
    · obtain ⟨b, off, hb, hc⟩ := hR.at (by omega)
      simp only [Option.some.injEq] at hb
      subst hb
      have hck : wr.cell? ⟨b, off + k, none⟩ = some (.int .i64 (ks k)) := by rw [hbel.cell (block_lt (hc k hlt))]; exact hc k hlt
      have hrk := hrow.cell k hlt
      have hfk := hrow.frozen k
      clear hc
      have HR : Hid (Reads w (some ⟨b, off, none⟩) n fun t => .int .i64 (ks t)) := hR
      clear hR
      go_wp2
      go_roundw
      case rel =>
        refine ⟨k + 1, by omega, by go_num, (hrow.set k _).congr fun t ht => ?_, hbel.setCell (Nat.le_refl _) _, by simpa using hsz⟩
        by_cases e : t = k
        · subst e; rw [upd_same]; simp
        · rw [upd_other _ _ _ _ e]
          by_cases h2 : t < k
          · simp [h2, show t < k + 1 by omega]
          · simp [h2, show ¬ t < k + 1 by omega]
      case measure => simp [intOf]; omega
    · have HR : Hid (Row wr w.heap.size n 3 (fun t => .int .i64 (ks t))) := hrow.congr fun t ht => by simp [show t < k by omega]
      go_wp2
      go_ret
      exact ⟨rfl, HR.out, hbel, hsz⟩

set_option maxHeartbeats 400000 in
theorem cloneBools_nil (n c : Nat) (w : World) : Calls Try.prog 17 #[.slice none n c] w fun e w' => e = .returned (.slice none 0 0) ∧ w' = w := by
  have hnil := nil_bools none n c
  go_enter Try.func17, Try.ntmps17
  go_wp2
  go_ret
  exact ⟨rfl, rfl⟩

set_option maxHeartbeats 400000 in
theorem cloneBools_some (ad : Addr) (n cap : Nat) (ks : Nat → Bool) (w : World) (hn : n ≤ 1048576) (hR : Reads w (some ad) n (fun t => .bool (ks t))) :
    Calls Try.prog 17 #[.slice (some ad) n cap] w fun e w' => e = .returned (.slice (some ⟨w.heap.size, 0, none⟩) n n) ∧ Row w' w.heap.size n 4 (fun t => .bool (ks t)) ∧ Below w.heap.size w w' ∧ w'.heap.size = w.heap.size + 1 := by
  have hnil := nil_bools (some ad) n cap
  have hmk := mk_bools n hn
  go_enter Try.func17, Try.ntmps17
  go_wp2
  clear hnil hmk
  go_loopw [4] (fun i wr => ∃ k : Nat, k ≤ n ∧ i = .int .i64 k ∧ Row wr w.heap.size n 4 (fun t => if t < k then .bool (ks t) else .bool false) ∧ Below w.heap.size w wr ∧ wr.heap.size = w.heap.size + 1) (fun i _ => n - (intOf i).toNat)
  case atStart =>
    refine ⟨0, Nat.zero_le _, rfl, (Row.made _ _ _ _).congr fun t _ => ?_, (Below.refl _ _).alloc (Nat.le_refl _) _, by simp⟩
    simp [Nat.mod_one]
  case round =>
    obtain ⟨k, hk, rfl, hrow, hbel, hsz⟩ := hrel
    by_cases hlt : k < n
    · obtain ⟨b, off, hb, hc⟩ := hR.at (by omega)
      simp only [Option.some.injEq] at hb
      subst hb
      have hck : wr.cell? ⟨b, off + k, none⟩ = some (.bool (ks k)) := by rw [hbel.cell (block_lt (hc k hlt))]; exact hc k hlt
      have hrk := hrow.cell k hlt
      have hfk := hrow.frozen k
      clear hc
      have HR : Hid (Reads w (some ⟨b, off, none⟩) n fun t => .bool (ks t)) := hR
      clear hR
      go_wp2
      go_roundw
      case rel =>
        refine ⟨k + 1, by omega, by go_num, (hrow.set k _).congr fun t ht => ?_, hbel.setCell (Nat.le_refl _) _, by simpa using hsz⟩
        by_cases e : t = k
        · subst e; rw [upd_same]; simp
        · rw [upd_other _ _ _ _ e]
          by_cases h2 : t < k
          · simp [h2, show t < k + 1 by omega]
          · simp [h2, show ¬ t < k + 1 by omega]
      case measure => simp [intOf]; omega
    · have HR : Hid (Row wr w.heap.size n 4 (fun t => .bool (ks t))) := hrow.congr fun t ht => by simp [show t < k by omega]
      go_wp2
      go_ret
      exact ⟨rfl, HR.out, hbel, hsz⟩
end Go.Proofs.Qxb6602415a
