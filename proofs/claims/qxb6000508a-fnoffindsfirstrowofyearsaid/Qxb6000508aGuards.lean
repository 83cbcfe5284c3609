/-
  The walks of the guards (zzBytes of FirstSeen and Idempotent, zzAddStrs) and of zzCloneStrs.
-/
import Derived.Test.Qxb6000508aProg
import Derived.Test.Qxb6000508aBase
import Derived.WalkSpells
import Derived.Deep.OwnRows
import Derived.Lib.SliceRun
namespace Go.Proofs.Qxb6000508a
open Go.RowKit
set_option linter.unusedVariables false

set_option maxHeartbeats 800000 in
theorem zzSeen_calls (a : Option Addr) (n cap : Nat) (ks : Nat → ByteArray) (w : World) (_hn : n ≤ 9223372036854775807) (hR : Reads w a n (fun t => .string (ks t))) :
    Calls Try.prog 7 #[.slice a n cap] w fun e w' => Ans e (fun r => r = true → n ≤ 1048576 ∧ ∀ t, t < n → (ks t).size ≤ 1048576) ∧ w' = w := by
  by_cases hn1 : 1048576 < n
  · go_enter Try.func7, Try.ntmps7
    go_wp2
    go_ret
    exact ⟨Ans.mk false rfl (by simp), rfl⟩
  go_enter Try.func7, Try.ntmps7
  go_wp2
  go_loop [3, 4] (fun z i => ∃ (k : Nat) (u : Int), k ≤ n ∧ i = .int .i64 k ∧ z = .int .i64 u ∧ 0 ≤ u ∧ u ≤ 1048576 ∧ Hid (∀ t, t < k → (ks t).size ≤ 1048576)) (fun _ i => n - (intOf i).toNat)
  case atStart => exact ⟨0, n, Nat.zero_le _, rfl, by go_num, by omega, by omega, fun t ht => absurd ht (by omega)⟩
  case round =>
    obtain ⟨k, u, hk, rfl, rfl, hu0, hu1, HT⟩ := hrel
    by_cases hlt : k < n
    · obtain ⟨b, off, rfl, hc⟩ := hR.at (by omega)
      have hck := hc k hlt
      clear hc
      obtain ⟨s, Hks⟩ : ∃ s, Hid (ks k = s) := ⟨_, rfl⟩
      rw [Hks.out] at hck
      by_cases hs : 1048576 < s.size
      · go_wp2
        go_ret
        exact ⟨Ans.mk false rfl (by simp), rfl⟩
      by_cases hu : 1048576 < u + s.size
      · go_wp2
        go_ret
        exact ⟨Ans.mk false rfl (by simp), rfl⟩
      go_wp2
      go_round
      case rel =>
        refine ⟨k + 1, u + s.size, by omega, by go_num, by go_num, by omega, by omega, fun t ht => ?_⟩
        by_cases e : t = k
        · subst e; rw [Hks.out]; omega
        · exact HT.out t (by omega)
      case measure => simp [intOf]; omega
    · go_wp2
      go_ret
      exact ⟨Ans.mk true rfl (fun _ => ⟨by omega, fun t ht => HT.out t (by omega)⟩), rfl⟩

set_option maxHeartbeats 800000 in
theorem zzIdem_calls (a : Option Addr) (n cap : Nat) (ks : Nat → ByteArray) (w : World) (_hn : n ≤ 9223372036854775807) (hR : Reads w a n (fun t => .string (ks t))) :
    Calls Try.prog 14 #[.slice a n cap] w fun e w' => Ans e (fun r => r = true → n ≤ 1048576 ∧ ∀ t, t < n → (ks t).size ≤ 1048576) ∧ w' = w := by
  by_cases hn1 : 1048576 < n
  · go_enter Try.func14, Try.ntmps14
    go_wp2
    go_ret
    exact ⟨Ans.mk false rfl (by simp), rfl⟩
  go_enter Try.func14, Try.ntmps14
  go_wp2
  go_loop [3, 4] (fun z i => ∃ (k : Nat) (u : Int), k ≤ n ∧ i = .int .i64 k ∧ z = .int .i64 u ∧ 0 ≤ u ∧ u ≤ 1048576 ∧ Hid (∀ t, t < k → (ks t).size ≤ 1048576)) (fun _ i => n - (intOf i).toNat)
  case atStart => exact ⟨0, n, Nat.zero_le _, rfl, by go_num, by omega, by omega, fun t ht => absurd ht (by omega)⟩
  case round =>
    obtain ⟨k, u, hk, rfl, rfl, hu0, hu1, HT⟩ := hrel
    by_cases hlt : k < n
    · obtain ⟨b, off, rfl, hc⟩ := hR.at (by omega)
      have hck := hc k hlt
      clear hc
      obtain ⟨s, Hks⟩ : ∃ s, Hid (ks k = s) := ⟨_, rfl⟩
      rw [Hks.out] at hck
      by_cases hs : 1048576 < s.size
      · go_wp2
        go_ret
        exact ⟨Ans.mk false rfl (by simp), rfl⟩
      by_cases hu : 1048576 < u + s.size
      · go_wp2
        go_ret
        exact ⟨Ans.mk false rfl (by simp), rfl⟩
      go_wp2
      go_round
      case rel =>
        refine ⟨k + 1, u + s.size, by omega, by go_num, by go_num, by omega, by omega, fun t ht => ?_⟩
        by_cases e : t = k
        · subst e; rw [Hks.out]; omega
        · exact HT.out t (by omega)
      case measure => simp [intOf]; omega
    · go_wp2
      go_ret
      exact ⟨Ans.mk true rfl (fun _ => ⟨by omega, fun t ht => HT.out t (by omega)⟩), rfl⟩

/-- The answer is one 'int'. -/
def AnsI (e : Ending) (p : Int → Prop) : Prop := ∃ r : Int, e = .returned (.int .i64 r) ∧ p r
theorem AnsI.mk {e : Ending} {p : Int → Prop} (r : Int) (h : e = .returned (.int .i64 r)) (hp : p r) : AnsI e p := ⟨r, h, hp⟩

set_option maxHeartbeats 800000 in
theorem addStrs_calls (a : Option Addr) (n cap : Nat) (x : Int) (ks : Nat → ByteArray) (w : World) (hn : n ≤ 1048576) (hx0 : 0 ≤ x) (hx1 : x ≤ 1048577) (hR : Reads w a n (fun t => .string (ks t))) :
    Calls Try.prog 8 #[.int .i64 x, .slice a n cap] w fun e w' => AnsI e (fun r => 0 ≤ r ∧ r ≤ 1048577) ∧ w' = w := by
  by_cases hx : 1048576 < x
  · go_enter Try.func8, Try.ntmps8
    go_wp2
    go_ret
    exact ⟨AnsI.mk _ rfl ⟨by omega, by omega⟩, rfl⟩
  go_enter Try.func8, Try.ntmps8
  go_wp2
  go_loop [0, 5] (fun z i => ∃ (k : Nat) (u : Int), k ≤ n ∧ i = .int .i64 k ∧ z = .int .i64 u ∧ 0 ≤ u ∧ u ≤ 18874368) (fun _ i => n - (intOf i).toNat)
  case atStart => exact ⟨0, x + 16 * n, Nat.zero_le _, rfl, by go_num, by omega, by omega⟩
  case round =>
    obtain ⟨k, u, hk, rfl, rfl, hu0, hu1⟩ := hrel
    by_cases hlt : k < n
    · by_cases hu : 1048576 < u
      · go_wp2
        go_ret
        exact ⟨AnsI.mk _ rfl ⟨by omega, by omega⟩, rfl⟩
      obtain ⟨b, off, rfl, hc⟩ := hR.at (by omega)
      have hck := hc k hlt
      clear hc
      generalize ks k = s at hck
      by_cases hs : 1048576 < s.size
      · go_wp2
        go_ret
        exact ⟨AnsI.mk _ rfl ⟨by omega, by omega⟩, rfl⟩
      go_wp2
      go_round
      case rel => exact ⟨k + 1, u + s.size, by omega, by go_num, by go_num, by omega, by omega⟩
      case measure => simp [intOf]; omega
    · by_cases hu : 1048576 < u
      · go_wp2
        go_ret
        exact ⟨AnsI.mk _ rfl ⟨by omega, by omega⟩, rfl⟩
      go_wp2
      go_ret
      exact ⟨AnsI.mk _ rfl ⟨by omega, by omega⟩, rfl⟩

theorem info9 : (Try.prog.info? 9).map (fun i => (i.zero, i.size, i.bytes)) = some (some (.string ⟨#[]⟩), 1, 16) := by kernel_rfl
theorem mk_strs (n : Nat) (h : n ≤ 1048576) (w : World) :
    (Instr.makeSlice 22 (.int .i64 (n : Int)) (.int .i64 (n : Int))).run Try.prog w = .ok (.slice (some ⟨w.heap.size, 0, none⟩) n n) (w.alloc (.cells (madeCells #[.string ⟨#[]⟩] n) 9)) :=
  run_make_row' 22 9 (.string ⟨#[]⟩) 16 Try.underlying22 info9 rfl .i64 .i64 n (by omega) (by omega) w
theorem nil_strs (a : Option Addr) (n c : Nat) (w : World) : (binOp .eql 22 (.slice a n c) (.slice none 0 0)).run Try.prog w = .ok (.bool a.isNone) w :=
  Lib.run_eql_slice_nil w 22 9 a n c 0 0 Try.underlying22

set_option maxHeartbeats 400000 in
theorem cloneStrs_nil (n c : Nat) (w : World) : Calls Try.prog 9 #[.slice none n c] w fun e w' => e = .returned (.slice none 0 0) ∧ w' = w := by
  have hnil := nil_strs none n c
  go_enter Try.func9, Try.ntmps9
  go_wp2
  go_ret
  exact ⟨rfl, rfl⟩

set_option maxHeartbeats 400000 in
theorem cloneStrs_some (ad : Addr) (n cap : Nat) (ks : Nat → ByteArray) (w : World) (hn : n ≤ 1048576) (hR : Reads w (some ad) n (fun t => .string (ks t))) :
    Calls Try.prog 9 #[.slice (some ad) n cap] w fun e w' => e = .returned (.slice (some ⟨w.heap.size, 0, none⟩) n n) ∧ Row w' w.heap.size n 9 (fun t => .string (ks t)) ∧ Below w.heap.size w w' ∧ w'.heap.size = w.heap.size + 1 := by
  have hnil := nil_strs (some ad) n cap
  have hmk := mk_strs n hn
  go_enter Try.func9, Try.ntmps9
  go_wp2
  clear hnil hmk
  go_loopw [4] (fun i wr => ∃ k : Nat, k ≤ n ∧ i = .int .i64 k ∧ Row wr w.heap.size n 9 (fun t => if t < k then .string (ks t) else .string ⟨#[]⟩) ∧ Below w.heap.size w wr ∧ wr.heap.size = w.heap.size + 1) (fun i _ => n - (intOf i).toNat)
  case atStart =>
    refine ⟨0, Nat.zero_le _, rfl, (Row.made _ _ _ _).congr fun t _ => ?_, (Below.refl _ _).alloc (Nat.le_refl _) _, by simp⟩
    simp [Nat.mod_one]
  case round =>
    obtain ⟨k, hk, rfl, hrow, hbel, hsz⟩ := hrel
    by_cases hlt : k < n
    · obtain ⟨b, off, hb, hc⟩ := hR.at (by omega)
      simp only [Option.some.injEq] at hb
      subst hb
      have hck : wr.cell? ⟨b, off + k, none⟩ = some (.string (ks k)) := by rw [hbel.cell (block_lt (hc k hlt))]; exact hc k hlt
      have hrk := hrow.cell k hlt
      have hfk := hrow.frozen k
      clear hc
      have HR : Hid (Reads w (some ⟨b, off, none⟩) n fun t => .string (ks t)) := hR
      clear hR
      go_wp2
      go_roundw
      case rel =>
        refine ⟨k + 1, by omega, by go_num, (hrow.set k _).congr fun t ht => ?_, hbel.setCell (Nat.le_refl _) _, by simpa using hsz⟩
        by_cases e : t = k
        · subst e; rw [upd_same]; simp
        · rw [upd_other _ _ _ _ e]
          by_cases h2 : t < k
          · simp [h2, show t < k + 1 by omega]
          · simp [h2, show ¬ t < k + 1 by omega]
      case measure => simp [intOf]; omega
    · have HR : Hid (Row wr w.heap.size n 9 (fun t => .string (ks t))) := hrow.congr fun t ht => by simp [show t < k by omega]
      go_wp2
      go_ret
      exact ⟨rfl, HR.out, hbel, hsz⟩
end Go.Proofs.Qxb6000508a
