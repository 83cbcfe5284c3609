/-
  The walks of the guards: the bounds on total length, tooBig.
-/
import Derived.Test.Qxb6602415aProg
import Derived.Test.Qxb6602415aBase
import Derived.WalkSpells
namespace Go.Proofs.Qxb6602415a
open Go.RowKit
set_option linter.unusedVariables false

set_option maxHeartbeats 400000 in
theorem tooBig_calls (a : Option Addr) (n cap : Nat) (ks : Nat → ByteArray) (x : Int) (w : World) (hn : n ≤ 1048576) (hx0 : 0 ≤ x) (hx1 : x ≤ 1000000000) (hR : Reads w a n (fun t => .string (ks t))) :
    Calls Try.prog 9 #[.slice a n cap, .int .i64 x] w fun e w' => Ans e (fun _ => True) ∧ w' = w := by
  by_cases hx : 1048576 < x
  · go_enter Try.func9, Try.ntmps9
    go_wp2
    go_ret
    exact ⟨Ans.mk _ rfl trivial, rfl⟩
  go_enter Try.func9, Try.ntmps9
  go_wp2
  go_loop [5, 6] (fun z i => ∃ (k : Nat) (u : Int), k ≤ n ∧ i = .int .i64 k ∧ z = .int .i64 u ∧ 0 ≤ u ∧ u ≤ 1048576) (fun _ i => n - (intOf i).toNat)
  case atStart => exact ⟨0, x, Nat.zero_le _, rfl, rfl, hx0, by omega⟩
  case round =>
    obtain ⟨k, u, hk, rfl, rfl, hu0, hu1⟩ := hrel
    by_cases hlt : k < n
    · obtain ⟨b, off, rfl, hc⟩ := hR.at (by omega)
      have hck := hc k hlt
      clear hc
      generalize ks k = s at hck
      by_cases hs : 1048576 < s.size
      · go_wp2
        go_ret
        exact ⟨Ans.mk _ rfl trivial, rfl⟩
      by_cases hu : 1048576 < u + (16 + s.size)
      · go_wp2
        go_ret
        exact ⟨Ans.mk _ rfl trivial, rfl⟩
      go_wp2
      go_round
      case rel => exact ⟨k + 1, u + (16 + s.size), by omega, by go_num, by go_num, by omega, by omega⟩
      case measure => simp [intOf]; omega
    · go_wp2
      go_ret
      exact ⟨Ans.mk _ rfl trivial, rfl⟩

set_option maxHeartbeats 800000 in
theorem zzMarks_calls (a a2 : Option Addr) (n cap m cap2 : Nat) (ks : Nat → ByteArray) (w : World) (_hm : m ≤ 9223372036854775807) (_hn : n ≤ 9223372036854775807) (hR : Reads w a n (fun t => .string (ks t))) :
    Calls Try.prog 16 #[.slice a n cap, .slice a2 m cap2] w fun e w' => Ans e (fun r => r = true → n ≤ 1048576 ∧ m ≤ 1048576 ∧ ∀ t, t < n → (ks t).size ≤ 1048576) ∧ w' = w := by
  by_cases hn1 : 1048576 < n
  · go_enter Try.func16, Try.ntmps16
    go_wp2
    go_ret
    exact ⟨Ans.mk false rfl (by simp), rfl⟩
  go_enter Try.func16, Try.ntmps16
  go_wp2
  go_loop [5, 6] (fun z i => ∃ (k : Nat) (u : Int), k ≤ n ∧ i = .int .i64 k ∧ z = .int .i64 u ∧ 0 ≤ u ∧ u ≤ 1048576 ∧ Hid (∀ t, t < k → (ks t).size ≤ 1048576)) (fun _ i => n - (intOf i).toNat)
  case atStart => exact ⟨0, n, Nat.zero_le _, rfl, by go_num, by omega, by omega, fun t ht => absurd ht (by omega)⟩
  case round =>
    obtain ⟨k, u, hk, rfl, rfl, hu0, hu1, HT⟩ := hrel
    by_cases hlt : k < n
    · obtain ⟨b, off, rfl, hc⟩ := hR.at (by omega)
      have hck := hc k hlt
      clear hc
      obtain ⟨s, Hks⟩ : ∃ s, Hid (ks k = s) := ⟨_, rfl⟩
      rw [Hks.out] at hck
      by_cases hs : 1048576 < s.size
      · go_wp2
        go_ret
        exact ⟨Ans.mk false rfl (by simp), rfl⟩
      by_cases hu : 1048576 < u + s.size
      · go_wp2
        go_ret
        exact ⟨Ans.mk false rfl (by simp), rfl⟩
      go_wp2
      go_round
      case rel =>
        refine ⟨k + 1, u + s.size, by omega, by go_num, by go_num, by omega, by omega, fun t ht => ?_⟩
        by_cases e : t = k
        · subst e; rw [Hks.out]; omega
        · exact HT.out t (by omega)
      case measure => simp [intOf]; omega
    · by_cases hm1 : 1048576 < m
      · go_wp2
        go_ret
        exact ⟨Ans.mk false rfl (by simp), rfl⟩
      by_cases hm2 : 1048576 < u + m
      · go_wp2
        go_ret
        exact ⟨Ans.mk false rfl (by simp), rfl⟩
      go_wp2
      go_ret
      exact ⟨Ans.mk true rfl (fun _ => ⟨by omega, by omega, fun t ht => HT.out t (by omega)⟩), rfl⟩

set_option maxHeartbeats 800000 in
theorem zzSorts_calls (a a2 : Option Addr) (n cap m cap2 : Nat) (ks : Nat → ByteArray) (o : Int) (w : World) (_hm : m ≤ 9223372036854775807) (_hn : n ≤ 9223372036854775807) (hR : Reads w a n (fun t => .string (ks t))) :
    Calls Try.prog 8 #[.slice a n cap, .int .u8 o, .slice a2 m cap2] w fun e w' => Ans e (fun r => r = true → n ≤ 1048576 ∧ m ≤ 1048576 ∧ ∀ t, t < n → (ks t).size ≤ 1048576) ∧ w' = w := by
  by_cases hn1 : 1048576 < n
  · go_enter Try.func8, Try.ntmps8
    go_wp2
    go_ret
    exact ⟨Ans.mk false rfl (by simp), rfl⟩
  go_enter Try.func8, Try.ntmps8
  go_wp2
  go_loop [7, 8] (fun z i => ∃ (k : Nat) (u : Int), k ≤ n ∧ i = .int .i64 k ∧ z = .int .i64 u ∧ 0 ≤ u ∧ u ≤ 1048576 ∧ Hid (∀ t, t < k → (ks t).size ≤ 1048576)) (fun _ i => n - (intOf i).toNat)
  case atStart => exact ⟨0, n, Nat.zero_le _, rfl, by go_num, by omega, by omega, fun t ht => absurd ht (by omega)⟩
  case round =>
    obtain ⟨k, u, hk, rfl, rfl, hu0, hu1, HT⟩ := hrel
    by_cases hlt : k < n
    · obtain ⟨b, off, rfl, hc⟩ := hR.at (by omega)
      have hck := hc k hlt
      clear hc
      obtain ⟨s, Hks⟩ : ∃ s, Hid (ks k = s) := ⟨_, rfl⟩
      rw [Hks.out] at hck
      by_cases hs : 1048576 < s.size
      · go_wp2
        go_ret
        exact ⟨Ans.mk false rfl (by simp), rfl⟩
      by_cases hu : 1048576 < u + s.size
      · go_wp2
        go_ret
        exact ⟨Ans.mk false rfl (by simp), rfl⟩
      go_wp2
      go_round
      case rel =>
        refine ⟨k + 1, u + s.size, by omega, by go_num, by go_num, by omega, by omega, fun t ht => ?_⟩
        by_cases e : t = k
        · subst e; rw [Hks.out]; omega
        · exact HT.out t (by omega)
      case measure => simp [intOf]; omega
    · by_cases hm1 : 1048576 < m
      · go_wp2
        go_ret
        exact ⟨Ans.mk false rfl (by simp), rfl⟩
      by_cases hm2 : 1048576 < u + m
      · go_wp2
        go_ret
        exact ⟨Ans.mk false rfl (by simp), rfl⟩
      go_wp2
      go_ret
      exact ⟨Ans.mk true rfl (fun _ => ⟨by omega, by omega, fun t ht => HT.out t (by omega)⟩), rfl⟩

set_option maxHeartbeats 800000 in
theorem zzKeeps_calls (a a2 : Option Addr) (n cap m cap2 : Nat) (ks : Nat → ByteArray) (o : Int) (w : World) (_hm : m ≤ 9223372036854775807) (_hn : n ≤ 9223372036854775807) (hR : Reads w a n (fun t => .string (ks t))) :
    Calls Try.prog 15 #[.slice a n cap, .int .u8 o, .slice a2 m cap2] w fun e w' => Ans e (fun r => r = true → n ≤ 1048576 ∧ m ≤ 1048576 ∧ ∀ t, t < n → (ks t).size ≤ 1048576) ∧ w' = w := by
  by_cases hn1 : 1048576 < n
  · go_enter Try.func15, Try.ntmps15
    go_wp2
    go_ret
    exact ⟨Ans.mk false rfl (by simp), rfl⟩
  go_enter Try.func15, Try.ntmps15
  go_wp2
  go_loop [7, 8] (fun z i => ∃ (k : Nat) (u : Int), k ≤ n ∧ i = .int .i64 k ∧ z = .int .i64 u ∧ 0 ≤ u ∧ u ≤ 1048576 ∧ Hid (∀ t, t < k → (ks t).size ≤ 1048576)) (fun _ i => n - (intOf i).toNat)
  case atStart => exact ⟨0, n, Nat.zero_le _, rfl, by go_num, by omega, by omega, fun t ht => absurd ht (by omega)⟩
  case round =>
    obtain ⟨k, u, hk, rfl, rfl, hu0, hu1, HT⟩ := hrel
    by_cases hlt : k < n
    · obtain ⟨b, off, rfl, hc⟩ := hR.at (by omega)
      have hck := hc k hlt
      clear hc
      obtain ⟨s, Hks⟩ : ∃ s, Hid (ks k = s) := ⟨_, rfl⟩
      rw [Hks.out] at hck
      by_cases hs : 1048576 < s.size
      · go_wp2
        go_ret
        exact ⟨Ans.mk false rfl (by simp), rfl⟩
      by_cases hu : 1048576 < u + s.size
      · go_wp2
        go_ret
        exact ⟨Ans.mk false rfl (by simp), rfl⟩
      go_wp2
      go_round
      case rel =>
        refine ⟨k + 1, u + s.size, by omega, by go_num, by go_num, by omega, by omega, fun t ht => ?_⟩
        by_cases e : t = k
        · subst e; rw [Hks.out]; omega
        · exact HT.out t (by omega)
      case measure => simp [intOf]; omega
    · by_cases hm1 : 1048576 < m
      · go_wp2
        go_ret
        exact ⟨Ans.mk false rfl (by simp), rfl⟩
      by_cases hm2 : 1048576 < u + m
      · go_wp2
        go_ret
        exact ⟨Ans.mk false rfl (by simp), rfl⟩
      go_wp2
      go_ret
      exact ⟨Ans.mk true rfl (fun _ => ⟨by omega, by omega, fun t ht => HT.out t (by omega)⟩), rfl⟩

set_option maxHeartbeats 800000 in
theorem zzAgrees_calls (a : Option Addr) (n cap : Nat) (ks : Nat → ByteArray) (o : Int) (w : World) (_hn : n ≤ 9223372036854775807) (hR : Reads w a n (fun t => .string (ks t))) :
    Calls Try.prog 20 #[.slice a n cap, .int .u8 o] w fun e w' => Ans e (fun r => r = true → n ≤ 1048576 ∧ ∀ t, t < n → (ks t).size ≤ 1048576) ∧ w' = w := by
  by_cases hn1 : 1048576 < n
  · go_enter Try.func20, Try.ntmps20
    go_wp2
    go_ret
    exact ⟨Ans.mk false rfl (by simp), rfl⟩
  go_enter Try.func20, Try.ntmps20
  go_wp2
  go_loop [5, 6] (fun z i => ∃ (k : Nat) (u : Int), k ≤ n ∧ i = .int .i64 k ∧ z = .int .i64 u ∧ 0 ≤ u ∧ u ≤ 1048576 ∧ Hid (∀ t, t < k → (ks t).size ≤ 1048576)) (fun _ i => n - (intOf i).toNat)
  case atStart => exact ⟨0, n, Nat.zero_le _, rfl, by go_num, by omega, by omega, fun t ht => absurd ht (by omega)⟩
  case round =>
    obtain ⟨k, u, hk, rfl, rfl, hu0, hu1, HT⟩ := hrel
    by_cases hlt : k < n
    · obtain ⟨b, off, rfl, hc⟩ := hR.at (by omega)
      have hck := hc k hlt
      clear hc
      obtain ⟨s, Hks⟩ : ∃ s, Hid (ks k = s) := ⟨_, rfl⟩
      rw [Hks.out] at hck
      by_cases hs : 1048576 < s.size
      · go_wp2
        go_ret
        exact ⟨Ans.mk false rfl (by simp), rfl⟩
      by_cases hu : 1048576 < u + s.size
      · go_wp2
        go_ret
        exact ⟨Ans.mk false rfl (by simp), rfl⟩
      go_wp2
      go_round
      case rel =>
        refine ⟨k + 1, u + s.size, by omega, by go_num, by go_num, by omega, by omega, fun t ht => ?_⟩
        by_cases e : t = k
        · subst e; rw [Hks.out]; omega
        · exact HT.out t (by omega)
      case measure => simp [intOf]; omega
    · go_wp2
      go_ret
      exact ⟨Ans.mk true rfl (fun _ => ⟨by omega, fun t ht => HT.out t (by omega)⟩), rfl⟩

end Go.Proofs.Qxb6602415a
