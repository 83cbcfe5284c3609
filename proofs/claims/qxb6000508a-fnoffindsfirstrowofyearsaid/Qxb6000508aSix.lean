/-
  The walks of FnOfFindsFirstRowOfYear's guards (zzBytes, zzAddWords, zzMin4) and of zzCloneI16, zzCloneI32.
-/
import Derived.Test.Qxb6000508aTab
namespace Go.Proofs.Qxb6000508a
open Go.RowKit Go.Maps
set_option linter.unusedVariables false

set_option maxHeartbeats 1600000 in
theorem zzFinds_calls (sk qy : Int) (a1 a2 a3 a4 : Option Addr) (n1 n2 n3 n4 c1 c2 c3 c4 : Nat) (qp : ByteArray) (ks ns : Nat → ByteArray) (w : World) (_h1 : n1 ≤ 9223372036854775807) (_h2 : n2 ≤ 9223372036854775807) (_h3 : n3 ≤ 9223372036854775807) (_h4 : n4 ≤ 9223372036854775807)
    (hR : Reads w a1 n1 (fun t => .string (ks t))) (hR3 : Reads w a3 n3 (fun t => .string (ns t))) :
    Calls Try.prog 20 #[.int .i64 sk, .slice a1 n1 c1, .slice a2 n2 c2, .slice a3 n3 c3, .slice a4 n4 c4, .string qp, .int .i64 qy] w fun e w' => Ans e (fun r => r = true → n1 ≤ 1048576 ∧ n2 ≤ 1048576 ∧ n3 ≤ 1048576 ∧ n4 ≤ 1048576 ∧ qp.size ≤ 1048576 ∧ ∀ t, t < n3 → (ns t).size ≤ 1048576) ∧ w' = w := by
  by_cases hn1 : 1048576 < n1
  · go_enter Try.func20, Try.ntmps20
    go_wp2
    go_ret
    exact ⟨Ans.mk false rfl (by simp), rfl⟩
  go_enter Try.func20, Try.ntmps20
  go_wp2
  go_loop [15, 16] (fun z i => ∃ (k : Nat) (u : Int), k ≤ n1 ∧ i = .int .i64 k ∧ z = .int .i64 u ∧ 0 ≤ u ∧ u ≤ 1048576) (fun _ i => n1 - (intOf i).toNat)
  case atStart => exact ⟨0, n1, Nat.zero_le _, rfl, by go_num, by omega, by omega⟩
  case round =>
    obtain ⟨k, u, hk, rfl, rfl, hu0, hu1⟩ := hrel
    by_cases hlt : k < n1
    · obtain ⟨b, off, rfl, hc⟩ := hR.at (by omega)
      have hck := hc k hlt
      clear hc
      generalize ks k = s at hck
      by_cases hs : 1048576 < s.size
      · go_wp2
        go_ret
        exact ⟨Ans.mk false rfl (by simp), rfl⟩
      by_cases hu : 1048576 < u + s.size
      · go_wp2
        go_ret
        exact ⟨Ans.mk false rfl (by simp), rfl⟩
      go_wp2
      go_round
      case rel => exact ⟨k + 1, u + s.size, by omega, by go_num, by go_num, by omega, by omega⟩
      case measure => simp [intOf]; omega
    · clear hR
      by_cases e1 : 1048576 < n2
      · go_wp2
        go_ret
        exact ⟨Ans.mk false rfl (by simp), rfl⟩
      by_cases e2 : 1048576 < u + n2
      · go_wp2
        go_ret
        exact ⟨Ans.mk false rfl (by simp), rfl⟩
      by_cases e3 : 1048576 < n3
      · go_wp2
        go_ret
        exact ⟨Ans.mk false rfl (by simp), rfl⟩
      by_cases e4 : 1048576 < u + n2 + n3
      · go_wp2
        go_ret
        exact ⟨Ans.mk false rfl (by simp), rfl⟩
      go_wp2
      go_loop [15, 17] (fun z i => ∃ (k : Nat) (u : Int), k ≤ n3 ∧ i = .int .i64 k ∧ z = .int .i64 u ∧ 0 ≤ u ∧ u ≤ 1048576 ∧ Hid (∀ t, t < k → (ns t).size ≤ 1048576)) (fun _ i => n3 - (intOf i).toNat)
      case atStart => exact ⟨0, u + n2 + n3, Nat.zero_le _, rfl, by go_num, by omega, by omega, fun t ht => absurd ht (by omega)⟩
      case round =>
        clear hk hlt e2 e4 hu0 hu1
        obtain ⟨k3, u3, hk, rfl, rfl, hu0, hu1, HT⟩ := hrel
        by_cases hlt : k3 < n3
        · obtain ⟨b, off, rfl, hc⟩ := hR3.at (by omega)
          have hck := hc k3 hlt
          clear hc
          obtain ⟨s, Hks⟩ : ∃ s, Hid (ns k3 = s) := ⟨_, rfl⟩
          rw [Hks.out] at hck
          by_cases hs : 1048576 < s.size
          · go_wp2
            go_ret
            exact ⟨Ans.mk false rfl (by simp), rfl⟩
          by_cases hu : 1048576 < u3 + s.size
          · go_wp2
            go_ret
            exact ⟨Ans.mk false rfl (by simp), rfl⟩
          go_wp2
          go_round
          case rel =>
            refine ⟨k3 + 1, u3 + s.size, by omega, by go_num, by go_num, by omega, by omega, fun t ht => ?_⟩
            by_cases e : t = k3
            · subst e; rw [Hks.out]; omega
            · exact HT.out t (by omega)
          case measure => simp [intOf]; omega
        · by_cases e2 : 1048576 < n4
          · go_wp2
            go_ret
            exact ⟨Ans.mk false rfl (by simp), rfl⟩
          by_cases e4 : 1048576 < u3 + n4
          · go_wp2
            go_ret
            exact ⟨Ans.mk false rfl (by simp), rfl⟩
          by_cases e5 : 1048576 < qp.size
          · go_wp2
            go_ret
            exact ⟨Ans.mk false rfl (by simp), rfl⟩
          by_cases e6 : 1048576 < u3 + n4 + qp.size
          · go_wp2
            go_ret
            exact ⟨Ans.mk false rfl (by simp), rfl⟩
          go_wp2
          go_ret
          exact ⟨Ans.mk true rfl (fun _ => ⟨by omega, by omega, by omega, by omega, by omega, fun t ht => HT.out t (by omega)⟩), rfl⟩

set_option maxHeartbeats 400000 in
theorem addWords_calls (x : Int) (n d : Nat) (w : World) (hn : n ≤ 1048576) (hd : d = 1 ∨ d = 2 ∨ d = 4) (hx0 : 0 ≤ x) (hx1 : x ≤ 1048577) :
    Calls Try.prog 21 #[.int .i64 x, .int .i64 (n : Int), .int .i64 (d : Int)] w fun e w' => AnsI e (fun r => 0 ≤ r ∧ r ≤ 1048577) ∧ w' = w := by
  have hb : (0 : Int) ≤ (d : Int) * n ∧ (d : Int) * n ≤ 4194304 := by rcases hd with rfl | rfl | rfl <;> constructor <;> omega
  by_cases hx : 1048576 < x
  · go_enter Try.func21, Try.ntmps21
    go_wp2
    go_ret
    exact ⟨AnsI.mk _ rfl ⟨by omega, by omega⟩, rfl⟩
  rcases hd with rfl | rfl | rfl
  · by_cases hy : 1048576 < x + (1 : Int) * n
    · go_enter Try.func21, Try.ntmps21
      go_wp2
      go_ret
      exact ⟨AnsI.mk _ rfl ⟨by omega, by omega⟩, rfl⟩
    · go_enter Try.func21, Try.ntmps21
      go_wp2
      go_ret
      exact ⟨AnsI.mk _ rfl ⟨by omega, by omega⟩, rfl⟩
  · by_cases hy : 1048576 < x + (2 : Int) * n
    · go_enter Try.func21, Try.ntmps21
      go_wp2
      go_ret
      exact ⟨AnsI.mk _ rfl ⟨by omega, by omega⟩, rfl⟩
    · go_enter Try.func21, Try.ntmps21
      go_wp2
      go_ret
      exact ⟨AnsI.mk _ rfl ⟨by omega, by omega⟩, rfl⟩
  · by_cases hy : 1048576 < x + (4 : Int) * n
    · go_enter Try.func21, Try.ntmps21
      go_wp2
      go_ret
      exact ⟨AnsI.mk _ rfl ⟨by omega, by omega⟩, rfl⟩
    · go_enter Try.func21, Try.ntmps21
      go_wp2
      go_ret
      exact ⟨AnsI.mk _ rfl ⟨by omega, by omega⟩, rfl⟩

/-- It returns a number of which p holds. -/
def AnsN (e : Ending) (p : Nat → Prop) : Prop := ∃ k : Nat, e = .returned (.int .i64 (k : Int)) ∧ p k
theorem AnsN.mk {v : Value} {p : Nat → Prop} (k : Nat) (h : v = .int .i64 (k : Int)) (hp : p k) : AnsN (.returned v) p := ⟨k, by rw [h], hp⟩

set_option maxHeartbeats 800000 in
theorem min4_calls (a b c d : Nat) (w : World) :
    Calls Try.prog 24 #[.int .i64 (a : Int), .int .i64 (b : Int), .int .i64 (c : Int), .int .i64 (d : Int)] w fun e w' => AnsN e (fun m => m ≤ a ∧ m ≤ b ∧ m ≤ c ∧ m ≤ d) ∧ w' = w := by
  by_cases h1 : b < a
  · by_cases h2 : c < b
    · by_cases h3 : d < c
      · go_enter Try.func24, Try.ntmps24
        go_wp2
        go_ret
        exact ⟨AnsN.mk d rfl ⟨by omega, by omega, by omega, by omega⟩, rfl⟩
      · go_enter Try.func24, Try.ntmps24
        go_wp2
        go_ret
        exact ⟨AnsN.mk c rfl ⟨by omega, by omega, by omega, by omega⟩, rfl⟩
    · by_cases h3 : d < b
      · go_enter Try.func24, Try.ntmps24
        go_wp2
        go_ret
        exact ⟨AnsN.mk d rfl ⟨by omega, by omega, by omega, by omega⟩, rfl⟩
      · go_enter Try.func24, Try.ntmps24
        go_wp2
        go_ret
        exact ⟨AnsN.mk b rfl ⟨by omega, by omega, by omega, by omega⟩, rfl⟩
  · by_cases h2 : c < a
    · by_cases h3 : d < c
      · go_enter Try.func24, Try.ntmps24
        go_wp2
        go_ret
        exact ⟨AnsN.mk d rfl ⟨by omega, by omega, by omega, by omega⟩, rfl⟩
      · go_enter Try.func24, Try.ntmps24
        go_wp2
        go_ret
        exact ⟨AnsN.mk c rfl ⟨by omega, by omega, by omega, by omega⟩, rfl⟩
    · by_cases h3 : d < a
      · go_enter Try.func24, Try.ntmps24
        go_wp2
        go_ret
        exact ⟨AnsN.mk d rfl ⟨by omega, by omega, by omega, by omega⟩, rfl⟩
      · go_enter Try.func24, Try.ntmps24
        go_wp2
        go_ret
        exact ⟨AnsN.mk a rfl ⟨by omega, by omega, by omega, by omega⟩, rfl⟩

theorem inf32 : (Try.prog.info? 32).map (fun i => (i.zero, i.size, i.bytes)) = some (some (.int .i16 0), 1, 2) := by kernel_rfl
theorem mk_w16 (n : Nat) (h : n ≤ 1048576) (w : World) :
    (Instr.makeSlice 39 (.int .i64 (n : Int)) (.int .i64 (n : Int))).run Try.prog w = .ok (.slice (some ⟨w.heap.size, 0, none⟩) n n) (w.alloc (.cells (madeCells #[.int .i16 0] n) 32)) :=
  run_make_row' 39 32 (.int .i16 0) 2 Try.underlying39 inf32 rfl .i64 .i64 n (by omega) (by omega) w
theorem nil_w16 (a : Option Addr) (n c : Nat) (w : World) : (binOp .eql 39 (.slice a n c) (.slice none 0 0)).run Try.prog w = .ok (.bool a.isNone) w :=
  Lib.run_eql_slice_nil w 39 32 a n c 0 0 Try.underlying39

set_option maxHeartbeats 400000 in
theorem clone_w16_nil (n c : Nat) (w : World) : Calls Try.prog 22 #[.slice none n c] w fun e w' => e = .returned (.slice none 0 0) ∧ w' = w := by
  have hnil := nil_w16 none n c
  go_enter Try.func22, Try.ntmps22
  go_wp2
  go_ret
  exact ⟨rfl, rfl⟩

set_option maxHeartbeats 400000 in
theorem clone_w16_some (ad : Addr) (n cap : Nat) (ks : Nat → Int) (w : World) (hn : n ≤ 1048576) (hR : Reads w (some ad) n (fun t => .int .i16 (ks t))) :
    Calls Try.prog 22 #[.slice (some ad) n cap] w fun e w' => e = .returned (.slice (some ⟨w.heap.size, 0, none⟩) n n) ∧ Row w' w.heap.size n 32 (fun t => .int .i16 (ks t)) ∧ Below w.heap.size w w' ∧ w'.heap.size = w.heap.size + 1 := by
  have hnil := nil_w16 (some ad) n cap
  have hmk := mk_w16 n hn
  go_enter Try.func22, Try.ntmps22
  go_wp2
  clear hnil hmk
  go_loopw [4] (fun i wr => ∃ k : Nat, k ≤ n ∧ i = .int .i64 k ∧ Row wr w.heap.size n 32 (fun t => if t < k then .int .i16 (ks t) else .int .i16 0) ∧ Below w.heap.size w wr ∧ wr.heap.size = w.heap.size + 1) (fun i _ => n - (intOf i).toNat)
  case atStart =>
    refine ⟨0, Nat.zero_le _, rfl, (Row.made _ _ _ _).congr fun t _ => ?_, (Below.refl _ _).alloc (Nat.le_refl _) _, by simp⟩
    simp [Nat.mod_one]
  case round =>
    obtain ⟨k, hk, rfl, hrow, hbel, hsz⟩ := hrel
    by_cases hlt : k < n
    · obtain ⟨b, off, hb, hc⟩ := hR.at (by omega)
      simp only [Option.some.injEq] at hb
      subst hb
      have hck : wr.cell? ⟨b, off + k, none⟩ = some (.int .i16 (ks k)) := by rw [hbel.cell (block_lt (hc k hlt))]; exact hc k hlt
      have hrk := hrow.cell k hlt
      have hfk := hrow.frozen k
      clear hc
      have HR : Hid (Reads w (some ⟨b, off, none⟩) n fun t => .int .i16 (ks t)) := hR
      clear hR
      go_wp2
      go_roundw
      case rel =>
        refine ⟨k + 1, by omega, by go_num, (hrow.set k _).congr fun t ht => ?_, hbel.setCell (Nat.le_refl _) _, by simpa using hsz⟩
        by_cases e : t = k
        · subst e; rw [upd_same]; simp
        · rw [upd_other _ _ _ _ e]
          by_cases h2 : t < k
          · simp [h2, show t < k + 1 by omega]
          · simp [h2, show ¬ t < k + 1 by omega]
      case measure => simp [intOf]; omega
    · have HR : Hid (Row wr w.heap.size n 32 (fun t => .int .i16 (ks t))) := hrow.congr fun t ht => by simp [show t < k by omega]
      go_wp2
      go_ret
      exact ⟨rfl, HR.out, hbel, hsz⟩

theorem clone_w16_calls (a : Option Addr) (n cap : Nat) (ks : Nat → Int) (w : World) (hn : n ≤ 1048576) (hR : Reads w a n (fun t => .int .i16 (ks t))) :
    Calls Try.prog 22 #[.slice a n cap] w fun e w' => AnsS e w' n (fun t => .int .i16 (ks t)) ∧ Below w.heap.size w w' := by
  cases a with
  | none =>
    have hn0 : n = 0 := by
      rcases Nat.eq_zero_or_pos n with h | h
      · exact h
      · obtain ⟨b, off, hb, _⟩ := hR 0 h; cases hb
    subst hn0
    refine (clone_w16_nil 0 cap w).mono ?_
    rintro e w' ⟨rfl, rfl⟩
    exact ⟨⟨none, 0, rfl, Reads.nil _ _ _⟩, Below.refl _ _⟩
  | some ad =>
    refine (clone_w16_some ad n cap ks w hn hR).mono ?_
    rintro e w' ⟨rfl, h1, h2, h3⟩
    exact ⟨⟨_, _, rfl, h1.reads (Nat.le_refl _)⟩, h2⟩

theorem inf21 : (Try.prog.info? 21).map (fun i => (i.zero, i.size, i.bytes)) = some (some (.int .i32 0), 1, 4) := by kernel_rfl
theorem mk_w32 (n : Nat) (h : n ≤ 1048576) (w : World) :
    (Instr.makeSlice 31 (.int .i64 (n : Int)) (.int .i64 (n : Int))).run Try.prog w = .ok (.slice (some ⟨w.heap.size, 0, none⟩) n n) (w.alloc (.cells (madeCells #[.int .i32 0] n) 21)) :=
  run_make_row' 31 21 (.int .i32 0) 4 Try.underlying31 inf21 rfl .i64 .i64 n (by omega) (by omega) w
theorem nil_w32 (a : Option Addr) (n c : Nat) (w : World) : (binOp .eql 31 (.slice a n c) (.slice none 0 0)).run Try.prog w = .ok (.bool a.isNone) w :=
  Lib.run_eql_slice_nil w 31 21 a n c 0 0 Try.underlying31

set_option maxHeartbeats 400000 in
theorem clone_w32_nil (n c : Nat) (w : World) : Calls Try.prog 23 #[.slice none n c] w fun e w' => e = .returned (.slice none 0 0) ∧ w' = w := by
  have hnil := nil_w32 none n c
  go_enter Try.func23, Try.ntmps23
  go_wp2
  go_ret
  exact ⟨rfl, rfl⟩

set_option maxHeartbeats 400000 in
theorem clone_w32_some (ad : Addr) (n cap : Nat) (ks : Nat → Int) (w : World) (hn : n ≤ 1048576) (hR : Reads w (some ad) n (fun t => .int .i32 (ks t))) :
    Calls Try.prog 23 #[.slice (some ad) n cap] w fun e w' => e = .returned (.slice (some ⟨w.heap.size, 0, none⟩) n n) ∧ Row w' w.heap.size n 21 (fun t => .int .i32 (ks t)) ∧ Below w.heap.size w w' ∧ w'.heap.size = w.heap.size + 1 := by
  have hnil := nil_w32 (some ad) n cap
  have hmk := mk_w32 n hn
  go_enter Try.func23, Try.ntmps23
  go_wp2
  clear hnil hmk
  go_loopw [4] (fun i wr => ∃ k : Nat, k ≤ n ∧ i = .int .i64 k ∧ Row wr w.heap.size n 21 (fun t => if t < k then .int .i32 (ks t) else .int .i32 0) ∧ Below w.heap.size w wr ∧ wr.heap.size = w.heap.size + 1) (fun i _ => n - (intOf i).toNat)
  case atStart =>
    refine ⟨0, Nat.zero_le _, rfl, (Row.made _ _ _ _).congr fun t _ => ?_, (Below.refl _ _).alloc (Nat.le_refl _) _, by simp⟩
    simp [Nat.mod_one]
  case round =>
    obtain ⟨k, hk, rfl, hrow, hbel, hsz⟩ := hrel
    by_cases hlt : k < n
    · obtain ⟨b, off, hb, hc⟩ := hR.at (by omega)
      simp only [Option.some.injEq] at hb
      subst hb
      have hck : wr.cell? ⟨b, off + k, none⟩ = some (.int .i32 (ks k)) := by rw [hbel.cell (block_lt (hc k hlt))]; exact hc k hlt
      have hrk := hrow.cell k hlt
      have hfk := hrow.frozen k
      clear hc
      have HR : Hid (Reads w (some ⟨b, off, none⟩) n fun t => .int .i32 (ks t)) := hR
      clear hR
      go_wp2
      go_roundw
      case rel =>
        refine ⟨k + 1, by omega, by go_num, (hrow.set k _).congr fun t ht => ?_, hbel.setCell (Nat.le_refl _) _, by simpa using hsz⟩
        by_cases e : t = k
        · subst e; rw [upd_same]; simp
        · rw [upd_other _ _ _ _ e]
          by_cases h2 : t < k
          · simp [h2, show t < k + 1 by omega]
          · simp [h2, show ¬ t < k + 1 by omega]
      case measure => simp [intOf]; omega
    · have HR : Hid (Row wr w.heap.size n 21 (fun t => .int .i32 (ks t))) := hrow.congr fun t ht => by simp [show t < k by omega]
      go_wp2
      go_ret
      exact ⟨rfl, HR.out, hbel, hsz⟩

theorem clone_w32_calls (a : Option Addr) (n cap : Nat) (ks : Nat → Int) (w : World) (hn : n ≤ 1048576) (hR : Reads w a n (fun t => .int .i32 (ks t))) :
    Calls Try.prog 23 #[.slice a n cap] w fun e w' => AnsS e w' n (fun t => .int .i32 (ks t)) ∧ Below w.heap.size w w' := by
  cases a with
  | none =>
    have hn0 : n = 0 := by
      rcases Nat.eq_zero_or_pos n with h | h
      · exact h
      · obtain ⟨b, off, hb, _⟩ := hR 0 h; cases hb
    subst hn0
    refine (clone_w32_nil 0 cap w).mono ?_
    rintro e w' ⟨rfl, rfl⟩
    exact ⟨⟨none, 0, rfl, Reads.nil _ _ _⟩, Below.refl _ _⟩
  | some ad =>
    refine (clone_w32_some ad n cap ks w hn hR).mono ?_
    rintro e w' ⟨rfl, h1, h2, h3⟩
    exact ⟨⟨_, _, rfl, h1.reads (Nat.le_refl _)⟩, h2⟩
end Go.Proofs.Qxb6000508a
