/-
  The walk of FnInternIdempotent.
-/
import Derived.Test.Qxb6000508aTab
namespace Go.Proofs.Qxb6000508a
open Go.RowKit Go.Maps
set_option linter.unusedVariables false

theorem info21 : (Try.prog.info? 21).map (fun i => (i.zero, i.size, i.bytes)) = some (some (.int .i32 0), 1, 4) := by kernel_rfl
theorem mk_i32s (n : Nat) (h : n ≤ 1048576) (w : World) :
    (Instr.makeSlice 31 (.int .i64 (n : Int)) (.int .i64 (n : Int))).run Try.prog w = .ok (.slice (some ⟨w.heap.size, 0, none⟩) n n) (w.alloc (.cells (madeCells #[.int .i32 0] n) 21)) :=
  run_make_row' 31 21 (.int .i32 0) 4 Try.underlying31 info21 rfl .i64 .i64 n (by omega) (by omega) w

set_option maxRecDepth 100000 in
set_option maxHeartbeats 2000000 in
theorem law4_calls (a : Option Addr) (n cap : Nat) (ks : Nat → ByteArray) (w : World) (hn : n ≤ 9223372036854775807) (hR : Reads w a n (fun t => .string (ks t))) :
    Calls Try.prog 4 #[.slice a n cap] w fun e w' => e = .returned (.bool true) ∧ Below w.heap.size w w' := by
  go_enter Try.func4, Try.ntmps4
  go_wp2_with fail
  refine (zzIdem_calls a n cap ks w hn hR).mono ?_
  rintro e w0 ⟨⟨r, rfl, hr⟩, hw⟩
  obtain rfl := hw.symm
  clear hw
  cases r with
  | false =>
    go_wp2_with fail
    go_ret
    exact ⟨rfl, Below.refl _ _⟩
  | true =>
  obtain ⟨hn1, hk1⟩ := hr rfl
  have HK : Hid (∀ t, t < n → (ks t).size ≤ 1048576) := hk1
  clear hr hk1
  go_wp2_with fail
  refine (addStrs_calls a n cap 0 ks w hn1 (by omega) (by omega) hR).mono ?_
  rintro e w0 ⟨⟨r, rfl, hr0, hr1⟩, hw⟩
  obtain rfl := hw.symm
  clear hw
  by_cases h1 : 1048576 < r
  · go_wp2_with fail
    go_ret
    exact ⟨rfl, Below.refl _ _⟩
  by_cases h2 : 65536 < n
  · go_wp2_with fail
    go_ret
    exact ⟨rfl, Below.refl _ _⟩
  go_wp2_with fail
  refine (cloneStrs_calls a n cap ks w hn1 hR).mono ?_
  rintro e w1 ⟨⟨a1, c1, rfl, hR1⟩, hb1⟩
  clear hR h1 hr0 hr1
  go_wp2_with fail
  refine (new_calls w1).mono ?_
  rintro e w2 ⟨rfl, hG2, _, hS2, hb2, hz2⟩
  have hT2 : Tab w2 w1.heap.size (w1.heap.size + 2) w1.heap.size (w1.heap.size + 1) 0 ks (fun _ => none) (fun b => w1.heap.size ≤ b ∧ b ≠ w2.heap.size) :=
    tab_new hG2 hS2 (by omega) _ _ _ ⟨by omega, by omega⟩ ⟨by omega, by omega⟩
  have hmk := mk_i32s n hn1
  have hs2 : w1.heap.size ≤ w2.heap.size := by omega
  clear hG2 hS2
  have HZ2 : Hid (w2.heap.size = w1.heap.size + 3) := hz2
  clear hz2
  go_wp2_with fail
  clear hmk
  go_loopw [5] (fun i wr => ∃ (k T : Nat) (tx : Nat → ByteArray) (ix : ByteArray → Option Nat) (f : Nat → Nat), k ≤ n ∧ i = .int .i64 k ∧ T ≤ k ∧ Tab wr w1.heap.size (w1.heap.size + 2) w1.heap.size (w1.heap.size + 1) T tx ix (fun b => w1.heap.size ≤ b ∧ b ≠ w2.heap.size) ∧
    Row wr w2.heap.size n 21 (fun t => .int .i32 (f t : Int)) ∧ Below w1.heap.size w1 wr ∧ w2.heap.size < wr.heap.size ∧ Hid (∀ t, t < k → ix (ks t) = some (f t))) (fun i _ => n - (intOf i).toNat)
  case atStart =>
    refine ⟨0, 0, ks, fun _ => none, fun _ => 0, Nat.zero_le _, rfl, Nat.le_refl _, hT2.kept ((Turns.refl w2 (fun _ => False)).alloc _) (fun _ _ c => c), (Row.made _ _ _ _).congr fun t _ => ?_, hb2.alloc (by omega) _, by simp, fun t ht => absurd ht (by omega)⟩
    simp [Nat.mod_one]
  case round =>
    obtain ⟨k, T, tx, ix, f, hk, rfl, hTk, hT, hrow, hb, hz, HI⟩ := hrel
    clear hT2 hb2
    have hRr := hR1.below hb
    by_cases hlt : k < n
    · obtain ⟨b0, off, rfl, hc⟩ := hRr.at (by omega)
      have hck := hc k hlt
      clear hc
      go_wp2_with fail
      refine (zzIntern_any hT (ks k) (by omega) (HK.out k hlt) hb.size).mono ?_
      rintro e w3 ⟨j, rfl, T', tx', ix', hT3, hTu, hst⟩
      have hle := hst.le
      have hrow3 : Row w3 w2.heap.size n 21 (fun t => .int .i32 (f t : Int)) := hTu.row hrow (fun c => c.2 rfl)
      have hz3 := hTu.size
      have fk := hrow3.frozen k
      have ck := hrow3.cell k hlt
      clear hrow hck
      have HST : Hid (Step T tx ix (ks k) j T' tx' ix') := hst
      clear hst
      have hbb : Below w1.heap.size w1 w3 := hb.trans (hTu.below hb.size (fun x hx => hx.1))
      go_wp2_with fail
      go_roundw
      case rel =>
        refine ⟨k + 1, T', tx', ix', fun t => if t = k then j else f t, by omega, by go_num, by omega, ?_, (hrow3.set k _).congr fun t ht => ?_, hbb.setCell (by omega) _, by simp; omega, fun t ht => ?_⟩
        · refine Tab.mono (S := fun b => (w1.heap.size ≤ b ∧ b ≠ w2.heap.size) ∨ wr.heap.size ≤ b) (hT3.kept (S' := fun b => b = w2.heap.size) ((Turns.refl _ _).setCell w2.heap.size k _ (.inl rfl)) (fun b hb' e => ?_)) (fun b hb' => ?_)
          · rcases hb' with c | c <;> omega
          · have := hb.size
            rcases hb' with c | c <;> omega
        · by_cases e : t = k
          · subst e; rw [upd_same]; simp
          · rw [upd_other _ _ _ _ e]; simp [e]
        · by_cases e : t = k
          · subst e; simp [HST.out.here]
          · simp only [if_neg e]; exact HST.out.keeps (HI.out t (by omega))
      case measure => simp [intOf]; omega
    · have HI2 : Hid (∀ t, t < n → ix (ks t) = some (f t)) := fun t ht => HI.out t (by omega)
      have HF : Hid (∀ t, t < n → f t < T) := fun t ht => ((hT.coh _ _).1 (HI2.out t ht)).1
      have hTn : T ≤ n := by omega
      clear HI hTk
      go_wp2_with fail
      refine (zzTextCount_calls hT).mono ?_
      rintro e w3 ⟨rfl, hw⟩
      obtain rfl := hw.symm
      clear hw
      go_wp2_with fail
      go_loopw [7] (fun i wm => ∃ x : Int, -1 ≤ x ∧ x < n ∧ i = .int .i64 x ∧ Tab wm w1.heap.size (w1.heap.size + 2) w1.heap.size (w1.heap.size + 1) T tx ix (fun b => w1.heap.size ≤ b ∧ b ≠ w2.heap.size) ∧
        Row wm w2.heap.size n 21 (fun t => .int .i32 (f t : Int)) ∧ Below w1.heap.size w1 wm) (fun i _ => (intOf i + 1).toNat)
      case atStart => exact ⟨(n : Int) - 1, by omega, by omega, by go_num, hT, hrow, hb⟩
      case round =>
        clear hT hrow hb hRr hlt hk hz
        obtain ⟨x, hx0, hx1, rfl, hT, hrow, hb⟩ := hrel
        by_cases hx : 0 ≤ x
        · obtain ⟨j, rfl⟩ := Int.eq_ofNat_of_zero_le hx
          have hj : j < n := by omega
          have hRm := hR1.below hb
          obtain ⟨b0, off, rfl, hc⟩ := hRm.at (by omega)
          have hck := hc j hj
          have hcf := hrow.cell j hj
          obtain ⟨jj, HJ⟩ : ∃ jj, Hid (f j = jj) := ⟨_, rfl⟩
          obtain ⟨sj, HSJ⟩ : ∃ sj, Hid (ks j = sj) := ⟨_, rfl⟩
          rw [HJ.out] at hcf
          rw [HSJ.out] at hck
          have HIJ : Hid (ix sj = some jj) := by rw [← HJ.out, ← HSJ.out]; exact HI2.out j hj
          clear hc
          go_wp2_with fail
          go_quiet ((go_at_call 11; exact Calls.quiet_of_same (zzIntern_found (hT.drewN _) sj jj HIJ.out)))
          go_wp2_with fail
          go_roundw
          case rel => exact ⟨(j : Int) - 1, by omega, by omega, by go_num, hT.drewN _, hrow.drewN _, below_drewN hb _⟩
          case measure => simp [intOf]
        · go_wp2_with fail
          refine (zzTextCount_calls hT).mono ?_
          rintro e w4 ⟨rfl, hw⟩
          obtain rfl := hw.symm
          clear hw
          go_wp2_with fail
          go_loop [8] (fun i => ∃ k : Nat, k ≤ n ∧ i = .int .i64 k) (fun i => n - (intOf i).toNat)
          case atStart => exact ⟨0, Nat.zero_le _, rfl⟩
          case round =>
            obtain ⟨k, hk, rfl⟩ := hrel
            by_cases hlt : k < n
            · have hcf := hrow.cell k hlt
              have hft := HF.out k hlt
              generalize f k = jj at hcf hft
              go_wp2_with fail
              go_round
              case rel => exact ⟨k + 1, by omega, by go_num⟩
              case measure => simp [intOf]; omega
            · go_wp2_with fail
              go_ret
              exact ⟨rfl, hb1.trans (hb.mono hb1.size)⟩

end Go.Proofs.Qxb6000508a
