/-
  The walk of mergeOrder: a stable sort of 0 .. n-1 by their keys.
-/
import Derived.Test.Qxb6602415aStrs
import Derived.Test.Qxb6602415aClones
import Derived.Deep.DeepCutAuto
namespace Go.Proofs.Qxb6602415a
open Go.RowKit
set_option linter.unusedVariables false

def iv (f : Nat → Nat) : Nat → Value := fun t => .int .i64 (f t : Int)
theorem iv_def (f : Nat → Nat) (t : Nat) : iv f t = .int .i64 (f t : Int) := rfl
theorem iv_put (f : Nat → Nat) (k x : Nat) (v : Value) (hv : v = .int .i64 (x : Int)) (t : Nat) : upd (iv f) k v t = iv (Pl.put f k x) t := by
  subst hv
  unfold upd iv Pl.put
  by_cases h : t = k <;> simp [h]

set_option maxRecDepth 100000 in
set_option maxHeartbeats 4000000 in
theorem mergeOrder_calls (a : Option Addr) (n cap : Nat) (ks : Nat → ByteArray) (o : Int) (w : World) (hn : n ≤ 4096) (hks : ∀ t, t < n → (ks t).size ≤ 1048576) (hR : Reads w a n (fun t => .string (ks t))) :
    Calls Try.prog 13 #[.slice a n cap, .int .u8 o] w fun e w' => ∃ (b : Nat) (f : Nat → Nat), e = .returned (.slice (some ⟨b, 0, none⟩) n n) ∧ w.heap.size ≤ b ∧ Row w' b n 3 (iv f) ∧ Below w.heap.size w w' ∧
      (Pl.seg f 0 n).Perm (List.range n) ∧ (Pl.seg f 0 n).Pairwise (fun x y => Pl.before (ltK o ks) x y = true) := by
  have hmk := mk_ints n (by omega)
  have HK : Hid (∀ t, t < n → (ks t).size ≤ 1048576) := hks
  clear hks
  go_enter Try.func13, Try.ntmps13
  go_wp2
  go_loopw [7] (fun i wr => ∃ k : Nat, k ≤ n ∧ i = .int .i64 k ∧ Row wr w.heap.size n 3 (iv fun t => if t < k then t else 0) ∧ Below w.heap.size w wr ∧ wr.heap.size = w.heap.size + 1) (fun i _ => n - (intOf i).toNat)
  case atStart =>
    refine ⟨0, Nat.zero_le _, rfl, (Row.made _ _ _ _).congr fun t _ => ?_, (Below.refl _ _).alloc (Nat.le_refl _) _, by simp⟩
    simp [Nat.mod_one, iv]
  case round =>
    obtain ⟨k, hk, rfl, hrow, hbel, hsz⟩ := hrel
    by_cases hlt : k < n
    · have hrk := hrow.cell k hlt
      have hfk := hrow.frozen k
      go_wp2
      go_roundw
      case rel =>
        refine ⟨k + 1, by omega, by go_num, (hrow.set k _).congr fun t ht => ?_, hbel.setCell (Nat.le_refl _) _, by simpa using hsz⟩
        unfold upd iv
        by_cases e : t = k
        · subst e; simp
        · by_cases h2 : t < k
          · simp [e, h2, show t < k + 1 by omega]
          · simp [e, h2, show ¬ t < k + 1 by omega]
      case measure => simp [intOf]; omega
    · have hrow2 : Row wr w.heap.size n 3 (iv id) := hrow.congr fun t ht => by simp [iv, show t < k by omega]
      clear hrow
      have HSZ : Hid (wr.heap.size = w.heap.size + 1) := hsz
      have hszle : w.heap.size < wr.heap.size := by omega
      clear hsz
      go_wp2
      clear hmk
      go_loopw [6, 8, 9] (fun va vb wd wr => ∃ (ba bb W : Nat) (A B : Nat → Nat), va = .slice (some ⟨ba, 0, none⟩) n n ∧ vb = .slice (some ⟨bb, 0, none⟩) n n ∧ wd = .int .i64 W ∧ 1 ≤ W ∧ W ≤ 8192 ∧ ba ≠ bb ∧ w.heap.size ≤ ba ∧ w.heap.size ≤ bb ∧
          Row wr ba n 3 (iv A) ∧ Row wr bb n 3 (iv B) ∧ Below w.heap.size w wr ∧ Pl.Sorted (ltK o ks) A n W) (fun _ _ wd _ => 8192 - (intOf wd).toNat)
      case atStart =>
        refine ⟨w.heap.size, wr.heap.size, 1, id, fun _ => 0, rfl, rfl, rfl, Nat.le_refl _, by omega, by omega, Nat.le_refl _, by omega, hrow2.alloc _, (Row.made _ _ _ _).congr fun t _ => ?_, hbel.alloc (by omega) _, Pl.sorted_one _ _ _ (fun _ _ => rfl)⟩
        simp [Nat.mod_one, iv]
      case round =>
        clear hbel hrow2 HSZ hszle hlt hk
        obtain ⟨ba, bb, W, A, B, rfl, rfl, rfl, hW1, hW2, hne, hba, hbb, hra, hrb, hbel, hS⟩ := hrel
        by_cases hlt : W < n
        · have hAlt : ∀ t, t < n → A t < n := fun t ht => Pl.sorted_lt hS (by omega) ht
          have HAlt : Hid (∀ t, t < n → A t < n) := hAlt
          clear hAlt
          go_wp2
          go_loopw [10] (fun lo wm => ∃ (c L : Nat) (B : Nat → Nat), lo = .int .i64 L ∧ Hid (L = c * (2 * W)) ∧ L ≤ n + 2 * W ∧ Row wm ba n 3 (iv A) ∧ Row wm bb n 3 (iv B) ∧ Below w.heap.size w wm ∧ Pl.SortedTo (ltK o ks) B n (2 * W) c) (fun lo _ => 20000 - (intOf lo).toNat)
          case atStart => exact ⟨0, 0, B, rfl, by simp [Hid], by omega, hra, hrb, hbel, Pl.sortedTo_zero _ _ _ _⟩
          case round =>
            clear hra hrb hbel
            obtain ⟨c, L, B, rfl, HL, hLn, hra, hrb, hbel, hT⟩ := hrel
            by_cases hL : L < n
            · obtain ⟨M, HM, hM1, hM2⟩ : ∃ M : Nat, Hid (M = min (L + W) n) ∧ L ≤ M ∧ M ≤ n := ⟨_, rfl, by omega, by omega⟩
              obtain ⟨H, HH, hH1, hH2⟩ : ∃ H : Nat, Hid (H = min (L + 2 * W) n) ∧ M ≤ H ∧ H ≤ n := ⟨_, rfl, by have := HM.out; omega, by omega⟩
              go_upto_if 48 with fail
              go_cut [11] (fun v wc => v = .int .i64 M ∧ wc = wr)
              case first =>
                have hM := HM.out
                have HM' : Hid (M = min (L + W) n) := HM
                by_cases c1 : L + W ≤ n
                · have e : L + W = M := by omega
                  have E : Hid (L + W = M) := e
                  clear hM e
                  go_wp2
                  go_meet
                  case rel => exact ⟨by rw [← E.out]; go_num, rfl⟩
                · have e : n = M := by omega
                  have E : Hid (n = M) := e
                  clear hM e
                  go_wp2
                  go_meet
                  case rel => exact ⟨by rw [← E.out], rfl⟩
              case rest =>
                obtain ⟨rfl, rfl⟩ := hcut
                go_upto_if 56 with fail
                go_cut [12] (fun v wd => v = .int .i64 H ∧ wd = wc)
                case first =>
                  have hH := HH.out
                  by_cases c1 : L + 2 * W ≤ n
                  · have e : L + 2 * W = H := by omega
                    have E : Hid (L + 2 * W = H) := e
                    clear hH e
                    go_wp2
                    go_meet
                    case rel => exact ⟨by rw [← E.out]; go_num, rfl⟩
                  · have e : n = H := by omega
                    have E : Hid (n = H) := e
                    clear hH e
                    go_wp2
                    go_meet
                    case rel => exact ⟨by rw [← E.out], rfl⟩
                case rest =>
                  obtain ⟨rfl, rfl⟩ := hcut
                  go_wp2
                  go_loopw [13, 14, 15] (fun vi vj vk wm => ∃ (i j k : Nat) (B' : Nat → Nat), vi = .int .i64 i ∧ vj = .int .i64 j ∧ vk = .int .i64 k ∧ L ≤ i ∧ i ≤ M ∧ M ≤ j ∧ j ≤ H ∧ i + j ≤ k + M ∧ k + M ≤ i + j ∧ Row wm ba n 3 (iv A) ∧ Row wm bb n 3 (iv B') ∧ Below w.heap.size w wm ∧
                      Hid (∀ t, t < L → B' t = B t) ∧ Pl.Merging (fun x y => !ltK o ks y x) A B' L M H i j k) (fun _ _ vk _ => 20000 - (intOf vk).toNat)
                  case atStart =>
                    exact ⟨L, M, L, B, rfl, rfl, rfl, Nat.le_refl _, hM1, Nat.le_refl _, hH1, by omega, by omega, hra, hrb, hbel, fun _ _ => rfl, Pl.merging_start _ _ _ _ _ _⟩
                  case round =>
                    clear hra hrb hbel
                    obtain ⟨i, j, k, B', rfl, rfl, rfl, hi1, hi2, hj1, hj2, hs1, hs2, hra, hrb, hbel, HB, hMg⟩ := hrel
                    by_cases hk : k < H
                    · have hcb := hrb.cell k (by omega)
                      have hfb := hrb.frozen k
                      by_cases hj : H ≤ j
                      · have hi : i < M := by omega
                        have hca := hra.cell i (by omega)
                        rw [iv_def] at hca
                        have hg : decide ((H : Int) ≤ (j : Int)) = true := decide_eq_true (by omega)
                        go_wp2
                        go_quiet (fail)
                        go_wp2
                        go_roundw
                        case rel =>
                          refine ⟨i + 1, j, k + 1, Pl.put B' k (A i), by go_num, rfl, by go_num, by omega, by omega, hj1, hj2, by omega, by omega, hra.set_other hne _ _, (hrb.set k _).congr (fun t _ => iv_put _ _ _ _ rfl t), (below_drewN hbel _).setCell (by exact hbb) _, fun t ht => ?_, Pl.merging_left hMg (by omega) hi (.inl hj)⟩
                          rw [Pl.put_other _ _ _ _ (by omega)]; exact HB.out t ht
                        case measure => simp [intOf]; omega
                      · have hcj := hra.cell j (by omega)
                        rw [iv_def] at hcj
                        have hg : decide ((H : Int) ≤ (j : Int)) = false := decide_eq_false (by omega)
                        by_cases hi : i < M
                        · have hci := hra.cell i (by omega)
                          rw [iv_def] at hci
                          have hAi := HAlt.out i (by omega)
                          have hAj := HAlt.out j (by omega)
                          have hsi := HK.out (A i) hAi
                          have hsj := HK.out (A j) hAj
                          obtain ⟨bk, ok, rfl, hkc⟩ := hR.at (by omega)
                          have hki : wr.cell? ⟨bk, ok + A i, none⟩ = some (.string (ks (A i))) := by rw [hbel.cell (block_lt (hkc _ hAi))]; exact hkc _ hAi
                          have hkj : wr.cell? ⟨bk, ok + A j, none⟩ = some (.string (ks (A j))) := by rw [hbel.cell (block_lt (hkc _ hAj))]; exact hkc _ hAj
                          clear hkc
                          cases hkb : kb o (ks (A j)) (ks (A i)) with
                          | false =>
                            go_wp2
                            go_quiet ((go_at_call 22; exact Calls.quiet_of (keyBefore_calls _ _ _ (by omega) (by omega) _)))
                            go_wp2
                            go_roundw
                            case rel =>
                              refine ⟨i + 1, j, k + 1, Pl.put B' k (A i), by go_num, rfl, by go_num, by omega, by omega, hj1, hj2, by omega, by omega, hra.set_other hne _ _, (hrb.set k _).congr (fun t _ => iv_put _ _ _ _ rfl t), (below_drewN hbel _).setCell (by exact hbb) _, fun t ht => ?_, Pl.merging_left hMg (by omega) hi (.inr (by simp [ltK, hkb]))⟩
                              rw [Pl.put_other _ _ _ _ (by omega)]; exact HB.out t ht
                            case measure => simp [intOf]; omega
                          | true =>
                            go_wp2
                            go_quiet ((go_at_call 22; exact Calls.quiet_of (keyBefore_calls _ _ _ (by omega) (by omega) _)))
                            go_wp2
                            go_roundw
                            case rel =>
                              refine ⟨i, j + 1, k + 1, Pl.put B' k (A j), rfl, by go_num, by go_num, hi1, hi2, by omega, by omega, by omega, by omega, hra.set_other hne _ _, (hrb.set k _).congr (fun t _ => iv_put _ _ _ _ rfl t), (below_drewN hbel _).setCell (by exact hbb) _, fun t ht => ?_, Pl.merging_right hMg (by omega) (by omega) (.inr (by simp [ltK, hkb]))⟩
                              rw [Pl.put_other _ _ _ _ (by omega)]; exact HB.out t ht
                            case measure => simp [intOf]; omega
                        · have hg2 : decide ((i : Int) < (M : Int)) = false := decide_eq_false (by omega)
                          go_wp2
                          go_quiet (fail)
                          go_wp2
                          go_roundw
                          case rel =>
                            refine ⟨i, j + 1, k + 1, Pl.put B' k (A j), rfl, by go_num, by go_num, hi1, hi2, by omega, by omega, by omega, by omega, hra.set_other hne _ _, (hrb.set k _).congr (fun t _ => iv_put _ _ _ _ rfl t), (below_drewN hbel _).setCell (by exact hbb) _, fun t ht => ?_, Pl.merging_right hMg (by omega) (by omega) (.inl (by omega))⟩
                            rw [Pl.put_other _ _ _ _ (by omega)]; exact HB.out t ht
                          case measure => simp [intOf]; omega
                    · have hend := Pl.merging_end hMg (by omega) (by omega) (show k = H by omega)
                      have hT2 : Pl.SortedTo (ltK o ks) B' n (2 * W) (c + 1) := by
                        have eL := HL.out
                        refine Pl.sortedTo_succ (swo_ltK o ks) hS (by omega) hT (by omega) (fun t ht => HB.out t (by omega)) ?_
                        rw [← eL, ← HM.out, ← HH.out]
                        exact hend
                      clear hMg hend
                      go_wp2
                      go_roundw
                      case rel =>
                        refine ⟨c + 1, L + 2 * W, B', by go_num, ?_, by omega, hra, hrb, hbel, hT2⟩
                        have eL := HL.out
                        show L + 2 * W = (c + 1) * (2 * W)
                        rw [Nat.add_mul, ← eL, Nat.one_mul]
                      case measure => simp [intOf]; omega
            · have hS2 : Pl.Sorted (ltK o ks) B n (2 * W) := Pl.sorted_of_to hT (by rw [← HL.out]; omega)
              go_wp2
              go_roundw
              case rel =>
                refine ⟨bb, ba, W * 2, B, A, rfl, rfl, by go_num, by omega, by omega, fun e => hne e.symm, hbb, hba, hrb, hra, hbel, ?_⟩
                rw [Nat.mul_comm]; exact hS2
              case measure => simp [intOf]; omega
        · have HF : Hid ((Pl.seg A 0 n).Perm (List.range n) ∧ (Pl.seg A 0 n).Pairwise (fun x y => Pl.before (ltK o ks) x y = true)) := Pl.sorted_end hS (by omega)
          go_wp2
          go_ret
          exact ⟨ba, A, rfl, hba, hra, hbel, HF.out⟩
end Go.Proofs.Qxb6602415a
