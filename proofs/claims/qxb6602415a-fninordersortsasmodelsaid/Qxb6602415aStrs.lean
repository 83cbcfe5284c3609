/-
  The walks of the functions over two keys: sameKey, bytesBefore, keyBefore, less.
-/
import Derived.Test.Qxb6602415aProg
import Derived.Test.Qxb6602415aKeys
import Derived.WalkKit
import Derived.WalkSpells
import Derived.Deep.QuietTactic
import Derived.BigQuiet
namespace Go.Proofs.Qxb6602415a
open Go.RowKit

theorem ex_drew2 (w : World) (a b : Nat) : ∃ q, (w.drewN a).drewN b = w.drewN q := ⟨_, World.drewN_drewN w a b⟩
theorem ex_drew3 (w : World) (a b c : Nat) : ∃ q, ((w.drewN a).drewN b).drewN c = w.drewN q := ⟨_, by rw [World.drewN_drewN, World.drewN_drewN]⟩
theorem ret_bool {a b : Bool} (h : a = b) : Ending.returned (.bool a) = .returned (.bool b) := by rw [h]

set_option maxHeartbeats 400000 in
theorem sameKey_calls (x y : ByteArray) (hx : x.size ≤ 1073741824) (hy : y.size ≤ 1073741824) (w : World) :
    Calls Try.prog 14 #[.string x, .string y] w fun e w' => e = .returned (.bool (decide (x = y))) ∧ ∃ q, w' = w.drewN q := by
  by_cases hsz : x.size = y.size
  · have hne : ((x.size : Int) != (y.size : Int)) = false := by simp [hsz]
    have HS : Hid (x.size = y.size) := hsz
    clear hsz
    go_enter Try.func14, Try.ntmps14
    go_wp2
    go_loopw [5] (fun i wr => ∃ k q : Nat, k ≤ x.size ∧ i = .int .i64 k ∧ wr = w.drewN q ∧ Hid (∀ t (h1 : t < x.size) (h2 : t < y.size), t < k → x[t] = y[t])) (fun i _ => x.size - (intOf i).toNat)
    case atStart => exact ⟨0, 0, Nat.zero_le _, rfl, rfl, fun t _ _ ht => absurd ht (by omega)⟩
    case round =>
      obtain ⟨k, q, hk, rfl, rfl, Hs⟩ := hrel
      by_cases hlt : k < x.size
      · have hlt2 : k < y.size := by have := HS.out; omega
        go_wp2
        go_quiet (fail)
        go_wp2
        · rename_i hd
          go_ret
          refine ⟨ret_bool ?_, ex_drew2 _ _ _⟩
          refine (decide_eq_false fun e => ?_).symm
          subst e
          simp at hd
        · rename_i hd
          go_roundw
          case rel =>
            refine ⟨k + 1, _, by omega, by go_num, rfl, fun t h1 h2 ht => ?_⟩
            by_cases htk : t = k
            · subst htk
              simp at hd
              exact UInt8.toNat_inj.1 (by omega)
            · exact Hs.out t h1 h2 (by omega)
          case measure => simp [intOf]; omega
      · go_wp2
        go_ret
        refine ⟨ret_bool ?_, _, rfl⟩
        exact (decide_eq_true (key_same HS.out fun t h1 h2 => Hs.out t h1 h2 (by omega))).symm
  · have hne : ((x.size : Int) != (y.size : Int)) = true := by rw [bne_iff_ne]; omega
    have HS : Hid (¬ x.size = y.size) := hsz
    clear hsz
    go_enter Try.func14, Try.ntmps14
    go_wp2
    go_ret
    refine ⟨ret_bool ?_, 0, rfl⟩
    exact (decide_eq_false fun e => HS.out (by rw [e])).symm

theorem bless_step {x y : ByteArray} {k : Nat} (h1 : k < x.size) (h2 : k < y.size) :
    Op.bytesLess (x.toList.drop k) (y.toList.drop k) = if x[k] = y[k] then Op.bytesLess (x.toList.drop (k + 1)) (y.toList.drop (k + 1)) else decide ((x[k].toNat : Int) < (y[k].toNat : Int)) := by
  rw [key_drop x k h1, key_drop y k h2, Op.bytesLess]
  by_cases e : x[k] = y[k]
  · simp [e]
  · rw [if_neg e]
    simp [e, UInt8.lt_iff_toNat_lt]

theorem bless_last {x y : ByteArray} {k : Nat} (h : ¬ (k < x.size ∧ k < y.size)) (h1 : k ≤ x.size) (h2 : k ≤ y.size) :
    Op.bytesLess (x.toList.drop k) (y.toList.drop k) = decide ((x.size : Int) < (y.size : Int)) := by
  by_cases hx : k < x.size
  · have hy : y.size ≤ k := by omega
    rw [key_drop_end y k hy]
    have e : decide ((x.size : Int) < (y.size : Int)) = false := decide_eq_false (by omega)
    rw [e, Op.bytesLess.eq_def]
  · rw [key_drop_end x k (by omega)]
    by_cases hy : k < y.size
    · rw [key_drop y k hy, Op.bytesLess]
      exact (decide_eq_true (by omega)).symm
    · rw [key_drop_end y k (by omega), Op.bytesLess]
      exact (decide_eq_false (by omega)).symm

set_option maxHeartbeats 400000 in
theorem bytesBefore_calls (x y : ByteArray) (hx : x.size ≤ 1073741824) (hy : y.size ≤ 1073741824) (w : World) :
    Calls Try.prog 27 #[.string x, .string y] w fun e w' => e = .returned (.bool (bl x y)) ∧ ∃ q, w' = w.drewN q := by
  by_cases hsz : y.size < x.size
  all_goals
    go_enter Try.func27, Try.ntmps27
    go_wp2
    go_loopw [6] (fun i wr => ∃ k q : Nat, k ≤ x.size ∧ k ≤ y.size ∧ i = .int .i64 k ∧ wr = w.drewN q ∧ Hid (Op.bytesLess (x.toList.drop k) (y.toList.drop k) = bl x y)) (fun i _ => x.size - (intOf i).toNat)
    case atStart => exact ⟨0, 0, Nat.zero_le _, Nat.zero_le _, rfl, rfl, by simp [Hid, bl]⟩
    case round =>
      obtain ⟨k, q, hk, hk2, rfl, rfl, Hs⟩ := hrel
      by_cases hlt : k < x.size ∧ k < y.size
      · obtain ⟨hlt1, hlt2⟩ := hlt
        by_cases he : x[k] = y[k]
        · have hd : ((x[k].toNat : Int) != (y[k].toNat : Int)) = false := by simp [he]
          have HE : Hid (x[k] = y[k]) := he
          clear he
          go_wp2
          go_quiet (fail)
          go_wp2
          go_roundw
          case rel => exact ⟨k + 1, _, by omega, by omega, by go_num, rfl, by have := Hs.out; rw [bless_step hlt1 hlt2, if_pos HE.out] at this; exact this⟩
          case measure => simp [intOf]; omega
        · have hd : ((x[k].toNat : Int) != (y[k].toNat : Int)) = true := by
            rw [bne_iff_ne]; intro e; exact he (UInt8.toNat_inj.1 (by omega))
          have HE : Hid (¬ x[k] = y[k]) := he
          clear he
          go_wp2
          go_quiet (fail)
          go_wp2
          go_quiet (fail)
          go_wp2
          go_ret
          refine ⟨ret_bool ?_, ex_drew3 _ _ _ _⟩
          rw [← Hs.out, bless_step hlt1 hlt2, if_neg HE.out]; simp
      · have Hlt : Hid (¬ (k < x.size ∧ k < y.size)) := hlt
        clear hlt
        have h3 : ¬ k < x.size ∨ ¬ k < y.size := by have := Hlt.out; omega
        have h4 : (y.size < x.size → ¬ k < y.size) ∧ (¬ y.size < x.size → ¬ k < x.size) := by have := Hlt.out; omega
        clear h3
        first
          | (have h5 := h4.1 hsz; clear h4; go_wp2; go_ret; refine ⟨ret_bool ?_, _, rfl⟩; rw [← Hs.out, bless_last Hlt.out hk hk2]; simp)
          | (have h5 := h4.2 hsz; clear h4; go_wp2; go_ret; refine ⟨ret_bool ?_, _, rfl⟩; rw [← Hs.out, bless_last Hlt.out hk hk2]; simp)

set_option maxHeartbeats 400000 in
theorem keyBefore_calls (x y : ByteArray) (o : Int) (hx : x.size ≤ 1073741824) (hy : y.size ≤ 1073741824) (w : World) :
    Calls Try.prog 22 #[.string x, .string y, .int .u8 o] w fun e w' => e = .returned (.bool (kb o x y)) ∧ ∃ q, w' = w.drewN q := by
  by_cases ho : o = 1
  · subst ho
    by_cases hs : x.size = y.size
    · have hd : ((x.size : Int) != (y.size : Int)) = false := by simp [hs]
      have HS : Hid (x.size = y.size) := hs
      clear hs
      go_enter Try.func22, Try.ntmps22
      go_wp2_with (go_at_call 27; refine (bytesBefore_calls _ _ hx hy _).mono ?_; rintro e w' ⟨rfl, q, rfl⟩)
      go_ret
      refine ⟨ret_bool ?_, _, rfl⟩
      unfold kb; rw [if_neg (by simp [HS.out])]
    · have hd : ((x.size : Int) != (y.size : Int)) = true := by rw [bne_iff_ne]; omega
      have HS : Hid (¬ x.size = y.size) := hs
      clear hs
      go_enter Try.func22, Try.ntmps22
      go_wp2
      go_ret
      refine ⟨ret_bool ?_, 0, rfl⟩
      unfold kb; rw [if_pos ⟨rfl, HS.out⟩]
  · have hd : (o == 1) = false := by simp [ho]
    have HO : Hid (¬ o = 1) := ho
    clear ho
    go_enter Try.func22, Try.ntmps22
    go_wp2_with (go_at_call 27; refine (bytesBefore_calls _ _ hx hy _).mono ?_; rintro e w' ⟨rfl, q, rfl⟩)
    go_ret
    refine ⟨ret_bool ?_, _, rfl⟩
    unfold kb; rw [if_neg (by simp [HO.out])]

set_option maxHeartbeats 400000 in
theorem less_calls (x y : ByteArray) (o : Int) (w : World) :
    Calls Try.prog 26 #[.int .u8 o, .string x, .string y] w fun e w' => e = .returned (.bool (kb o x y)) ∧ w' = w := by
  by_cases ho : o = 1
  · subst ho
    by_cases hs : x.size = y.size
    · have hd : ((x.size : Int) != (y.size : Int)) = false := by simp [hs]
      have HS : Hid (x.size = y.size) := hs
      clear hs
      go_enter Try.func26, Try.ntmps26
      go_wp2
      go_ret
      refine ⟨ret_bool ?_, rfl⟩
      unfold kb; rw [if_neg (by simp [HS.out])]; rfl
    · have hd : ((x.size : Int) != (y.size : Int)) = true := by rw [bne_iff_ne]; omega
      have HS : Hid (¬ x.size = y.size) := hs
      clear hs
      go_enter Try.func26, Try.ntmps26
      go_wp2
      go_ret
      refine ⟨ret_bool ?_, rfl⟩
      unfold kb; rw [if_pos ⟨rfl, HS.out⟩]
  · have hd : (o == 1) = false := by simp [ho]
    have HO : Hid (¬ o = 1) := ho
    clear ho
    go_enter Try.func26, Try.ntmps26
    go_wp2
    go_ret
    refine ⟨ret_bool ?_, rfl⟩
    unfold kb; rw [if_neg (by simp [HO.out])]; rfl

end Go.Proofs.Qxb6602415a
