/-
  The walk of FnMarkDuplicatesAgreesWithInOrder, out of what inOrder is said to do.
-/
import Derived.Test.Qxb6602415aLaw4
import Derived.Test.Qxb6602415aMark
import Derived.Test.Qxb6602415aCount
namespace Go.Proofs.Qxb6602415a
open Go.RowKit
set_option linter.unusedVariables false

def sk7 (x y : ByteArray) : Bool := decide (x = y)
theorem sameKey_sk7 (x y : ByteArray) (hx : x.size ≤ 1073741824) (hy : y.size ≤ 1073741824) (w : World) :
    Calls Try.prog 14 #[.string x, .string y] w fun e w' => e = .returned (.bool (sk7 x y)) ∧ ∃ q, w' = w.drewN q := sameKey_calls x y hx hy w
theorem adj_sk7 (ks : Nat → ByteArray) (f : Nat → Nat) (t : Nat) (h : 0 < t) : adj ks f t = sk7 (ks (f t)) (ks (f (t - 1))) := by simp [adj, sk7, h]
def iv7 (f : Nat → Nat) : Nat → Value := fun t => .int .i64 (f t : Int)
theorem adj_zero (ks : Nat → ByteArray) (f : Nat → Nat) : adj ks f 0 = false := by simp [adj]

set_option maxRecDepth 100000 in
set_option maxHeartbeats 2000000 in
theorem law7_calls {big : Nat → Int → (Nat → ByteArray) → Nat → Nat} (hI : InOrderSaid big) (a : Option Addr) (n cap : Nat) (ks : Nat → ByteArray) (o : Int) (w : World) (hn : n ≤ 9223372036854775807)
    (hR : Reads w a n (fun t => .string (ks t))) :
    Calls Try.prog 7 #[.slice a n cap, .int .u8 o] w fun e w' => e = .returned (.bool true) ∧ Below w.heap.size w w' := by
  go_enter Try.func7, Try.ntmps7
  go_wp2_with fail
  refine (zzAgrees_calls a n cap ks o w hn hR).mono ?_
  rintro e w' ⟨⟨r, rfl, hr⟩, hw⟩
  obtain rfl := hw.symm
  clear hw
  cases r with
  | false =>
    clear hr
    go_wp2_with fail
    go_ret
    exact ⟨rfl, Below.refl _ _⟩
  | true =>
    obtain ⟨hn1, HK0⟩ := hr rfl
    have HKs : Hid (∀ t, t < n → (ks t).size ≤ 1048576) := HK0
    clear hr hn HK0
    by_cases hbig : 4096 < n
    · go_wp2_with fail
      go_ret
      exact ⟨rfl, Below.refl _ _⟩
    have hn2 : n ≤ 4096 := by omega
    clear hbig hn1
    go_wp2_with fail
    refine (tooBig_calls a n cap ks (9 * n) w (by omega) (by omega) (by omega) hR).mono ?_
    rintro e w' ⟨⟨r, rfl, _⟩, hw⟩
    obtain rfl := hw.symm
    clear hw
    cases r with
    | true =>
      go_wp2_with fail
      go_ret
      exact ⟨rfl, Below.refl _ _⟩
    | false =>
      go_wp2_with fail
      refine (cloneStrings_at a n cap ks w (by omega) hR).mono ?_
      rintro e w1 ⟨a', cap', rfl, hR1, hb1, ha1, hz1⟩
      have hmkb := mk_bools n (by omega)
      go_wp2_with fail
      obtain ⟨w2, hw2⟩ : ∃ w2, w2 = w1.alloc (.cells (madeCells #[.bool false] n) 4) := ⟨_, rfl⟩
      rw [← hw2]
      have hb2 : Below w1.heap.size w1 w2 := by rw [hw2]; exact (Below.refl _ _).alloc (Nat.le_refl _) _
      have hD2 : Reads w2 (some ⟨w1.heap.size, 0, none⟩) n (fun t => .bool ((fun _ => false) t)) := by
        rw [hw2]; exact ((Row.made _ _ _ _).congr (fun t _ => by simp [Nat.mod_one])).reads (Nat.le_refl _)
      have hR2 := hR1.below hb2
      have hB2 : Below w.heap.size w w2 := hb1.trans (hb2.mono hb1.size)
      clear hw2 hmkb hR hR1 hb1 hb2 ha1 hz1
      refine (zzMark_calls a' (some ⟨w1.heap.size, 0, none⟩) n cap' n ks (fun _ => false) w2 (by omega) hR2 hD2).mono ?_
      rintro e w3 ⟨b1, b2, rfl, ho3, _, hb3⟩
      have hR3 := hR2.below hb3
      have hB3 : Below w.heap.size w w3 := hB2.trans (hb3.mono hB2.size)
      clear hR2 hD2 hB2 hb3
      go_wp2_with fail
      refine (zzInOrder_calls hI a' n cap' 0 w3.heap.size ks o none 0 (zv fun _ => 0) w3 hn2 (by omega) hR3 (owns_nil _ _ _) (Nat.le_refl _)).mono ?_
      rintro e w5 ⟨v5, f, rfl, hO5, hg5, hf⟩
      have hb35 : Below w3.heap.size w3 w5 := (Below.refl _ _).grown hg5 (Nat.le_refl _) (fun k hk => by cases hk)
      have hB5 : Below w.heap.size w w5 := hB3.trans (hb35.mono hB3.size)
      have hR5 := hR3.below hb35
      have ho5 := ho3.below hb35 ho3.lt
      have hS := hf.ord
      obtain ⟨ag, capg, rfl, hG0⟩ := hO5.slice
      rw [Nat.zero_add] at hG0
      have hG : Reads w5 ag n (iv7 f) := hG0.congr fun t _ => by
        have := ext_at (zv fun _ => 0) 0 f t
        rw [Nat.zero_add] at this
        exact this
      have ho : Row w5 b1 n 4 (fun t => .bool (rep ks t)) := ho5.congr fun t _ => by simp [mk]
      clear hG0 ho5 hR3 ho3 hB3 hg5 hb35 hf hO5
      rw [Nat.zero_add]
      go_wp2_with fail
      go_loop [11, 12] (fun c i => ∃ k : Nat, k ≤ n ∧ i = .int .i64 k ∧ c = .int .i64 (cntRep ks k : Int)) (fun _ i => n - (intOf i).toNat)
      case atStart => exact ⟨0, Nat.zero_le _, rfl, rfl⟩
      case round =>
        obtain ⟨k, hk, rfl, rfl⟩ := hrel
        have hcl := cntRep_le ks k
        have HCS : Hid (cntRep ks (k + 1) = cntRep ks k + if rep ks k then 1 else 0) := cntRep_succ ks k
        by_cases hlt : k < n
        · cases hrep : rep ks k with
          | true =>
            have c1 : w5.cell? ⟨b1, k, none⟩ = some (.bool true) := by rw [ho.cell k hlt, hrep]
            have HC2 : Hid (cntRep ks (k + 1) = cntRep ks k + 1) := by have := HCS.out; rw [hrep] at this; exact this
            go_wp2_with fail
            go_round
            case rel => exact ⟨k + 1, by omega, by go_num, by rw [HC2.out]; go_num⟩
            case measure => simp [intOf]; omega
          | false =>
            have c1 : w5.cell? ⟨b1, k, none⟩ = some (.bool false) := by rw [ho.cell k hlt, hrep]
            have HC2 : Hid (cntRep ks (k + 1) = cntRep ks k) := by have := HCS.out; rw [hrep] at this; exact this
            go_wp2_with fail
            go_round
            case rel => exact ⟨k + 1, by omega, by go_num, by rw [HC2.out]⟩
            case measure => simp [intOf]; omega
        · have HE : Hid (k = n) := show k = n by omega
          have HAG : Hid (cntAdj ks f n = cntRep ks k) := by rw [HE.out]; exact cnt_agree hS
          have HAN : Hid (anyRep ks n = decide (0 < cntRep ks k)) := by rw [HE.out]; exact anyRep_cnt ks n
          clear HCS ho
          go_wp2_with fail
          go_loopw [13, 14] (fun c i wr => ∃ t : Nat, t ≤ n ∧ i = .int .i64 t ∧ c = .int .i64 (cntAdj ks f t : Int) ∧ Reads wr ag n (iv7 f) ∧ Reads wr a' n (fun t => .string (ks t)) ∧ Below w.heap.size w wr) (fun _ i _ => n - (intOf i).toNat)
          case atStart => exact ⟨0, Nat.zero_le _, rfl, rfl, hG, hR5, hB5⟩
          case round =>
            clear hG hR5 hB5
            obtain ⟨t, ht, rfl, rfl, hG, hR5, hB5⟩ := hrel
            have hcl2 := cntAdj_le ks f t
            have HCS : Hid (cntAdj ks f (t + 1) = cntAdj ks f t + if adj ks f t then 1 else 0) := cntAdj_succ ks f t
            by_cases hlt2 : t < n
            · have l1 := hS.lt t hlt2
              obtain ⟨bg, og, rfl, cg⟩ := hG.at (by omega)
              have c1 : wr.cell? ⟨bg, og + t, none⟩ = some (.int .i64 (f t : Int)) := cg t hlt2
              by_cases ht0 : 0 < t
              · have l2 := hS.lt (t - 1) (by omega)
                have s1 := HKs.out (f t) l1
                have s2 := HKs.out (f (t - 1)) l2
                obtain ⟨bk, ok, rfl, ck⟩ := hR5.at (by omega)
                have c2 : wr.cell? ⟨bg, og + (t - 1), none⟩ = some (.int .i64 (f (t - 1) : Int)) := cg (t - 1) (by omega)
                have c3 : wr.cell? ⟨bk, ok + f t, none⟩ = some (.string (ks (f t))) := ck _ l1
                have c4 : wr.cell? ⟨bk, ok + f (t - 1), none⟩ = some (.string (ks (f (t - 1)))) := ck _ l2
                clear cg ck
                cases hsk : sk7 (ks (f t)) (ks (f (t - 1))) with
                | true =>
                  have HC2 : Hid (cntAdj ks f (t + 1) = cntAdj ks f t + 1) := by have := HCS.out; rw [adj_sk7 _ _ _ ht0, hsk] at this; exact this
                  go_wp2_with fail
                  go_quiet ((go_at_call 14; exact Calls.quiet_of (sameKey_sk7 _ _ (by omega) (by omega) _)))
                  go_wp2_with fail
                  go_roundw
                  case rel => exact ⟨t + 1, by omega, by go_num, by rw [HC2.out]; go_num, hG, hR5, below_drewN hB5 _⟩
                  case measure => simp [intOf]; omega
                | false =>
                  have HC2 : Hid (cntAdj ks f (t + 1) = cntAdj ks f t) := by have := HCS.out; rw [adj_sk7 _ _ _ ht0, hsk] at this; exact this
                  go_wp2_with fail
                  go_quiet ((go_at_call 14; exact Calls.quiet_of (sameKey_sk7 _ _ (by omega) (by omega) _)))
                  go_wp2_with fail
                  go_roundw
                  case rel => exact ⟨t + 1, by omega, by go_num, by rw [HC2.out], hG, hR5, below_drewN hB5 _⟩
                  case measure => simp [intOf]; omega
              · have HC2 : Hid (cntAdj ks f (t + 1) = cntAdj ks f t) := by
                  have := HCS.out
                  rw [show t = 0 by omega, adj_zero] at this
                  rw [show t = 0 by omega]; exact this
                have hd0 : decide ((0 : Int) < (t : Int)) = false := decide_eq_false (by omega)
                clear cg
                go_wp2_with fail
                go_quiet (fail)
                go_wp2_with fail
                go_roundw
                case rel => exact ⟨t + 1, by omega, by go_num, by rw [HC2.out], hG, hR5, below_drewN hB5 _⟩
                case measure => simp [intOf]; omega
            · have HF : Hid (cntAdj ks f t = cntRep ks k) := by rw [show t = n by omega]; exact HAG.out
              have hq : ((cntRep ks k : Int) == (cntAdj ks f t : Int)) = true := by rw [HF.out]; simp
              clear HCS hcl2
              go_wp2_with fail
              go_ret
              refine ⟨ret_bool ?_, hB5⟩
              rw [HAN.out]; simp

end Go.Proofs.Qxb6602415a
