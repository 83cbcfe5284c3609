/-
  The walk of FnMarkDuplicatesMarksRepeatsExactly.
-/
import Derived.Test.Qxb6602415aGuards
import Derived.Test.Qxb6602415aMerge
import Derived.Test.Qxb6602415aMark
import Derived.Test.Qxb6602415aRepeats
namespace Go.Proofs.Qxb6602415a
open Go.RowKit
set_option linter.unusedVariables false

/-- The two keys are one. -/
def sk (x y : ByteArray) : Bool := decide (x = y)
theorem sk_true {x y : ByteArray} : sk x y = true ↔ x = y := by simp [sk]
theorem sk_self (x : ByteArray) : sk x x = true := by simp [sk]
theorem sameKey_sk (x y : ByteArray) (hx : x.size ≤ 1073741824) (hy : y.size ≤ 1073741824) (w : World) :
    Calls Try.prog 14 #[.string x, .string y] w fun e w' => e = .returned (.bool (sk x y)) ∧ ∃ q, w' = w.drewN q := sameKey_calls x y hx hy w
theorem adj_sk (ks : Nat → ByteArray) (f : Nat → Nat) (t : Nat) (h : 0 < t) : adj ks f t = sk (ks (f t)) (ks (f (t - 1))) := by simp [adj, sk, h]

theorem cloneStrings_any (a : Option Addr) (n cap : Nat) (ks : Nat → ByteArray) (w : World) (hn : n ≤ 1048576) (hR : Reads w a n (fun t => .string (ks t))) :
    Calls Try.prog 10 #[.slice a n cap] w fun e w' => ∃ a' cap', e = .returned (.slice a' n cap') ∧ Reads w' a' n (fun t => .string (ks t)) ∧ Below w.heap.size w w' := by
  cases a with
  | none =>
    have h0 : n = 0 := by
      rcases Nat.eq_zero_or_pos n with h | h
      · exact h
      · obtain ⟨b, off, e, _⟩ := hR 0 h; cases e
    subst h0
    refine (cloneStrings_nil 0 cap w).mono ?_
    rintro e w' ⟨rfl, rfl⟩
    exact ⟨none, 0, rfl, Reads.nil _ _ _, Below.refl _ _⟩
  | some ad =>
    refine (cloneStrings_some ad n cap ks w hn hR).mono ?_
    rintro e w' ⟨rfl, h1, h2, _⟩
    exact ⟨_, _, rfl, h1.reads (Nat.le_refl _), h2⟩
theorem cloneBools_any (a : Option Addr) (n cap : Nat) (ks : Nat → Bool) (w : World) (hn : n ≤ 1048576) (hR : Reads w a n (fun t => .bool (ks t))) :
    Calls Try.prog 17 #[.slice a n cap] w fun e w' => ∃ a' cap', e = .returned (.slice a' n cap') ∧ Reads w' a' n (fun t => .bool (ks t)) ∧ Below w.heap.size w w' := by
  cases a with
  | none =>
    have h0 : n = 0 := by
      rcases Nat.eq_zero_or_pos n with h | h
      · exact h
      · obtain ⟨b, off, e, _⟩ := hR 0 h; cases e
    subst h0
    refine (cloneBools_nil 0 cap w).mono ?_
    rintro e w' ⟨rfl, rfl⟩
    exact ⟨none, 0, rfl, Reads.nil _ _ _, Below.refl _ _⟩
  | some ad =>
    refine (cloneBools_some ad n cap ks w hn hR).mono ?_
    rintro e w' ⟨rfl, h1, h2, _⟩
    exact ⟨_, _, rfl, h1.reads (Nat.le_refl _), h2⟩

set_option maxRecDepth 100000 in
set_option maxHeartbeats 2000000 in
theorem law5_calls (a a2 : Option Addr) (n cap m cap2 : Nat) (ks : Nat → ByteArray) (d : Nat → Bool) (w : World) (hn : n ≤ 9223372036854775807) (hm : m ≤ 9223372036854775807)
    (hR : Reads w a n (fun t => .string (ks t))) (hD : Reads w a2 m (fun t => .bool (d t))) :
    Calls Try.prog 5 #[.slice a n cap, .slice a2 m cap2] w fun e w' => e = .returned (.bool true) ∧ Below w.heap.size w w' := by
  go_enter Try.func5, Try.ntmps5
  go_wp2_with fail
  refine (zzMarks_calls a a2 n cap m cap2 ks w hm hn hR).mono ?_
  rintro e w' ⟨⟨r, rfl, hr⟩, hw⟩
  obtain rfl := hw.symm
  clear hw
  cases r with
  | false =>
    clear hr
    go_wp2_with fail
    go_ret
    exact ⟨rfl, Below.refl _ _⟩
  | true =>
    obtain ⟨hn1, hm1, HK⟩ := hr rfl
    clear hr hn hm
    have HKs : Hid (∀ t, t < n → (ks t).size ≤ 1048576) := HK
    clear HK
    by_cases hbig : 4096 < n ∨ 4096 < m
    · rcases hbig with h | h
      · go_wp2_with fail
        go_ret
        exact ⟨rfl, Below.refl _ _⟩
      · by_cases h2 : 4096 < n
        · go_wp2_with fail
          go_ret
          exact ⟨rfl, Below.refl _ _⟩
        · go_wp2_with fail
          go_ret
          exact ⟨rfl, Below.refl _ _⟩
    have hn2 : n ≤ 4096 := by omega
    have hm2 : m ≤ 4096 := by omega
    clear hbig hn1 hm1
    go_wp2_with fail
    refine (tooBig_calls a n cap ks m w (by omega) (by omega) (by omega) hR).mono ?_
    rintro e w' ⟨⟨r, rfl, _⟩, hw⟩
    obtain rfl := hw.symm
    clear hw
    cases r with
    | true =>
      go_wp2_with fail
      go_ret
      exact ⟨rfl, Below.refl _ _⟩
    | false =>
      by_cases hmn : m = n
      · subst hmn
        go_wp2_with fail
        refine (cloneStrings_any a m cap ks w (by omega) hR).mono ?_
        rintro e w1 ⟨a', cap', rfl, hR1, hb1⟩
        go_wp2_with fail
        refine (cloneBools_any a2 m cap2 d w1 (by omega) (hD.below hb1)).mono ?_
        rintro e w2 ⟨a2', cap2', rfl, hD2, hb2⟩
        have hR2 := hR1.below hb2
        have hB2 : Below w.heap.size w w2 := hb1.trans (hb2.mono hb1.size)
        clear hR1 hR hD hb2
        go_wp2_with fail
        refine (zzMark_calls a' a2' m cap' cap2' ks d w2 (by omega) hR2 hD2).mono ?_
        rintro e w3 ⟨b1, b2, rfl, ho3, hk3, hb3⟩
        have hR3 := hR2.below hb3
        have hD3 := hD2.below hb3
        have hB3 : Below w.heap.size w w3 := hB2.trans (hb3.mono hB2.size)
        clear hR2 hD2 hB2 hb3 hb1
        go_wp2_with fail
        refine (mergeOrder_calls a' m cap' ks 0 w3 hn2 HKs.out hR3).mono ?_
        rintro e w4 ⟨bs, f, rfl, hbs, hs4, hb4, hp, hup⟩
        have hO := order_of hp hup
        have hR4 := hR3.below hb4
        have hD4 := hD3.below hb4
        have ho4 := ho3.below hb4 ho3.lt
        have hk4 := hk3.below hb4 hk3.lt
        have hB4 : Below w.heap.size w w4 := hB3.trans (hb4.mono hB3.size)
        clear hR3 hD3 ho3 hk3 hB3 hb4 hp hup hbs
        have hmkb := mk_bools m (by omega)
        go_wp2_with fail
        clear hmkb
        have hs5 := hs4.lt
        go_loopw [11, 12] (fun av i wr => ∃ (k : Nat) (R : Nat → Bool), 1 ≤ k ∧ (k ≤ m ∨ (m = 0 ∧ k = 1)) ∧ i = .int .i64 k ∧ av = .bool (anyAdj ks f k) ∧ Row wr w4.heap.size m 4 (fun t => .bool (R t)) ∧ Below w4.heap.size w4 wr ∧ Laid ks f m k R) (fun _ i _ => m + 1 - (intOf i).toNat)
        case atStart =>
          refine ⟨1, fun _ => false, Nat.le_refl _, by omega, rfl, by rw [anyAdj_one], (Row.made _ _ _ _).congr (fun t _ => by simp [Nat.mod_one]), (Below.refl _ _).alloc (Nat.le_refl _) _, laid_start ks f m⟩
        case round =>
          obtain ⟨k, R, hk1, hk2, rfl, rfl, hrow, hbel, hL⟩ := hrel
          by_cases hlt : k < m
          · have l1 := hO.lt k hlt
            have l2 := hO.lt (k - 1) (by omega)
            have s1 := HKs.out (f k) l1
            have s2 := HKs.out (f (k - 1)) l2
            obtain ⟨bk, ok, rfl, hkc⟩ := hR4.at (by omega)
            have c1 : wr.cell? ⟨bs, k, none⟩ = some (.int .i64 (f k : Int)) := by rw [hbel.cell (by exact hs5)]; exact hs4.cell k hlt
            have c2 : wr.cell? ⟨bs, k - 1, none⟩ = some (.int .i64 (f (k - 1) : Int)) := by rw [hbel.cell (by exact hs5)]; exact hs4.cell (k - 1) (by omega)
            have c3 : wr.cell? ⟨bk, ok + f k, none⟩ = some (.string (ks (f k))) := by rw [hbel.cell (block_lt (hkc _ l1))]; exact hkc _ l1
            have c4 : wr.cell? ⟨bk, ok + f (k - 1), none⟩ = some (.string (ks (f (k - 1)))) := by rw [hbel.cell (block_lt (hkc _ l2))]; exact hkc _ l2
            have c5 := hrow.cell (f k) l1
            have f5 := hrow.frozen (f k)
            clear hkc
            go_wp2_with fail
            go_quiet ((go_at_call 14; exact Calls.quiet_of (sameKey_sk _ _ (by omega) (by omega) _)))
            go_wp2_with fail
            · rename_i hsame
              have HA : Hid (adj ks f k = true) := by unfold Hid; rw [adj_sk _ _ _ (by omega)]; exact hsame
              go_roundw
              case rel =>
                refine ⟨k + 1, _, by omega, by omega, by go_num, by rw [anyAdj_succ, HA.out, Bool.or_true], (hrow.set (f k) _).congr (fun t _ => ?_), (below_drewN hbel _).setCell (Nat.le_refl _) _, laid_put hO hL hlt HA.out⟩
                by_cases e : t = f k
                · subst e; rw [upd_same]; simp
                · rw [upd_other _ _ _ _ e]; simp [e]
              case measure => simp [intOf]; omega
            · rename_i hsame
              have HA : Hid (adj ks f k = false) := by unfold Hid; rw [adj_sk _ _ _ (by omega)]; exact hsame
              go_roundw
              case rel =>
                exact ⟨k + 1, R, by omega, by omega, by go_num, by rw [anyAdj_succ, HA.out, Bool.or_false], hrow, below_drewN hbel _, laid_skip hL HA.out⟩
              case measure => simp [intOf]; omega
          · have hRr : ∀ i, i < m → R i = rep ks i := laid_end hO hL (by omega)
            have hany : anyAdj ks f k = anyRep ks m := by
              by_cases h0 : m = 0
              · subst h0; rw [show k = 1 by omega, anyAdj_one, anyRep_zero]
              · rw [show k = m by omega, anyAdj_all hO]
            have hrow2 : Row wr w4.heap.size m 4 (fun t => .bool (rep ks t)) := hrow.congr (fun t ht => by rw [hRr t ht])
            have hR6 := hR4.below hbel
            have hD6 := hD4.below hbel
            have ho6 := ho4.below hbel ho4.lt
            have hk6 := hk4.below hbel hk4.lt
            have hB6 : Below w.heap.size w wr := hB4.trans (hbel.mono hB4.size)
            have HANY : Hid (anyAdj ks f k = anyRep ks m) := hany
            clear hany hRr hrow hL hR4 hD4 ho4 hk4 hB4 hO hs4 hbel
            go_wp2_with fail
            go_loopw [13] (fun i wm => ∃ k2 : Nat, k2 ≤ m ∧ i = .int .i64 k2 ∧ Row wm w4.heap.size m 4 (fun t => .bool (rep ks t)) ∧ Reads wm a' m (fun t => .string (ks t)) ∧ Reads wm a2' m (fun t => .bool (d t)) ∧ Row wm b1 m 4 (fun t => .bool (mk m ks d t)) ∧ Row wm b2 m 9 (fun t => .string (ks t)) ∧ Below w.heap.size w wm) (fun i _ => m - (intOf i).toNat)
            case atStart => exact ⟨0, Nat.zero_le _, rfl, hrow2, hR6, hD6, ho6, hk6, hB6⟩
            case round =>
              clear hrow2 hR6 hD6 ho6 hk6 hB6
              obtain ⟨k2, hk3, rfl, hrow2, hR6, hD6, ho6, hk6, hB6⟩ := hrel
              by_cases hlt2 : k2 < m
              · obtain ⟨bk, ok, rfl, hkc⟩ := hR6.at (by omega)
                obtain ⟨bd, od, rfl, hdc⟩ := hD6.at (by omega)
                have c1 := hkc k2 hlt2
                have c2 := hdc k2 hlt2
                have c4 := hk6.cell k2 hlt2
                have s1 := HKs.out k2 hlt2
                have hsk := sk_self (ks k2)
                clear hkc hdc
                cases hrep : rep ks k2 with
                | true =>
                  have c3 : wr.cell? ⟨b1, k2, none⟩ = some (.bool true) := by rw [ho6.cell k2 hlt2]; simp [mk, hrep]
                  have c5 : wr.cell? ⟨w4.heap.size, k2, none⟩ = some (.bool true) := by rw [hrow2.cell k2 hlt2]; simp [hrep]
                  go_wp2_with fail
                  go_quiet ((go_at_call 14; exact Calls.quiet_of (sameKey_sk _ _ (by omega) (by omega) _)))
                  go_wp2_with fail
                  go_roundw
                  case rel => exact ⟨k2 + 1, by omega, by go_num, hrow2, hR6, hD6, ho6, hk6, below_drewN hB6 _⟩
                  case measure => simp [intOf]; omega
                | false =>
                  have c5 : wr.cell? ⟨w4.heap.size, k2, none⟩ = some (.bool false) := by rw [hrow2.cell k2 hlt2]; simp [hrep]
                  by_cases h32 : m ≤ 32
                  · have c3 : wr.cell? ⟨b1, k2, none⟩ = some (.bool (d k2)) := by rw [ho6.cell k2 hlt2]; simp [mk, hrep, h32]
                    go_wp2_with fail
                    go_quiet ((go_at_call 14; exact Calls.quiet_of (sameKey_sk _ _ (by omega) (by omega) _)))
                    go_wp2_with fail
                    go_roundw
                    case rel => exact ⟨k2 + 1, by omega, by go_num, hrow2, hR6, hD6, ho6, hk6, below_drewN hB6 _⟩
                    case measure => simp [intOf]; omega
                  · have c3 : wr.cell? ⟨b1, k2, none⟩ = some (.bool false) := by rw [ho6.cell k2 hlt2]; simp [mk, hrep, h32]
                    go_wp2_with fail
                    go_quiet ((go_at_call 14; exact Calls.quiet_of (sameKey_sk _ _ (by omega) (by omega) _)))
                    go_wp2_with fail
                    go_roundw
                    case rel => exact ⟨k2 + 1, by omega, by go_num, hrow2, hR6, hD6, ho6, hk6, below_drewN hB6 _⟩
                    case measure => simp [intOf]; omega
              · go_wp2_with fail
                go_ret
                exact ⟨ret_bool (by rw [HANY.out]; simp), hB6⟩
      · have hne : ((m : Int) != (n : Int)) = true := by rw [bne_iff_ne]; omega
        clear hmn
        go_wp2_with fail
        go_ret
        exact ⟨rfl, Below.refl _ _⟩

end Go.Proofs.Qxb6602415a
