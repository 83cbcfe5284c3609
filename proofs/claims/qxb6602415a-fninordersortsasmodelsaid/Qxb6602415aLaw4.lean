/-
  The walk of FnInOrderKeepsPrefixAndIgnoresIt, out of what inOrder is said to do.
-/
import Derived.Test.Qxb6602415aGuards
import Derived.Test.Qxb6602415aSaid
namespace Go.Proofs.Qxb6602415a
open Go.RowKit
set_option linter.unusedVariables false

def zv (zs : Nat → Int) : Nat → Value := fun t => .int .i64 (zs t)

theorem cloneStrings_at (a : Option Addr) (n cap : Nat) (ks : Nat → ByteArray) (w : World) (hn : n ≤ 1048576) (hR : Reads w a n (fun t => .string (ks t))) :
    Calls Try.prog 10 #[.slice a n cap] w fun e w' => ∃ a' cap', e = .returned (.slice a' n cap') ∧ Reads w' a' n (fun t => .string (ks t)) ∧ Below w.heap.size w w' ∧ (a' = none ∨ a' = some ⟨w.heap.size, 0, none⟩) ∧ (a' = none ∨ w'.heap.size = w.heap.size + 1) := by
  cases a with
  | none =>
    have h0 : n = 0 := by
      rcases Nat.eq_zero_or_pos n with h | h
      · exact h
      · obtain ⟨b, off, e, _⟩ := hR 0 h; cases e
    subst h0
    refine (cloneStrings_nil 0 cap w).mono ?_
    rintro e w' ⟨rfl, rfl⟩
    exact ⟨none, 0, rfl, Reads.nil _ _ _, Below.refl _ _, .inl rfl, .inl rfl⟩
  | some ad =>
    refine (cloneStrings_some ad n cap ks w hn hR).mono ?_
    rintro e w' ⟨rfl, h1, h2, h3⟩
    exact ⟨_, _, rfl, h1.reads (Nat.le_refl _), h2, .inr rfl, .inr h3⟩

theorem cloneInts_at (a : Option Addr) (n cap : Nat) (zs : Nat → Int) (w : World) (hn : n ≤ 1048576) (hR : Reads w a n (zv zs)) :
    Calls Try.prog 11 #[.slice a n cap] w fun e w' => ∃ a' cap', e = .returned (.slice a' n cap') ∧ Reads w' a' n (zv zs) ∧ Below w.heap.size w w' ∧ (a' = none ∨ a' = some ⟨w.heap.size, 0, none⟩) ∧ Owns w' w.heap.size (.slice a' n cap') n (zv zs) := by
  cases a with
  | none =>
    have h0 : n = 0 := by
      rcases Nat.eq_zero_or_pos n with h | h
      · exact h
      · obtain ⟨b, off, e, _⟩ := hR 0 h; cases e
    subst h0
    refine (cloneInts_nil 0 cap w).mono ?_
    rintro e w' ⟨rfl, rfl⟩
    exact ⟨none, 0, rfl, Reads.nil _ _ _, Below.refl _ _, .inl rfl, owns_nil _ _ _⟩
  | some ad =>
    refine (cloneInts_some ad n cap zs w hn hR).mono ?_
    rintro e w' ⟨rfl, h1, h2, h3⟩
    exact ⟨_, _, rfl, h1.reads (Nat.le_refl _), h2, .inr rfl, owns_of_row (Nat.le_refl _) (Nat.le_refl _) (by unfold maxLen; omega) h1 (fun _ _ => rfl)⟩

theorem Reads.grown {w w' : World} {a : Option Addr} {n : Nat} {f : Nat → Value} {r : Option Nat} {b : Nat} (h : Reads w a n f) (hg : w.grownBy w' r) (ha : a = none ∨ a = some ⟨b, 0, none⟩) (hb : some b ≠ r) : Reads w' a n f := by
  intro t ht
  obtain ⟨b', off, e, hc⟩ := h t ht
  rcases ha with ha | ha
  · rw [ha] at e; cases e
  · rw [ha] at e
    simp only [Option.some.injEq, Addr.mk.injEq, and_true] at e
    obtain ⟨rfl, rfl⟩ := e
    exact ⟨b, 0, ha, by rw [World.cell?_of_block (hg.block b (block_lt hc) hb)]; exact hc⟩

theorem Owns.slice {w : World} {B : Nat} {v : Value} {n : Nat} {f : Nat → Value} (h : Owns w B v n f) : ∃ a cap, v = .slice a n cap ∧ Reads w a n f := by
  rcases Nat.eq_zero_or_pos n with h0 | h0
  · subst h0
    rcases h.2 with ⟨rfl, _⟩ | ⟨g, cap, cur, rfl, _⟩
    · exact ⟨_, _, rfl, Reads.nil _ _ _⟩
    · exact ⟨_, _, rfl, Reads.nil _ _ _⟩
  · obtain ⟨g, cap, F, rfl, _, hc, _, hr, hF⟩ := h.row h0
    exact ⟨_, _, rfl, (hr.reads hc).congr hF⟩

theorem grownBy_below {w w' : World} {B : Nat} {r : Option Nat} (h : w.grownBy w' r) (hB : B ≤ w.heap.size) (hr : ∀ k, r = some k → B ≤ k) : Below B w w' :=
  (Below.refl B w).grown h hB hr
theorem below_grownBy {w w' : World} (h : Below w.heap.size w w') (r : Option Nat) : w.grownBy w' r := ⟨h.os, h.tape, h.output, h.size, fun j hj _ => h.block j hj⟩
theorem Owns.below {w w' : World} {B : Nat} {v : Value} {n : Nat} {f : Nat → Value} (h : Owns w B v n f) (hb : Below w.heap.size w w') : Owns w' B v n f :=
  World.ownsRow.kept (row := none) h (below_grownBy hb _) (by cases v.ownBlock <;> simp)

set_option maxRecDepth 100000 in
set_option maxHeartbeats 2000000 in
theorem law4_calls {big : Nat → Int → (Nat → ByteArray) → Nat → Nat} (hI : InOrderSaid big) (a a2 : Option Addr) (n cap m cap2 : Nat) (ks : Nat → ByteArray) (o : Int) (zs : Nat → Int) (w : World) (hn : n ≤ 9223372036854775807) (hm : m ≤ 9223372036854775807)
    (hR : Reads w a n (fun t => .string (ks t))) (hD : Reads w a2 m (zv zs)) :
    Calls Try.prog 4 #[.slice a n cap, .int .u8 o, .slice a2 m cap2] w fun e w' => e = .returned (.bool true) ∧ Below w.heap.size w w' := by
  go_enter Try.func4, Try.ntmps4
  go_wp2_with fail
  refine (zzKeeps_calls a a2 n cap m cap2 ks o w hm hn hR).mono ?_
  rintro e w' ⟨⟨r, rfl, hr⟩, hw⟩
  obtain rfl := hw.symm
  clear hw
  cases r with
  | false =>
    clear hr
    go_wp2_with fail
    go_ret
    exact ⟨rfl, Below.refl _ _⟩
  | true =>
    obtain ⟨hn1, hm1, _⟩ := hr rfl
    clear hr hn hm
    by_cases hbig : 4096 < n ∨ 65536 < m
    · rcases hbig with h | h
      · go_wp2_with fail
        go_ret
        exact ⟨rfl, Below.refl _ _⟩
      · by_cases h2 : 4096 < n
        · go_wp2_with fail
          go_ret
          exact ⟨rfl, Below.refl _ _⟩
        · go_wp2_with fail
          go_ret
          exact ⟨rfl, Below.refl _ _⟩
    have hn2 : n ≤ 4096 := by omega
    have hm2 : m ≤ 65536 := by omega
    clear hbig hn1 hm1
    go_wp2_with fail
    refine (tooBig_calls a n cap ks (8 * m) w (by omega) (by omega) (by omega) hR).mono ?_
    rintro e w' ⟨⟨r, rfl, _⟩, hw⟩
    obtain rfl := hw.symm
    clear hw
    cases r with
    | true =>
      go_wp2_with fail
      go_ret
      exact ⟨rfl, Below.refl _ _⟩
    | false =>
      go_wp2_with fail
      refine (cloneStrings_at a n cap ks w (by omega) hR).mono ?_
      rintro e w1 ⟨a', cap', rfl, hR1, hb1, ha1, hz1⟩
      go_wp2_with fail
      refine (cloneInts_at a2 m cap2 zs w1 (by omega) (hD.below hb1)).mono ?_
      rintro e w2 ⟨a2', cap2', rfl, hD2, hb2, ha2, hO2⟩
      go_wp2_with fail
      refine (cloneInts_at a2' m cap2' zs w2 (by omega) hD2).mono ?_
      rintro e w3 ⟨ap, capp, rfl, hP3, hb3, hap, _⟩
      have hR3 := (hR1.below hb2).below hb3
      have hO3 := hO2.below hb3
      have hs1 := hb1.size
      have hs2 := hb2.size
      have hs3 := hb3.size
      have hB3 : Below w.heap.size w w3 := (hb1.trans (hb2.mono hs1)).trans (hb3.mono (by omega))
      have hvl := hO2.lt
      clear hR1 hD2 hO2 hR hD hb1 hb2 hb3
      go_wp2_with fail
      refine (zzInOrder_calls hI a' n cap' m w1.heap.size ks o a2' cap2' (zv zs) w3 hn2 hm2 hR3 hO3 (by omega)).mono ?_
      rintro e w4 ⟨v4, f1, rfl, hO4, hg4, hf1⟩
      have hB4 : Below w.heap.size w w4 := hB3.grown hg4 hB3.size (fun k hk => by have := (hvl k hk).1; omega)
      have hR4 : Reads w4 a' n (fun t => .string (ks t)) := by
        rcases hz1 with h | h
        · subst h
          intro t ht
          obtain ⟨_, _, e, _⟩ := hR3 t ht
          cases e
        · exact hR3.grown hg4 ha1 (fun e => by have := (hvl _ e.symm).1; omega)
      have hP4 : Reads w4 ap m (zv zs) := hP3.grown hg4 hap (fun e => by have := (hvl _ e.symm).2; omega)
      clear hR3 hP3 hO3 hB3 hvl
      go_wp2_with fail
      refine (zzInOrder_calls hI a' n cap' 0 w4.heap.size ks o none 0 (zv zs) w4 hn2 (by omega) hR4 (owns_nil _ _ _) (Nat.le_refl _)).mono ?_
      rintro e w5 ⟨v5, f2, rfl, hO5, hg5, hf2⟩
      have hB5 : Below w.heap.size w w5 := hB4.grown hg5 hB4.size (fun k hk => by cases hk)
      have hb45 : Below w4.heap.size w4 w5 := (Below.refl _ _).grown hg5 (Nat.le_refl _) (fun k hk => by cases hk)
      have hP5 := hP4.below hb45
      have hO45 := hO4.below hb45
      have hu := hf1.uniq hf2
      obtain ⟨ag, capg, rfl, hG⟩ := hO45.slice
      obtain ⟨aa, capa, rfl, hA⟩ := hO5.slice
      rw [Nat.zero_add] at hA
      have HU : Hid (∀ t, t < n → f1 t = f2 t) := hu
      clear hu hf1 hf2 hO45 hO5 hP4 hR4 hO4 hg5 hb45 hB4
      rw [Nat.zero_add]
      clear hg4 hap ha2 hz1 ha1 hs1 hs2 hs3
      go_wp2_with fail
      go_loopw [10] (fun i wr => ∃ k : Nat, k ≤ m ∧ i = .int .i64 k ∧ Reads wr ap m (zv zs) ∧ Reads wr ag (m + n) (ext (zv zs) m f1) ∧ Reads wr aa n (ext (zv zs) 0 f2) ∧ Below w.heap.size w wr) (fun i _ => m - (intOf i).toNat)
      case atStart => exact ⟨0, Nat.zero_le _, rfl, hP5, hG, hA, hB5⟩
      case round =>
        clear hP5 hG hA hB5
        obtain ⟨k, hk, rfl, hP5, hG, hA, hB5⟩ := hrel
        by_cases hlt : k < m
        · obtain ⟨bp, op, rfl, cp⟩ := hP5.at (by omega)
          obtain ⟨bg, og, rfl, cg⟩ := hG.at (by omega)
          have c1 : wr.cell? ⟨bp, op + k, none⟩ = some (.int .i64 (zs k)) := cp k hlt
          have c2 : wr.cell? ⟨bg, og + k, none⟩ = some (.int .i64 (zs k)) := by rw [cg k (by omega)]; simp [ext, hlt, zv]
          clear cp cg
          go_wp2_with fail
          go_quiet (fail)
          go_wp2_with fail
          go_roundw
          case rel => exact ⟨k + 1, by omega, by go_num, hP5, hG, hA, below_drewN hB5 _⟩
          case measure => simp [intOf]; omega
        · go_wp2_with fail
          go_loopw [11] (fun i wr => ∃ k2 : Nat, k2 ≤ n ∧ i = .int .i64 k2 ∧ Reads wr ag (m + n) (ext (zv zs) m f1) ∧ Reads wr aa n (ext (zv zs) 0 f2) ∧ Below w.heap.size w wr) (fun i _ => n - (intOf i).toNat)
          case atStart => exact ⟨0, Nat.zero_le _, rfl, hG, hA, hB5⟩
          case round =>
            clear hP5 hG hA hB5
            obtain ⟨k2, hk2, rfl, hG, hA, hB5⟩ := hrel
            by_cases hlt2 : k2 < n
            · obtain ⟨ba, oa, rfl, ca⟩ := hA.at (by omega)
              obtain ⟨bg, og, rfl, cg⟩ := hG.at (by omega)
              have c1 : wr.cell? ⟨ba, oa + k2, none⟩ = some (.int .i64 (f1 k2 : Int)) := by
                rw [ca k2 hlt2, HU.out k2 hlt2]
                have := ext_at (zv zs) 0 f2 k2
                rw [Nat.zero_add] at this
                exact congrArg some this
              have c2 : wr.cell? ⟨bg, og + (m + k2), none⟩ = some (.int .i64 (f1 k2 : Int)) := by rw [cg (m + k2) (by omega), ext_at]
              clear ca cg
              go_wp2_with fail
              go_quiet (fail)
              go_wp2_with fail
              go_roundw
              case rel => exact ⟨k2 + 1, by omega, by go_num, hG, hA, below_drewN hB5 _⟩
              case measure => simp [intOf]; omega
            · go_wp2_with fail
              go_ret
              exact ⟨rfl, hB5⟩

end Go.Proofs.Qxb6602415a
