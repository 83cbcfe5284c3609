/-
  The walk of FnInOrderSortsAsModel, out of what inOrder is said to do.
-/
import Derived.Test.Qxb6602415aLaw4
import Derived.Test.Qxb6602415aMerge
namespace Go.Proofs.Qxb6602415a
open Go.RowKit
set_option linter.unusedVariables false

/-- The two keys are one (a Bool that the walk leaves alone). -/
def sk3 (x y : ByteArray) : Bool := decide (x = y)
theorem sk3_of {x y : ByteArray} (h : x = y) : sk3 x y = true := by simp [sk3, h]
theorem sameKey_sk3 (x y : ByteArray) (hx : x.size ≤ 1073741824) (hy : y.size ≤ 1073741824) (w : World) :
    Calls Try.prog 14 #[.string x, .string y] w fun e w' => e = .returned (.bool (sk3 x y)) ∧ ∃ q, w' = w.drewN q := sameKey_calls x y hx hy w

set_option maxRecDepth 100000 in
set_option maxHeartbeats 2000000 in
theorem law3_calls {big : Nat → Int → (Nat → ByteArray) → Nat → Nat} (hI : InOrderSaid big) (a a2 : Option Addr) (n cap m cap2 : Nat) (ks : Nat → ByteArray) (o : Int) (zs : Nat → Int) (w : World) (hn : n ≤ 9223372036854775807) (hm : m ≤ 9223372036854775807)
    (hR : Reads w a n (fun t => .string (ks t))) (hD : Reads w a2 m (zv zs)) :
    Calls Try.prog 3 #[.slice a n cap, .int .u8 o, .slice a2 m cap2] w fun e w' => e = .returned (.bool true) ∧ Below w.heap.size w w' := by
  go_enter Try.func3, Try.ntmps3
  go_wp2_with fail
  refine (zzSorts_calls a a2 n cap m cap2 ks o w hm hn hR).mono ?_
  rintro e w' ⟨⟨r, rfl, hr⟩, hw⟩
  obtain rfl := hw.symm
  clear hw
  cases r with
  | false =>
    clear hr
    go_wp2_with fail
    go_ret
    exact ⟨rfl, Below.refl _ _⟩
  | true =>
    obtain ⟨hn1, hm1, HK0⟩ := hr rfl
    have HKs : Hid (∀ t, t < n → (ks t).size ≤ 1048576) := HK0
    clear HK0
    clear hr hn hm
    by_cases hbig : 4096 < n ∨ 65536 < m
    · rcases hbig with h | h
      · go_wp2_with fail
        go_ret
        exact ⟨rfl, Below.refl _ _⟩
      · by_cases h2 : 4096 < n
        · go_wp2_with fail
          go_ret
          exact ⟨rfl, Below.refl _ _⟩
        · go_wp2_with fail
          go_ret
          exact ⟨rfl, Below.refl _ _⟩
    have hn2 : n ≤ 4096 := by omega
    have hm2 : m ≤ 65536 := by omega
    clear hbig hn1 hm1
    go_wp2_with fail
    refine (tooBig_calls a n cap ks (8 * m) w (by omega) (by omega) (by omega) hR).mono ?_
    rintro e w' ⟨⟨r, rfl, _⟩, hw⟩
    obtain rfl := hw.symm
    clear hw
    cases r with
    | true =>
      go_wp2_with fail
      go_ret
      exact ⟨rfl, Below.refl _ _⟩
    | false =>
      go_wp2_with fail
      refine (cloneStrings_at a n cap ks w (by omega) hR).mono ?_
      rintro e w1 ⟨a', cap', rfl, hR1, hb1, ha1, hz1⟩
      go_wp2_with fail
      refine (cloneInts_at a2 m cap2 zs w1 (by omega) (hD.below hb1)).mono ?_
      rintro e w2 ⟨a2', cap2', rfl, hD2, hb2, ha2, hO2⟩
      go_wp2_with fail
      refine (cloneInts_at a2' m cap2' zs w2 (by omega) hD2).mono ?_
      rintro e w3 ⟨ap, capp, rfl, hP3, hb3, hap, _⟩
      have hR3 := (hR1.below hb2).below hb3
      have hO3 := hO2.below hb3
      have hs1 := hb1.size
      have hs2 := hb2.size
      have hs3 := hb3.size
      have hB3 : Below w.heap.size w w3 := (hb1.trans (hb2.mono hs1)).trans (hb3.mono (by omega))
      have hvl := hO2.lt
      clear hR1 hD2 hO2 hR hD hb1 hb2 hb3
      go_wp2_with fail
      refine (zzInOrder_calls hI a' n cap' m w1.heap.size ks o a2' cap2' (zv zs) w3 hn2 hm2 hR3 hO3 (by omega)).mono ?_
      rintro e w4 ⟨v4, f1, rfl, hO4, hg4, hf1⟩
      have hB4 : Below w.heap.size w w4 := hB3.grown hg4 hB3.size (fun k hk => by have := (hvl k hk).1; omega)
      have hR4 : Reads w4 a' n (fun t => .string (ks t)) := by
        rcases hz1 with h | h
        · subst h
          intro t ht
          obtain ⟨_, _, e, _⟩ := hR3 t ht
          cases e
        · exact hR3.grown hg4 ha1 (fun e => by have := (hvl _ e.symm).1; omega)
      have hP4 : Reads w4 ap m (zv zs) := hP3.grown hg4 hap (fun e => by have := (hvl _ e.symm).2; omega)
      clear hR3 hP3 hO3 hB3 hvl hg4 hap ha2 hz1 ha1 hs1 hs2 hs3
      obtain ⟨ag, capg, rfl, hG⟩ := hO4.slice
      have hS := hf1.ord
      clear hO4 hf1
      go_wp2_with fail
      go_loopw [11] (fun i wr => ∃ k : Nat, k ≤ m ∧ i = .int .i64 k ∧ Reads wr a' n (fun t => .string (ks t)) ∧ Reads wr ap m (zv zs) ∧ Reads wr ag (m + n) (ext (zv zs) m f1) ∧ Below w.heap.size w wr) (fun i _ => m - (intOf i).toNat)
      case atStart => exact ⟨0, Nat.zero_le _, rfl, hR4, hP4, hG, hB4⟩
      case round =>
        clear hR4 hP4 hG hB4
        obtain ⟨k, hk, rfl, hR4, hP4, hG, hB4⟩ := hrel
        by_cases hlt : k < m
        · obtain ⟨bp, op, rfl, cp⟩ := hP4.at (by omega)
          obtain ⟨bg, og, rfl, cg⟩ := hG.at (by omega)
          have c1 : wr.cell? ⟨bp, op + k, none⟩ = some (.int .i64 (zs k)) := cp k hlt
          have c2 : wr.cell? ⟨bg, og + k, none⟩ = some (.int .i64 (zs k)) := by rw [cg k (by omega)]; simp [ext, hlt, zv]
          clear cp cg
          go_wp2_with fail
          go_quiet (fail)
          go_wp2_with fail
          go_roundw
          case rel => exact ⟨k + 1, by omega, by go_num, hR4, hP4, hG, below_drewN hB4 _⟩
          case measure => simp [intOf]; omega
        · have hmkb := mk_bools n (by omega)
          clear hP4
          go_wp2_with fail
          clear hmkb
          go_loopw [13] (fun i wm => ∃ (t : Nat) (R : Nat → Bool), t ≤ n ∧ i = .int .i64 t ∧ Row wm wr.heap.size n 4 (fun i => .bool (R i)) ∧ Below wr.heap.size wr wm ∧ Hid (∀ u, t ≤ u → u < n → R (f1 u) = false)) (fun i _ => n - (intOf i).toNat)
          case atStart => exact ⟨0, fun _ => false, Nat.zero_le _, rfl, (Row.made _ _ _ _).congr (fun t _ => by simp [Nat.mod_one]), (Below.refl _ _).alloc (Nat.le_refl _) _, fun _ _ _ => rfl⟩
          case round =>
            obtain ⟨t, R, ht, rfl, hrow, hbm, HR⟩ := hrel
            by_cases hlt2 : t < n
            · have hfl := hS.lt t hlt2
              have hG2 := hG.below hbm
              obtain ⟨bg, og, rfl, cg⟩ := hG2.at (by omega)
              rename World => wm
              have c2 : wm.cell? ⟨bg, og + (m + t), none⟩ = some (.int .i64 (f1 t : Int)) := by rw [cg (m + t) (by omega), ext_at]
              have c3 : wm.cell? ⟨wr.heap.size, f1 t, none⟩ = some (.bool false) := by rw [hrow.cell _ hfl, HR.out t (Nat.le_refl _) hlt2]
              have q3 := hrow.frozen (f1 t)
              clear cg hG2
              go_wp2_with fail
              go_roundw
              case rel =>
                refine ⟨t + 1, fun i => if i = f1 t then true else R i, by omega, by go_num, (hrow.set (f1 t) _).congr (fun u _ => ?_), hbm.setCell (Nat.le_refl _) _, fun u h1 h2 => ?_⟩
                · by_cases e : u = f1 t
                  · subst e; rw [upd_same]; simp
                  · rw [upd_other _ _ _ _ e]; simp [e]
                · have : f1 u ≠ f1 t := fun e => by have := hS.inj u t h2 hlt2 e; omega
                  simp only [this, if_false]; exact HR.out u (by omega) h2
              case measure => simp [intOf]; omega
            · rename World => wm
              have hG3 := hG.below hbm
              have hR3 := hR4.below hbm
              have hB3 : Below w.heap.size w wm := hB4.trans (hbm.mono hB4.size)
              clear hG hR4 hB4 hbm hrow HR
              go_wp2_with fail
              refine (mergeOrder_calls a' n cap' ks o wm hn2 HKs.out hR3).mono ?_
              rintro e w6 ⟨bs, g, rfl, _, hs6, hb6, hp, hup⟩
              have hO := order_of hp hup
              have hkeys := hS.keys hO.sord
              have HKE : Hid (∀ t, t < n → ks (f1 t) = ks (g t)) := hkeys
              have hG6 := hG3.below hb6
              have hR6 := hR3.below hb6
              have hB6 : Below w.heap.size w w6 := hB3.trans (hb6.mono hB3.size)
              clear hG3 hR3 hB3 hb6 hp hup hkeys
              go_wp2_with fail
              go_loopw [16] (fun i wq => ∃ u : Nat, u ≤ n ∧ i = .int .i64 u ∧ Row wq bs n 3 (iv g) ∧ Reads wq ag (m + n) (ext (zv zs) m f1) ∧ Reads wq a' n (fun t => .string (ks t)) ∧ Below w.heap.size w wq) (fun i _ => n - (intOf i).toNat)
              case atStart => exact ⟨0, Nat.zero_le _, rfl, hs6, hG6, hR6, hB6⟩
              case round =>
                clear hs6 hG6 hR6 hB6
                obtain ⟨u, hu, rfl, hs6, hG6, hR6, hB6⟩ := hrel
                rename World => wq
                by_cases hlt3 : u < n
                · have l1 := hS.lt u hlt3
                  have l2 := hO.lt u hlt3
                  have s1 := HKs.out (f1 u) l1
                  have s2 := HKs.out (g u) l2
                  obtain ⟨bg, og, rfl, cg⟩ := hG6.at (by omega)
                  obtain ⟨bk, ok, rfl, ck⟩ := hR6.at (by omega)
                  have c1 : wq.cell? ⟨bg, og + (m + u), none⟩ = some (.int .i64 (f1 u : Int)) := by rw [cg (m + u) (by omega), ext_at]
                  have c2 : wq.cell? ⟨bs, u, none⟩ = some (.int .i64 (g u : Int)) := hs6.cell u hlt3
                  have c3 : wq.cell? ⟨bk, ok + f1 u, none⟩ = some (.string (ks (f1 u))) := ck (f1 u) l1
                  have c4 : wq.cell? ⟨bk, ok + g u, none⟩ = some (.string (ks (g u))) := ck (g u) l2
                  have hsk : sk3 (ks (f1 u)) (ks (g u)) = true := sk3_of (HKE.out u hlt3)
                  clear cg ck
                  go_wp2_with fail
                  go_quiet ((go_at_call 14; exact Calls.quiet_of (sameKey_sk3 _ _ (by omega) (by omega) _)))
                  go_wp2_with fail
                  go_roundw
                  case rel => exact ⟨u + 1, by omega, by go_num, hs6, hG6, hR6, below_drewN hB6 _⟩
                  case measure => simp [intOf]; omega
                · go_wp2_with fail
                  go_ret
                  exact ⟨rfl, hB6⟩

end Go.Proofs.Qxb6602415a
