/-
  The walk of zzOfAgrees.
-/
import Derived.Test.Qxb6000508aOf
namespace Go.Proofs.Qxb6000508a
open Go.RowKit Go.Maps
set_option linter.unusedVariables false

theorem str_ext {x y : ByteArray} (h : x.toList = y.toList) : x = y := by
  rw [ByteArray.toList_eq, ByteArray.toList_eq] at h
  exact ByteArray.ext (Array.toList_inj.1 h)
theorem str_beq (x y : ByteArray) : (x.toList == y.toList) = decide (x = y) := by
  by_cases h : x = y
  · subst h; simp
  · have : ¬ x.toList = y.toList := fun e => h (str_ext e)
    simp [h, this]

set_option maxRecDepth 100000 in
set_option maxHeartbeats 2000000 in
theorem agrees_calls {w : World} {B bg bf bt sk n : Nat} {ks ns : Nat → ByteArray} {ys ls : Nat → Int} {T : Nat} {tx : Nat → ByteArray} {ix fr la : ByteArray → Option Nat} {nx : Nat → Option Nat} {ti : Nat → Nat} {f : Nat → Mk} {S : Nat → Prop}
    (hB : Built w B bg bf bt sk n ks ns ys ls T tx ix fr la nx ti f S) (hsk : sk ≤ 8192) (hn : n ≤ 1024) (hT : T ≤ n) (hys : ∀ t, t < n → -32768 ≤ ys t ∧ ys t ≤ 32767) (hls : ∀ t, t < n → -2147483648 ≤ ls t ∧ ls t ≤ 2147483647)
    (a1 a2 a3 a4 : Option Addr) (n1 n2 n3 n4 c1 c2 c3 c4 : Nat) (h1 : n ≤ n1) (h2 : n ≤ n2) (h3 : n ≤ n3) (h4 : n ≤ n4) (m1 : n1 ≤ 1048576) (m2 : n2 ≤ 1048576) (m3 : n3 ≤ 1048576) (m4 : n4 ≤ 1048576)
    (hR1 : Reads w a1 n1 (fun t => .string (ks t))) (hR2 : Reads w a2 n2 (fun t => .int .i16 (ys t))) (hR3 : Reads w a3 n3 (fun t => .string (ns t))) (hR4 : Reads w a4 n4 (fun t => .int .i32 (ls t))) (p : ByteArray) (y : Int) :
    Calls Try.prog 26 #[.pointer (some ⟨bg, 0, none⟩), .slice a1 n1 c1, .slice a2 n2 c2, .slice a3 n3 c3, .slice a4 n4 c4, .int .i64 (n : Int), .string p, .int .i64 y] w fun e w' => e = .returned (.bool true) ∧ Below w.heap.size w w' := by
  have hof := of_calls hB hsk hn hT hys hls p y
  have HOF : Hid (Calls Try.prog 32 #[.pointer (some ⟨bg, 0, none⟩), .string p, .int .i64 y] w fun e w' => AnsOf e n ks ns ys ls p y ∧ Below w.heap.size w w') := hof
  have HY : Hid (∀ t, t < n → -32768 ≤ ys t ∧ ys t ≤ 32767) := hys
  have HLS : Hid (∀ t, t < n → -2147483648 ≤ ls t ∧ ls t ≤ 2147483647) := hls
  clear hof hys hls hB
  go_enter Try.func26, Try.ntmps26
  go_wp2_with fail
  go_loopw [17, 18, 19, 20] (fun wn wl wo i wr => ∃ k : Nat, k ≤ n ∧ wn = .string ⟨#[]⟩ ∧ wl = .int .i64 0 ∧ wo = .bool false ∧ i = .int .i64 k ∧ wr = w ∧ Hid (∀ i, i < k → ¬ (ks i = p ∧ ys i = y))) (fun _ _ _ i _ => n - (intOf i).toNat)
  case atStart => exact ⟨0, Nat.zero_le _, rfl, rfl, rfl, rfl, rfl, fun i hi => absurd hi (by omega)⟩
  case round =>
    obtain ⟨k, hk, rfl, rfl, rfl, rfl, hwr, HNO⟩ := hrel
    obtain rfl := hwr.symm
    clear hwr
    by_cases hlt : k < n
    · obtain ⟨b1, o1, rfl, hc1⟩ := hR1.at (by omega)
      obtain ⟨b2, o2, rfl, hc2⟩ := hR2.at (by omega)
      obtain ⟨b3, o3, rfl, hc3⟩ := hR3.at (by omega)
      obtain ⟨b4, o4, rfl, hc4⟩ := hR4.at (by omega)
      have k1 := hc1 k (by omega)
      have k2 := hc2 k (by omega)
      have k3 := hc3 k (by omega)
      have k4 := hc4 k (by omega)
      clear hc1 hc2 hc3 hc4
      have hy1 := HY.out k hlt
      have hl1 := HLS.out k hlt
      obtain ⟨s, Hs⟩ : ∃ s, Hid (ks k = s) := ⟨_, rfl⟩
      obtain ⟨yk, Hy⟩ : ∃ yk, Hid (ys k = yk) := ⟨_, rfl⟩
      obtain ⟨nk, Hn⟩ : ∃ nk, Hid (ns k = nk) := ⟨_, rfl⟩
      obtain ⟨lk, Hl⟩ : ∃ lk, Hid (ls k = lk) := ⟨_, rfl⟩
      rw [Hs.out] at k1
      rw [Hy.out] at k2 hy1
      rw [Hn.out] at k3
      rw [Hl.out] at k4 hl1
      by_cases hs : s = p
      · subst hs
        by_cases hyy : yk = y
        · subst hyy
          have HF : Hid (IsFirst (fun i => ks i = s ∧ ys i = yk) 0 n (some k)) := ⟨Nat.zero_le _, hlt, ⟨Hs.out, Hy.out⟩, fun i _ hi => HNO.out i hi⟩
          go_wp2_with fail
          refine HOF.out.mono ?_
          rintro e w1 ⟨⟨r, nm, ln, ok, rfl, hr, hv⟩, hb⟩
          have e := hr.unique HF.out
          subst e
          obtain ⟨e1, e2, e3⟩ := hv
          rw [Hn.out] at e1
          rw [Hl.out] at e2
          subst e1 e2 e3
          clear hr k1 k2 k3 k4 hR1 hR2 hR3 hR4
          go_wp2_with fail
          go_ret
          exact ⟨rfl, hb.alloc hb.size _⟩
        · have hd : decide (yk = y) = false := by simp [hyy]
          go_wp2_with fail
          go_roundw
          case rel =>
            refine ⟨k + 1, by omega, rfl, rfl, rfl, by go_num, by first | trivial | rfl, fun i hi c => ?_⟩
            by_cases e : i = k
            · rw [e, Hy.out] at c; exact hyy c.2
            · exact HNO.out i (by omega) c
          case measure => simp [intOf]; omega
      · have hd : (s.toList == p.toList) = false := by rw [str_beq]; simp [hs]
        have HNE : Hid (s ≠ p) := hs
        clear hs
        go_wp2_with fail
        go_roundw
        case rel =>
          refine ⟨k + 1, by omega, rfl, rfl, rfl, by go_num, by first | trivial | rfl, fun i hi c => ?_⟩
          by_cases e : i = k
          · rw [e, Hs.out] at c; exact HNE.out c.1
          · exact HNO.out i (by omega) c
        case measure => simp [intOf]; omega
    · have HF : Hid (IsFirst (fun i => ks i = p ∧ ys i = y) 0 n none) := fun i _ hi => HNO.out i (by omega)
      go_wp2_with fail
      refine HOF.out.mono ?_
      rintro e w1 ⟨⟨r, nm, ln, ok, rfl, hr, hv⟩, hb⟩
      have e := hr.unique HF.out
      subst e
      obtain ⟨e1, e2, e3⟩ := hv
      subst e1 e2 e3
      clear hr hR1 hR2 hR3 hR4
      go_wp2_with fail
      go_ret
      exact ⟨rfl, hb.alloc hb.size _⟩

end Go.Proofs.Qxb6000508a
