/-
  The walk of FnOfFindsFirstRowOfYear.
-/
import Derived.Test.Qxb6000508aAgrees
import Derived.Test.Qxb6000508aSix
import Derived.StillTailTactics
namespace Go.Proofs.Qxb6000508a
open Go.RowKit Go.Maps
set_option linter.unusedVariables false

theorem Built.kept {w w' : World} {B bg bf bt sk n : Nat} {ks ns : Nat → ByteArray} {ys ls : Nat → Int} {T : Nat} {tx : Nat → ByteArray} {ix fr la : ByteArray → Option Nat} {nx : Nat → Option Nat} {ti : Nat → Nat} {f : Nat → Mk} {S : Nat → Prop}
    (h : Built w B bg bf bt sk n ks ns ys ls T tx ix fr la nx ti f S) (hb : Below w.heap.size w w') : Built w' B bg bf bt sk n ks ns ys ls T tx ix fr la nx ti f S :=
  ⟨h.gr.kept (turns_of_below hb (fun _ => False)) (fun _ _ c => c), h.chain, h.mark, h.text⟩

/-- All that the law's checks lean on, in the world w. -/
structure Ready (w : World) (B bg bf bt sk n : Nat) (ks ns : Nat → ByteArray) (ys ls : Nat → Int) (a1 a2 a3 a4 : Option Addr) (n1 n2 n3 n4 : Nat) : Prop where
  built : ∃ T tx ix fr la nx ti f S, T ≤ n ∧ Built w B bg bf bt sk n ks ns ys ls T tx ix fr la nx ti f S
  r1 : Reads w a1 n1 (fun t => .string (ks t))
  r2 : Reads w a2 n2 (fun t => .int .i16 (ys t))
  r3 : Reads w a3 n3 (fun t => .string (ns t))
  r4 : Reads w a4 n4 (fun t => .int .i32 (ls t))

theorem Ready.kept {w w' : World} {B bg bf bt sk n : Nat} {ks ns : Nat → ByteArray} {ys ls : Nat → Int} {a1 a2 a3 a4 : Option Addr} {n1 n2 n3 n4 : Nat} (h : Ready w B bg bf bt sk n ks ns ys ls a1 a2 a3 a4 n1 n2 n3 n4) (hb : Below w.heap.size w w') :
    Ready w' B bg bf bt sk n ks ns ys ls a1 a2 a3 a4 n1 n2 n3 n4 := by
  obtain ⟨T, tx, ix, fr, la, nx, ti, f, S, hT, hB⟩ := h.built
  exact ⟨⟨T, tx, ix, fr, la, nx, ti, f, S, hT, hB.kept hb⟩, h.r1.below hb, h.r2.below hb, h.r3.below hb, h.r4.below hb⟩

theorem Ready.drewN {w : World} {B bg bf bt sk n : Nat} {ks ns : Nat → ByteArray} {ys ls : Nat → Int} {a1 a2 a3 a4 : Option Addr} {n1 n2 n3 n4 : Nat} (h : Ready w B bg bf bt sk n ks ns ys ls a1 a2 a3 a4 n1 n2 n3 n4) (q : Nat) :
    Ready (w.drewN q) B bg bf bt sk n ks ns ys ls a1 a2 a3 a4 n1 n2 n3 n4 := h.kept (below_drewN (Below.refl _ _) q)

theorem Ready.agrees {w : World} {B bg bf bt sk n : Nat} {ks ns : Nat → ByteArray} {ys ls : Nat → Int} {a1 a2 a3 a4 : Option Addr} {n1 n2 n3 n4 : Nat} (h : Ready w B bg bf bt sk n ks ns ys ls a1 a2 a3 a4 n1 n2 n3 n4)
    (hsk : sk ≤ 8192) (hn : n ≤ 1024) (hys : ∀ t, t < n → -32768 ≤ ys t ∧ ys t ≤ 32767) (hls : ∀ t, t < n → -2147483648 ≤ ls t ∧ ls t ≤ 2147483647)
    (c1 c2 c3 c4 : Nat) (h1 : n ≤ n1) (h2 : n ≤ n2) (h3 : n ≤ n3) (h4 : n ≤ n4) (m1 : n1 ≤ 1048576) (m2 : n2 ≤ 1048576) (m3 : n3 ≤ 1048576) (m4 : n4 ≤ 1048576) (p : ByteArray) (y : Int) :
    Calls Try.prog 26 #[.pointer (some ⟨bg, 0, none⟩), .slice a1 n1 c1, .slice a2 n2 c2, .slice a3 n3 c3, .slice a4 n4 c4, .int .i64 (n : Int), .string p, .int .i64 y] w fun e w' => e = .returned (.bool true) ∧ Below w.heap.size w w' := by
  obtain ⟨T, tx, ix, fr, la, nx, ti, f, S, hT, hB⟩ := h.built
  exact agrees_calls hB hsk hn hT hys hls a1 a2 a3 a4 n1 n2 n3 n4 c1 c2 c3 c4 h1 h2 h3 h4 m1 m2 m3 m4 h.r1 h.r2 h.r3 h.r4 p y

set_option maxRecDepth 100000 in
set_option maxHeartbeats 4000000 in
theorem law6_calls (sk qy : Int) (a1 a2 a3 a4 : Option Addr) (n1 n2 n3 n4 c1 c2 c3 c4 : Nat) (qp : ByteArray) (ks ns : Nat → ByteArray) (ys ls : Nat → Int) (w : World) (_h1 : n1 ≤ 9223372036854775807) (_h2 : n2 ≤ 9223372036854775807) (_h3 : n3 ≤ 9223372036854775807) (_h4 : n4 ≤ 9223372036854775807)
    (hR1 : Reads w a1 n1 (fun t => .string (ks t))) (hR2 : Reads w a2 n2 (fun t => .int .i16 (ys t))) (hR3 : Reads w a3 n3 (fun t => .string (ns t))) (hR4 : Reads w a4 n4 (fun t => .int .i32 (ls t)))
    (hys : ∀ t, t < n2 → -32768 ≤ ys t ∧ ys t ≤ 32767) (hls : ∀ t, t < n4 → -2147483648 ≤ ls t ∧ ls t ≤ 2147483647) :
    Calls Try.prog 6 #[.int .i64 sk, .slice a1 n1 c1, .slice a2 n2 c2, .slice a3 n3 c3, .slice a4 n4 c4, .string qp, .int .i64 qy] w fun e w' => e = .returned (.bool true) ∧ Below w.heap.size w w' := by
  have HY : Hid (∀ t, t < n2 → -32768 ≤ ys t ∧ ys t ≤ 32767) := hys
  have HLS : Hid (∀ t, t < n4 → -2147483648 ≤ ls t ∧ ls t ≤ 2147483647) := hls
  clear hys hls
  go_enter Try.func6, Try.ntmps6
  go_wp2_with fail
  refine (zzFinds_calls sk qy a1 a2 a3 a4 n1 n2 n3 n4 c1 c2 c3 c4 qp ks ns w _h1 _h2 _h3 _h4 hR1 hR3).mono ?_
  rintro e w0 ⟨⟨r, rfl, hr⟩, hw⟩
  obtain rfl := hw.symm
  clear hw
  cases r with
  | false =>
    go_wp2_with fail
    go_ret
    exact ⟨rfl, Below.refl _ _⟩
  | true =>
  obtain ⟨m1, m2, m3, m4, m5, hk⟩ := hr rfl
  have HK : Hid (∀ t, t < n3 → (ns t).size ≤ 1048576) := hk
  clear hr hk
  go_wp2_with fail
  refine (addStrs_calls a1 n1 c1 0 ks w m1 (by omega) (by omega) hR1).mono ?_
  rintro e w0 ⟨⟨r1, rfl, p1, q1⟩, hw⟩
  obtain rfl := hw.symm
  clear hw
  go_wp2_with fail
  refine (addStrs_calls a3 n3 c3 r1 ns w m3 p1 q1 hR3).mono ?_
  rintro e w0 ⟨⟨r2, rfl, p2, q2⟩, hw⟩
  obtain rfl := hw.symm
  clear hw
  go_wp2_with fail
  refine (addWords_calls r2 n2 2 w m2 (by omega) p2 q2).mono ?_
  rintro e w0 ⟨⟨r3, rfl, p3, q3⟩, hw⟩
  obtain rfl := hw.symm
  clear hw
  go_wp2_with fail
  refine (addWords_calls r3 n4 4 w m4 (by omega) p3 q3).mono ?_
  rintro e w0 ⟨⟨r4, rfl, p4, q4⟩, hw⟩
  obtain rfl := hw.symm
  clear hw
  go_wp2_with fail
  refine (addWords_calls r4 qp.size 1 w m5 (by omega) p4 q4).mono ?_
  rintro e w0 ⟨⟨r5, rfl, p5, q5⟩, hw⟩
  obtain rfl := hw.symm
  clear hw
  by_cases e0 : 1048576 < r5
  · go_wp2_with fail
    go_ret
    exact ⟨rfl, Below.refl _ _⟩
  by_cases e1 : 1024 < n1
  · go_wp2_with fail
    go_ret
    exact ⟨rfl, Below.refl _ _⟩
  by_cases e2 : 1024 < n2
  · go_wp2_with fail
    go_ret
    exact ⟨rfl, Below.refl _ _⟩
  by_cases e3 : 1024 < n3
  · go_wp2_with fail
    go_ret
    exact ⟨rfl, Below.refl _ _⟩
  by_cases e4 : 1024 < n4
  · go_wp2_with fail
    go_ret
    exact ⟨rfl, Below.refl _ _⟩
  by_cases e5 : sk < 0
  · go_wp2_with fail
    go_ret
    exact ⟨rfl, Below.refl _ _⟩
  by_cases e6 : 8192 < sk
  · go_wp2_with fail
    go_ret
    exact ⟨rfl, Below.refl _ _⟩
  obtain ⟨s, rfl⟩ := Int.eq_ofNat_of_zero_le (show 0 ≤ sk by omega)
  have hs : s ≤ 8192 := by omega
  clear p1 q1 p2 q2 p3 q3 p4 q4 p5 q5
  go_wp2_with fail
  refine (cloneStrs_calls a1 n1 c1 ks w m1 hR1).mono ?_
  rintro e w1 ⟨⟨d1, g1, rfl, k1⟩, b1⟩
  have R2 := hR2.below b1
  have R3 := hR3.below b1
  have R4 := hR4.below b1
  clear hR1 hR2 hR3 hR4
  go_wp2_with fail
  refine (clone_w16_calls a2 n2 c2 ys w1 m2 R2).mono ?_
  rintro e w2 ⟨⟨d2, g2, rfl, k2⟩, b2⟩
  replace k1 := k1.below b2
  replace R3 := R3.below b2
  replace R4 := R4.below b2
  replace b1 := b1.trans (b2.mono b1.size)
  clear R2 b2
  go_wp2_with fail
  refine (cloneStrs_calls a3 n3 c3 ns w2 m3 R3).mono ?_
  rintro e w3 ⟨⟨d3, g3, rfl, k3⟩, b2⟩
  replace k1 := k1.below b2
  replace k2 := k2.below b2
  replace R4 := R4.below b2
  replace b1 := b1.trans (b2.mono b1.size)
  clear R3 b2
  go_wp2_with fail
  refine (clone_w32_calls a4 n4 c4 ls w3 m4 R4).mono ?_
  rintro e w4 ⟨⟨d4, g4, rfl, k4⟩, b2⟩
  replace k1 := k1.below b2
  replace k2 := k2.below b2
  replace k3 := k3.below b2
  replace b1 := b1.trans (b2.mono b1.size)
  clear R4 b2
  go_wp2_with fail
  refine (min4_calls n1 n2 n3 n4 w4).mono ?_
  rintro e w5 ⟨⟨n, rfl, hn1, hn2, hn3, hn4⟩, hw⟩
  obtain rfl := hw.symm
  clear hw
  go_wp2_with fail
  refine (build_calls s n d1 d2 d3 d4 n1 n2 n3 n4 g1 g2 g3 g4 ks ns ys ls w4 hs (by omega) hn1 hn2 hn3 hn4 m1 m2 m3 m4 k1 k2 k3 k4 HK.out).mono ?_
  rintro e w5 ⟨rfl, b2, T, tx, ix, fr, la, nx, ti, f, hT, hB⟩
  have hRd : Ready w5 w4.heap.size (w4.heap.size + 2) w4.heap.size (w4.heap.size + 1) s n ks ns ys ls d1 d2 d3 d4 n1 n2 n3 n4 := ⟨⟨T, tx, ix, fr, la, nx, ti, f, _, hT, hB⟩, k1.below b2, k2.below b2, k3.below b2, k4.below b2⟩
  have hbb : Below w.heap.size w w5 := b1.trans (b2.mono b1.size)
  have HYn : Hid (∀ t, t < n → -32768 ≤ ys t ∧ ys t ≤ 32767) := fun t ht => HY.out t (by omega)
  have HLn : Hid (∀ t, t < n → -2147483648 ≤ ls t ∧ ls t ≤ 2147483647) := fun t ht => HLS.out t (by omega)
  clear k1 k2 k3 k4 b1 b2 hB hT
  go_wp2_with fail
  go_loopw [18] (fun i wr => ∃ k : Nat, k ≤ n ∧ i = .int .i64 k ∧ Ready wr w4.heap.size (w4.heap.size + 2) w4.heap.size (w4.heap.size + 1) s n ks ns ys ls d1 d2 d3 d4 n1 n2 n3 n4 ∧ Below w.heap.size w wr) (fun i _ => n - (intOf i).toNat)
  case atStart => exact ⟨0, Nat.zero_le _, rfl, hRd, hbb⟩
  case round =>
    clear hRd hbb
    obtain ⟨k, hk, rfl, hRd, hb⟩ := hrel
    by_cases hlt : k < n
    · obtain ⟨x1, o1, hx1, hc1⟩ := hRd.r1.at (by omega)
      obtain ⟨x2, o2, hx2, hc2⟩ := hRd.r2.at (by omega)
      subst hx1 hx2
      have k1 := hc1 k (by omega)
      have k2 := hc2 k (by omega)
      have hy1 := HYn.out k hlt
      clear hc1 hc2
      have HC : Hid (∀ q, Calls Try.prog 26 #[.pointer (some ⟨w4.heap.size + 2, 0, none⟩), .slice (some ⟨x1, o1, none⟩) n1 g1, .slice (some ⟨x2, o2, none⟩) n2 g2, .slice d3 n3 g3, .slice d4 n4 g4, .int .i64 (n : Int), .string (ks k), .int .i64 (ys k)] (wr.drewN q) fun e w' => e = .returned (.bool true) ∧ Below wr.heap.size (wr.drewN q) w') :=
        fun q => (hRd.drewN q).agrees hs (by omega) HYn.out HLn.out g1 g2 g3 g4 hn1 hn2 hn3 hn4 m1 m2 m3 m4 (ks k) (ys k)
      obtain ⟨sk', Hs⟩ : ∃ s', Hid (ks k = s') := ⟨_, rfl⟩
      obtain ⟨yk, Hy⟩ : ∃ yk, Hid (ys k = yk) := ⟨_, rfl⟩
      rw [Hs.out] at k1
      rw [Hy.out] at k2 hy1
      rw [Hs.out, Hy.out] at HC
      have i0 : (0 : Int) ≤ (k : Int) := by omega
      have i1 : (k : Int) < (n1 : Int) := by omega
      have i2 : (k : Int) < (n2 : Int) := by omega
      have j1 : k < n1 := by omega
      have j2 : k < n2 := by omega
      have v1 : ({ heap := wr.heap, tape := wr.tape, drawn := wr.drawn + 1, os := wr.os, output := wr.output } : World).cell? ⟨x1, o1 + k, none⟩ = some (.string sk') := k1
      have v2 : ({ heap := wr.heap, tape := wr.tape, drawn := wr.drawn + 1, os := wr.os, output := wr.output } : World).cell? ⟨x2, o2 + k, none⟩ = some (.int .i16 yk) := k2
      go_wp2_with fail
      go_still_tail 15, (by kernel_rfl)
      go_wp2_with fail
      refine (HC.out 1).mono ?_
      rintro e w6 ⟨rfl, hb6⟩
      have hb5 : Below wr.heap.size wr w6 := (below_drewN (Below.refl _ _) 1).trans hb6
      have hRd2 := hRd.kept hb5
      have hb7 : Below w.heap.size w w6 := hb.trans (hb5.mono hb.size)
      clear hb6 hb5 HC hRd hb
      go_wp2_with fail
      go_roundw
      case rel => exact ⟨k + 1, by omega, by go_num, hRd2, hb7⟩
      case measure => simp [intOf]; omega
    · go_wp2_with fail
      refine (hRd.agrees hs (by omega) HYn.out HLn.out g1 g2 g3 g4 hn1 hn2 hn3 hn4 m1 m2 m3 m4 qp qy).mono ?_
      rintro e w6 ⟨rfl, hb6⟩
      go_wp2_with fail
      go_ret
      exact ⟨rfl, hb.trans (hb6.mono hb.size)⟩

end Go.Proofs.Qxb6000508a
