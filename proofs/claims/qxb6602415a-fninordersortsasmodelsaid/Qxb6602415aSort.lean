/-
  slices.SortFunc at this program, by the shelf's contract; the walk of inOrder beyond 12 members; inOrder, whole.
-/
import Derived.Test.Qxb6602415aBig
import Derived.Test.Qxb6602415aShelf
namespace Go.Proofs.Qxb6602415a
open Go.RowKit Go.Sort Go.Shelf Go.Maps
set_option linter.unusedVariables false

theorem range_get (n t : Nat) (h : t < n) : (Array.range n)[t]! = t := by
  rw [getElem!_pos _ t (by rw [Array.size_range]; exact h)]; simp

theorem sort_calls (n blk off cap C bm b3 b4 : Nat) (ks : Nat → ByteArray) (d : Nat → Bool) (o : Int) (F : Nat → Value) (w : World) (hn0 : 0 < n) (hn : n ≤ 1048576)
    (hr : Row w blk C 3 F) (hF : ∀ t, t < n → F (off + t) = .int .i64 (t : Int)) (hC : off + n ≤ C)
    (c3 : w.cell? ⟨b3, 0, none⟩ = some (.slice (some ⟨bm, 0, none⟩) n n)) (c4 : w.cell? ⟨b4, 0, none⟩ = some (.int .u8 o)) (hM : MRow w bm n ks d)
    (e3 : b3 ≠ blk) (e4 : b4 ≠ blk) (em : bm ≠ blk) :
    Calls Try.prog 24 #[.slice (some ⟨blk, off, none⟩) n cap, .func (.func 25) #[] #[.pointer (some ⟨b3, 0, none⟩), .pointer (some ⟨b4, 0, none⟩)]] w fun e w' =>
      e = .returned (.tuple #[]) ∧ Row w' blk C 3 (fun k => if off ≤ k ∧ k < off + n then .int .i64 (bigOrd n o ks (k - off) : Int) else F k) ∧ w.grownBy w' (some blk) := by
  have hs : (Array.range n).size = n := Array.size_range
  have eg : ∀ args w, (callFunc 25 args).run Try.prog w = .ok (.enter 25 args) w := enters_of Try.func25 (by kernel_rfl) rfl
  have hH : Holds (encN n) w blk off (Array.range n) := by
    intro j hj
    rw [hs] at hj
    refine ⟨?_, hr.frozen _⟩
    rw [hr.cell _ (by omega), hF j hj, range_get n j hj, encN, clp_of hj]
  have hcmp : CmpLays1 Try.prog 25 #[.pointer (some ⟨b3, 0, none⟩), .pointer (some ⟨b4, 0, none⟩)] (encN n) (cfN n o ks) blk off (Array.range n).size w := by
    intro m os dk _ x y
    have hg := sw_grown (encN n) w blk off m dk os
    generalize sortWorld (encN n) w blk off m dk os = W at hg ⊢
    have f3 : W.cell? ⟨b3, 0, none⟩ = some (.slice (some ⟨bm, 0, none⟩) n n) := by rw [World.cell?_of_block (hg.block b3 (block_lt c3) (fun e => e3 (by injection e)))]; exact c3
    have f4 : W.cell? ⟨b4, 0, none⟩ = some (.int .u8 o) := by rw [World.cell?_of_block (hg.block b4 (block_lt c4) (fun e => e4 (by injection e)))]; exact c4
    have fM : MRow W bm n ks d := hM.of_block (hg.block bm hM.lt (fun e => em (by injection e)))
    have hx := clp_lt hn0 x
    have hy := clp_lt hn0 y
    refine (closure_calls b3 b4 bm n o (clp n x) (clp n y) _ _ W hx hy hn f3 f4 (fM.key _ hx) (fM.key _ hy)).mono ?_
    rintro e w' ⟨he, q, hq⟩
    exact ⟨he, q, #[], by rw [hq, grow_empty]⟩
  have hcon := Any.slices_SortFunc_eq sortL (encN n) (fun _ => rfl) (cfN n o ks) (swo_cfN n o ks) 25 #[.pointer (some ⟨b3, 0, none⟩), .pointer (some ⟨b4, 0, none⟩)] blk off cap (Array.range n) w eg hcmp hH hr.lt (by rw [hs]; omega)
  change Calls Try.prog 24 _ _ _ at hcon
  have e1 : Value.slice (some ⟨blk, off, none⟩) (Array.range n).size cap = .slice (some ⟨blk, off, none⟩) n cap := by rw [hs]
  rw [e1] at hcon
  refine hcon.mono ?_
  rintro e w' ⟨he, q, os, hw⟩
  have hw2 : w' = sortWorld (encN n) w blk off q (bigArr n o ks) os := hw
  subst hw2
  refine ⟨he, hr.sw.congr fun k hk => ?_, sw_grown _ _ _ _ _ _ _⟩
  rw [bigArr_size]
  by_cases h : off ≤ k ∧ k < off + n
  · rw [if_pos h, if_pos h]
    have := (bigOrd_sord n o ks).lt (k - off) (by omega)
    unfold encN
    rw [show (bigArr n o ks)[k - off]! = bigOrd n o ks (k - off) from rfl, clp_of this]
  · rw [if_neg h, if_neg h]

theorem ext_id (pre : Nat → Value) (start k : Nat) (t : Nat) (ht : t < start + k + 1) : (if t = start + k then .int .i64 (k : Int) else ext pre start id t) = ext pre start id t := by
  by_cases h : t = start + k
  · subst h; rw [ext_at]; simp
  · simp [h]

set_option maxRecDepth 100000 in
set_option maxHeartbeats 2000000 in
theorem inOrder_big (bm n start B : Nat) (ks : Nat → ByteArray) (d : Nat → Bool) (o : Int) (a0 : Option Addr) (cap0 : Nat) (pre : Nat → Value) (w : World) (hn : 12 < n) (hn2 : n ≤ 4096) (hst : start ≤ 65536)
    (hM : MRow w bm n ks d) (hO : Owns w B (.slice a0 start cap0) start pre) (hB : B ≤ w.heap.size) (hne : some bm ≠ (Value.slice a0 start cap0).ownBlock) :
    Calls Try.prog 21 #[.slice (some ⟨bm, 0, none⟩) n n, .int .u8 o, .slice a0 start cap0] w fun e w' => ∃ v', e = .returned v' ∧ Owns w' B v' (start + n) (ext pre start (bigOrd n o ks)) ∧ w.grownBy w' (Value.slice a0 start cap0).ownBlock := by
  obtain ⟨i0, hi, hz0, hz1, hz2⟩ := info_parts info3
  have hbm := hM.lt
  have hv0 := hO.lt
  have hd12 : decide ((12 : Int) < (n : Int)) = true := decide_eq_true (by omega)
  go_enter Try.func21, Try.ntmps21
  go_wp2_with fail
  obtain ⟨w2, hw2⟩ : ∃ w2, w2 = (w.alloc (.cells #[.slice (some ⟨bm, 0, none⟩) n n] 37)).alloc (.cells #[.int .u8 o] 45) := ⟨_, rfl⟩
  rw [← hw2]
  have hz : w2.heap.size = w.heap.size + 2 := by rw [hw2]; simp
  have hg2 : w.grownBy w2 (Value.slice a0 start cap0).ownBlock := by rw [hw2]; exact grownBy_alloc (grownBy_alloc (grownBy_refl _ _) _) _
  have hM2 : MRow w2 bm n ks d := by rw [hw2]; exact (hM.alloc _).alloc _
  have hO2 : Owns w2 B (.slice a0 start cap0) start pre := by rw [hw2]; exact (hO.alloc _).alloc _
  have c3 : w2.cell? ⟨w.heap.size, 0, none⟩ = some (.slice (some ⟨bm, 0, none⟩) n n) := by rw [hw2]; simp [World.cell?_alloc_old, World.cell?_alloc_new]
  have c4 : w2.cell? ⟨w.heap.size + 1, 0, none⟩ = some (.int .u8 o) := by rw [hw2]; rw [World.cell?_alloc_at _ _ _ _ (by simp)]; rfl
  have n3 : some w.heap.size ≠ (Value.slice a0 start cap0).ownBlock := fun e => by have := (hv0 _ e.symm).2; omega
  have n4 : some (w.heap.size + 1) ≠ (Value.slice a0 start cap0).ownBlock := fun e => by have := (hv0 _ e.symm).2; omega
  have HZ : Hid (w2.heap.size = w.heap.size + 2) := hz
  have hz' : w.heap.size + 2 ≤ w2.heap.size := by omega
  clear hw2 hz hM hO hv0
  go_loopw [2, 19] (fun v i wr => ∃ k : Nat, k ≤ n ∧ i = .int .i64 k ∧ Owns wr B v (start + k) (ext pre start id) ∧ w2.grownBy wr (Value.slice a0 start cap0).ownBlock ∧ Lies w2.heap.size (.slice a0 start cap0) v) (fun _ i _ => n - (intOf i).toNat)
  case atStart =>
    exact ⟨0, Nat.zero_le _, rfl, hO2.congr (fun t ht => by simp [ext, ht]), grownBy_refl _ _, Lies.refl _ _⟩
  case round =>
    obtain ⟨k, hk, rfl, hown, hgr, hlies⟩ := hrel
    have hsz := hgr.size
    by_cases hlt : k < n
    · go_wp2_with (at_builtin; refine wpList_append_own_at _ rfl _ _ 23 rfl B 3 i0 (.int .i64 0) 1 8 Try.underlying23 hi hz0 hz1 hz2 rfl (by decide) _ (start + k) _ rfl (World.ownsRow.alloc hown _) ⟨wr.heap.size, 0, none⟩ 1 1 [.int .i64 (k : Int)] rfl rfl (cell_one_new _ _ _) (ints_oneCell .i64 [(k : Int)]) (by unfold maxLen; omega) (by omega) (by simp; omega) ?_)
      intro v' w1 hown' hgrow hnil hloc
      have hO1 := (owns_append hown').congr (fun t ht => ext_id pre start k t ht)
      have hg1 : w2.grownBy w1 (Value.slice a0 start cap0).ownBlock := hlies.grown (grownBy_alloc hgr _) hgrow
      have hl1 : Lies w2.heap.size (.slice a0 start cap0) v' := hlies.step (m := wr.heap.size + 1) (by omega) hloc
      clear hown' hgrow hnil hloc hown hgr hlies
      go_wp2_with fail
      go_roundw
      case rel => exact ⟨k + 1, by omega, by go_num, hO1, hg1, hl1⟩
      case measure => simp [intOf]; omega
    · have E : Hid (k = n) := show k = n by omega
      rw [E.out] at hown
      obtain ⟨g, cap, F, rfl, hgB, hcap1, hcap2, hrow, hF⟩ := hown.row (by omega)
      have hM1 : MRow wr bm n ks d := hM2.of_block (hgr.block bm (by omega) hne)
      have d3 : wr.cell? ⟨w.heap.size, 0, none⟩ = some (.slice (some ⟨bm, 0, none⟩) n n) := by rw [World.cell?_of_block (hgr.block w.heap.size (by omega) n3)]; exact c3
      have d4 : wr.cell? ⟨w.heap.size + 1, 0, none⟩ = some (.int .u8 o) := by rw [World.cell?_of_block (hgr.block (w.heap.size + 1) (by omega) n4)]; exact c4
      have g1 : bm ≠ g := fun e => hlies.ne (by omega) hne (by rw [e]; rfl)
      have g2 : w.heap.size ≠ g := fun e => hlies.ne (by omega) n3 (by rw [e]; rfl)
      have g3 : w.heap.size + 1 ≠ g := fun e => hlies.ne (by omega) n4 (by rw [e]; rfl)
      have hsort := sort_calls n g start (cap - start) cap bm w.heap.size (w.heap.size + 1) ks d o F wr (by omega) (by omega) hrow (fun t ht => by rw [hF _ (by omega), ext_at]; rfl) (by omega) d3 d4 hM1 g2 g3 g1
      have HF : Hid (∀ t, t < start + n → F t = ext pre start id t) := hF
      have HS : Hid (Calls Try.prog 24 #[.slice (some ⟨g, start, none⟩) n (cap - start), .func (.func 25) #[] #[.pointer (some ⟨w.heap.size, 0, none⟩), .pointer (some ⟨w.heap.size + 1, 0, none⟩)]] wr fun e w' =>
        e = .returned (.tuple #[]) ∧ Row w' g cap 3 (fun k => if start ≤ k ∧ k < start + n then .int .i64 (bigOrd n o ks (k - start) : Int) else F k) ∧ wr.grownBy w' (some g)) := hsort
      have hc63 := hcap2
      unfold maxLen at hc63
      clear hsort hF d3 d4 hM1 c3 c4 hM2 hO2
      go_wp2_with fail
      refine HS.out.mono ?_
      rintro e w3 ⟨rfl, hr3, hg3⟩
      go_wp2_with fail
      go_ret
      refine ⟨_, rfl, owns_of_row hgB hcap1 hcap2 hr3 (fun t ht => ?_), grownBy_trans hg2 (hlies.grown hgr hg3)⟩
      by_cases h : start ≤ t
      · rw [if_pos ⟨h, ht⟩]; unfold ext; simp [show ¬ t < start by omega]
      · rw [if_neg (fun c => h c.1), HF.out t ht]; unfold ext; simp [show t < start by omega]

theorem inOrder_calls : InOrderSaid bigOrd := by
  intro bm n start B ks d o a0 cap0 pre w hn hst hM hO hB hne
  by_cases h : n ≤ 12
  · refine (inOrder_small bm n start B ks d o a0 cap0 pre w h hst hM hO hB hne).mono ?_
    rintro e w' ⟨v', f, h1, h2, h3, h4⟩
    exact ⟨v', f, h1, h2, h3, h4.sord, fun _ => h4, fun c => absurd c (by omega)⟩
  · refine (inOrder_big bm n start B ks d o a0 cap0 pre w (by omega) hn hst hM hO hB hne).mono ?_
    rintro e w' ⟨v', h1, h2, h3⟩
    exact ⟨v', _, h1, h2, h3, bigOrd_sord n o ks, fun c => absurd c h, fun _ _ _ => rfl⟩

end Go.Proofs.Qxb6602415a
