/-
  The walks of markDuplicates and ZZMarkDuplicates.
-/
import Derived.Test.Qxb6602415aMembers
import Derived.Test.Qxb6602415aMaps
import Derived.Test.Qxb6602415aStrs
namespace Go.Proofs.Qxb6602415a
open Go.RowKit
set_option linter.unusedVariables false

set_option maxRecDepth 100000 in
set_option maxHeartbeats 1000000 in
theorem mark_short (b n : Nat) (ks : Nat → ByteArray) (d : Nat → Bool) (w : World) (hn : n ≤ 32) (hM : MRow w b n ks d) :
    Calls Try.prog 23 #[.slice (some ⟨b, 0, none⟩) n n] w fun e w' => e = .returned (.bool (anyRep ks n)) ∧ MRow w' b n ks (fun t => rep ks t || d t) ∧ w.grownBy w' (some b) := by
  go_enter Try.func23, Try.ntmps23
  go_wp2
  go_loopw [2, 3] (fun fd i wr => ∃ k : Nat, 1 ≤ k ∧ k ≤ n + 1 ∧ (k ≤ n ∨ n = 0) ∧ i = .int .i64 k ∧ fd = .bool (anyRep ks k) ∧ MRow wr b n ks (fun t => if t < k then rep ks t || d t else d t) ∧ w.grownBy wr (some b)) (fun _ i _ => n + 1 - (intOf i).toNat)
  case atStart => 
    refine ⟨1, Nat.le_refl _, by omega, by omega, rfl, by rw [anyRep_one], hM.congr (fun _ _ => rfl) (fun t _ => ?_), grownBy_refl _ _⟩
    by_cases h : t < 1
    · have : rep ks t = false := by rw [rep_false]; intro j hj; omega
      simp [h, this]
    · simp [h]
  case round =>
    obtain ⟨k, hk1, hk2, hk3, rfl, rfl, hr, hg⟩ := hrel
    by_cases hlt : k < n
    · go_wp2
      go_loopw [2, 18] (fun fd j wm => ∃ (m q : Nat), m ≤ k ∧ j = .int .i64 m ∧ fd = .bool (anyRep ks k) ∧ wm = wr.drewN q ∧ Hid (∀ t, t < m → ks t ≠ ks k)) (fun _ j _ => k - (intOf j).toNat)
      case atStart => exact ⟨0, 0, Nat.zero_le _, rfl, rfl, rfl, fun t ht => absurd ht (by omega)⟩
      case round =>
        obtain ⟨m, q, hm, rfl, rfl, rfl, HN⟩ := hrel
        by_cases hmk : m < k
        · have hc1 := hr.key m (by omega)
          have hc2 := hr.key k (by omega)
          have hc3 := hr.dup k (by omega)
          have hf3 := hr.frozen (k * 6 + 4)
          by_cases hs : ks m = ks k
          · have hb : ((ks m).toList == (ks k).toList) = true := by rw [key_beq]; simp [hs]
            have hrep : rep ks k = true := rep_iff.2 ⟨m, hmk, hs⟩
            have HR : Hid (rep ks k = true) := hrep
            clear hs hrep
            go_wp2
            go_quiet (fail)
            go_wp2
            go_roundw
            case rel =>
              refine ⟨k + 1, by omega, by omega, by omega, by go_num, by rw [anyRep_succ, HR.out, Bool.or_true], ((hr.drewN _).setDup k true).congr (fun _ _ => rfl) (fun t _ => ?_), grownBy_setCell (grownBy_drewN hg _) _ _⟩
              by_cases e : t = k
              · subst e; simp [HR.out]
              · by_cases h2 : t < k
                · simp [e, h2, show t < k + 1 by omega]
                · simp [e, h2, show ¬ t < k + 1 by omega]
            case measure => simp [intOf]; omega
          · have hb : ((ks m).toList == (ks k).toList) = false := by rw [key_beq]; simp [hs]
            have HS : Hid (ks m ≠ ks k) := hs
            clear hs
            go_wp2
            go_quiet (fail)
            go_wp2
            go_roundw
            case rel =>
              refine ⟨m + 1, _, by omega, by go_num, rfl, rfl, fun t ht => ?_⟩
              by_cases e : t = m
              · subst e; exact HS.out
              · exact HN.out t (by omega)
            case measure => simp [intOf]; omega
        · have hrep : rep ks k = false := rep_false.2 fun j hj => HN.out j (by omega)
          have HR : Hid (rep ks k = false) := hrep
          clear hrep
          go_wp2
          go_roundw
          case rel =>
            refine ⟨k + 1, by omega, by omega, by omega, by go_num, by rw [anyRep_succ, HR.out, Bool.or_false], (hr.drewN _).congr (fun _ _ => rfl) (fun t _ => ?_), grownBy_drewN hg _⟩
            by_cases e : t = k
            · subst e; simp [HR.out]
            · by_cases h2 : t < k
              · simp [h2, show t < k + 1 by omega]
              · simp [h2, show ¬ t < k + 1 by omega]
          case measure => simp [intOf]; omega
    · have hfin : anyRep ks k = anyRep ks n := by
        by_cases h0 : n = 0
        · subst h0
          rw [show k = 1 by omega, anyRep_one, anyRep_zero]
        · rw [show k = n by omega]
      have HF : Hid (anyRep ks k = anyRep ks n) := hfin
      clear hfin
      go_wp2
      go_ret
      exact ⟨ret_bool HF.out, hr.congr (fun _ _ => rfl) (fun t ht => by simp [show t < k by omega]), hg⟩

theorem mk_map (n : Nat) (w : World) : (Instr.makeMap 50 (some (.int .i64 (n : Int)))).run Try.prog w = .ok (.map (some w.heap.size)) (w.alloc (.map #[] 0)) := by
  simp [Instr.makeMap, run_underlying Try.underlying50, asInt, asIntOf, newObj]
  rfl
theorem zeroB (w : World) : (zeroValue 4).run Try.prog w = .ok (.bool false) w := by kernel_rfl

/-- What the set holds after k members. -/
def seenTo (ks : Nat → ByteArray) (k : Nat) (s : ByteArray) : Option Value := if (List.range k).any (fun j => decide (ks j = s)) then some (.bool true) else none
theorem seenTo_at (ks : Nat → ByteArray) (k : Nat) : (seenTo ks k (ks k)).getD (.bool false) = .bool (rep ks k) := by
  unfold seenTo rep
  cases h : (List.range k).any (fun j => decide (ks j = ks k)) <;> simp
theorem seenTo_succ (ks : Nat → ByteArray) (k : Nat) (s : ByteArray) : (if s = ks k then some (.bool true) else seenTo ks k s) = seenTo ks (k + 1) s := by
  unfold seenTo
  rw [List.range_succ, List.any_append]
  by_cases h : s = ks k
  · simp [h]
  · have h' : ¬ ks k = s := fun e => h e.symm
    simp [h, h']

set_option maxRecDepth 100000 in
set_option maxHeartbeats 1000000 in
theorem mark_long (b n : Nat) (ks : Nat → ByteArray) (d : Nat → Bool) (w : World) (hn : 32 < n) (hn2 : n ≤ 1048576) (hM : MRow w b n ks d) :
    Calls Try.prog 23 #[.slice (some ⟨b, 0, none⟩) n n] w fun e w' => e = .returned (.bool (anyRep ks n)) ∧ MRow w' b n ks (fun t => rep ks t) ∧ w.grownBy w' (some b) := by
  have hmm := mk_map n
  have hd32 : decide ((n : Int) ≤ 32) = false := decide_eq_false (by omega)
  have hbw := hM.lt
  go_enter Try.func23, Try.ntmps23
  go_wp2
  clear hmm
  go_loopw [2, 43] (fun fd i wr => ∃ k : Nat, k ≤ n ∧ i = .int .i64 k ∧ fd = .bool (anyRep ks k) ∧ MRow wr b n ks (fun t => if t < k then rep ks t else d t) ∧ SMap wr w.heap.size (seenTo ks k) ∧ w.grownBy wr (some b)) (fun _ i _ => n - (intOf i).toNat)
  case atStart =>
    exact ⟨0, Nat.zero_le _, rfl, by rw [anyRep_zero], (hM.alloc _).congr (fun _ _ => rfl) (fun t _ => by simp), (SMap.made _).congr (fun s => by simp [seenTo]), grownBy_alloc (grownBy_refl _ _) _⟩
  case round =>
    obtain ⟨k, hk, rfl, rfl, hr, hS, hg⟩ := hrel
    by_cases hlt : k < n
    · have hne : w.heap.size ≠ b := by omega
      have hc1 := hr.key k hlt
      have hc2 := hr.dup k hlt
      have hf2 := hr.frozen (k * 6 + 4)
      have Hat := seenTo_at ks k
      have HAT : Hid ((seenTo ks k (ks k)).getD (.bool false) = .bool (rep ks k)) := Hat
      clear Hat
      go_wp2_with (first
        | (at_lookup; refine wpList_lookup_s rfl _ _ 50 false rfl 9 4 Try.underlying50 Try.underlying9 (zeroB _) hS (ks k) rfl rfl (.bool (rep ks k)) ?_ ?_; exact HAT.out.symm)
        | (at_mapUpdate; refine wpList_mapUpdate_s rfl _ _ _ 50 rfl 9 4 Try.underlying50 Try.underlying9 (hS.setCell hne _) (ks k) (.bool true) rfl rfl rfl ?_)
        | go_in)
      intro w1 hS1 hg1 hz1
      have hr1 : MRow w1 b n ks (fun t => if t = k then rep ks k else if t < k then rep ks t else d t) :=
        (hr.setDup k (rep ks k)).of_block (hg1.block b (by simpa using hr.lt) (fun e => hne (by injection e with e; exact e.symm)))
      have hcd : w1.cell? ⟨b, k * 6 + 4, none⟩ = some (.bool (rep ks k)) := by rw [hr1.dup k hlt]; simp
      have hgg : w.grownBy w1 (some b) := grownBy_new (grownBy_setCell hg _ _) (Nat.le_refl _) hg1
      have HR1 : Hid (MRow w1 b n ks (fun t => if t < k + 1 then rep ks t else d t)) := hr1.congr (fun _ _ => rfl) (fun t _ => by
        by_cases e : t = k
        · subst e; simp
        · by_cases h2 : t < k
          · simp [e, h2, show t < k + 1 by omega]
          · simp [e, h2, show ¬ t < k + 1 by omega])
      have HS1 : Hid (SMap w1 w.heap.size (seenTo ks (k + 1))) := hS1.congr (seenTo_succ ks k)
      have HA := anyRep_succ ks k
      have HAs : Hid (anyRep ks (k + 1) = (anyRep ks k || rep ks k)) := HA
      clear hc1 hc2 hf2 hr hS hg hS1 hg1 hr1 hz1 HA
      cases hA : anyRep ks k with
      | true =>
        go_wp2
        go_roundw
        case rel => exact ⟨k + 1, by omega, by go_num, by rw [HAs.out, hA]; rfl, HR1.out, HS1.out, hgg⟩
        case measure => simp [intOf]; omega
      | false =>
        go_wp2
        go_roundw
        case rel => exact ⟨k + 1, by omega, by go_num, by rw [HAs.out, hA]; rfl, HR1.out, HS1.out, hgg⟩
        case measure => simp [intOf]; omega
    · have e : k = n := by omega
      have E : Hid (k = n) := e
      clear e
      go_wp2
      go_ret
      exact ⟨ret_bool (by rw [E.out]), hr.congr (fun _ _ => rfl) (fun t ht => by simp [show t < k by have := E.out; omega]), hg⟩

/-- The marks behind markDuplicates. -/
def mk (n : Nat) (ks : Nat → ByteArray) (d : Nat → Bool) (t : Nat) : Bool := rep ks t || (decide (n ≤ 32) && d t)

theorem mark_calls (b n : Nat) (ks : Nat → ByteArray) (d : Nat → Bool) (w : World) (hn : n ≤ 1048576) (hM : MRow w b n ks d) :
    Calls Try.prog 23 #[.slice (some ⟨b, 0, none⟩) n n] w fun e w' => e = .returned (.bool (anyRep ks n)) ∧ MRow w' b n ks (mk n ks d) ∧ w.grownBy w' (some b) := by
  by_cases h : n ≤ 32
  · refine (mark_short b n ks d w h hM).mono fun e w' ⟨h1, h2, h3⟩ => ⟨h1, h2.congr (fun _ _ => rfl) (fun t _ => by simp [mk, h]), h3⟩
  · refine (mark_long b n ks d w (by omega) hn hM).mono fun e w' ⟨h1, h2, h3⟩ => ⟨h1, h2.congr (fun _ _ => rfl) (fun t _ => by simp [mk, h]), h3⟩

set_option maxRecDepth 100000 in
set_option maxHeartbeats 1000000 in
theorem zzMark_calls (a a2 : Option Addr) (n cap cap2 : Nat) (ks : Nat → ByteArray) (d : Nat → Bool) (w : World) (hn : n ≤ 1048576) (hR : Reads w a n (fun t => .string (ks t))) (hD : Reads w a2 n (fun t => .bool (d t))) :
    Calls Try.prog 18 #[.slice a n cap, .slice a2 n cap2] w fun e w' => ∃ b1 b2 : Nat, e = .returned (.tuple #[.bool (anyRep ks n), .slice (some ⟨b1, 0, none⟩) n n, .slice (some ⟨b2, 0, none⟩) n n]) ∧
      Row w' b1 n 4 (fun t => .bool (mk n ks d t)) ∧ Row w' b2 n 9 (fun t => .string (ks t)) ∧ Below w.heap.size w w' := by
  have hmk := mk_members n hn
  have hmkb := mk_bools n hn
  have hmks := mk_strs n hn
  go_enter Try.func18, Try.ntmps18
  go_wp2
  go_loopw [18] (fun i wr => ∃ k : Nat, k ≤ n ∧ i = .int .i64 k ∧ MRow wr w.heap.size n (fun t => if t < k then ks t else ⟨#[]⟩) (fun t => if t < k then d t else false) ∧ Below w.heap.size w wr ∧ wr.heap.size = w.heap.size + 1) (fun i _ => n - (intOf i).toNat)
  case atStart =>
    exact ⟨0, Nat.zero_le _, rfl, (MRow.made n rfl).congr (fun t _ => by simp) (fun t _ => by simp), (Below.refl _ _).alloc (Nat.le_refl _) _, by simp⟩
  case round =>
    obtain ⟨k, hk, rfl, hr, hbel, hsz⟩ := hrel
    by_cases hlt : k < n
    · clear hmk hmkb hmks
      obtain ⟨b, off, rfl, hc⟩ := hR.at (by omega)
      obtain ⟨b2, off2, rfl, hc2⟩ := hD.at (by omega)
      have hck : wr.cell? ⟨b, off + k, none⟩ = some (.string (ks k)) := by rw [hbel.cell (block_lt (hc k hlt))]; exact hc k hlt
      have hcd : wr.cell? ⟨b2, off2 + k, none⟩ = some (.bool (d k)) := by rw [hbel.cell (block_lt (hc2 k hlt))]; exact hc2 k hlt
      have hbl := block_lt (hc k hlt)
      have hbl2 := block_lt (hc2 k hlt)
      clear hc hc2
      have hc1 := hr.key k hlt
      have hc2 := hr.dup k hlt
      have hf1 := hr.frozen (k * 6)
      have hf2 := hr.frozen (k * 6 + 4)
      go_wp2
      go_roundw
      case rel =>
        refine ⟨k + 1, by omega, by go_num, ((hr.setKey k (ks k)).setDup k (d k)).congr (fun t _ => ?_) (fun t _ => ?_), (hbel.setCell (Nat.le_refl _) _).setCell (Nat.le_refl _) _, by simpa using hsz⟩
        · by_cases e : t = k
          · subst e; simp
          · by_cases h2 : t < k
            · simp [e, h2, show t < k + 1 by omega]
            · simp [e, h2, show ¬ t < k + 1 by omega]
        · by_cases e : t = k
          · subst e; simp
          · by_cases h2 : t < k
            · simp [e, h2, show t < k + 1 by omega]
            · simp [e, h2, show ¬ t < k + 1 by omega]
      case measure => simp [intOf]; omega
    · have hr2 : MRow wr w.heap.size n ks d := hr.congr (fun t ht => by simp [show t < k by omega]) (fun t ht => by simp [show t < k by omega])
      clear hr hmk
      have HSZ : Hid (wr.heap.size = w.heap.size + 1) := hsz
      have hsz2 : w.heap.size + 1 ≤ wr.heap.size := by omega
      clear hsz
      go_wp2_with (go_at_call 23; refine (mark_calls _ n ks d _ hn hr2).mono ?_; rintro e w1 ⟨rfl, hr3, hg⟩)
      have hb1 : Below w.heap.size w w1 := hbel.grown hg (by omega) (fun k hk => by injection hk with hk; omega)
      have hz1 : w.heap.size + 1 ≤ w1.heap.size := by have := hg.size; omega
      clear hmkb hmks hbel hr2 hg hsz2 HSZ
      go_loopw [48] (fun i wm => ∃ k : Nat, k ≤ n ∧ i = .int .i64 k ∧ MRow wm w.heap.size n ks (mk n ks d) ∧ Row wm w1.heap.size n 4 (fun t => if t < k then .bool (mk n ks d t) else .bool false) ∧ Row wm (w1.heap.size + 1) n 9 (fun t => if t < k then .string (ks t) else .string ⟨#[]⟩) ∧ Below w.heap.size w wm) (fun i _ => n - (intOf i).toNat)
      case atStart =>
        refine ⟨0, Nat.zero_le _, rfl, (hr3.alloc _).alloc _, ((Row.made _ _ _ _).alloc _).congr (fun t _ => ?_), (Row.made_at _ _ _ (by simp)).congr (fun t _ => ?_), (hb1.alloc (by omega) _).alloc (by simp; omega) _⟩
        · simp [Nat.mod_one]
        · simp [Nat.mod_one]
      case round =>
        clear hr3 hb1 hlt hk
        obtain ⟨k, hk, rfl, hr, h1, h2, hbel⟩ := hrel
        by_cases hlt : k < n
        · have c1 := hr.key k hlt
          have c2 := hr.dup k hlt
          have c3 := h1.cell k hlt
          have c4 := h2.cell k hlt
          have f3 := h1.frozen k
          have f4 := h2.frozen k
          go_wp2
          go_roundw
          case rel =>
            refine ⟨k + 1, by omega, by go_num, (hr.set_other (by omega) _ _).set_other (by omega) _ _, ((h1.set k _).set_other (by omega) _ _).congr (fun t _ => ?_), ((h2.set_other (by omega) _ _).set k _).congr (fun t _ => ?_), (hbel.setCell (by simp; omega) _).setCell (by simp; omega) _⟩
            · by_cases e : t = k
              · subst e; rw [upd_same]; simp
              · rw [upd_other _ _ _ _ e]
                by_cases h2 : t < k
                · simp [h2, show t < k + 1 by omega]
                · simp [h2, show ¬ t < k + 1 by omega]
            · by_cases e : t = k
              · subst e; rw [upd_same]; simp
              · rw [upd_other _ _ _ _ e]
                by_cases h2 : t < k
                · simp [h2, show t < k + 1 by omega]
                · simp [h2, show ¬ t < k + 1 by omega]
          case measure => simp [intOf]; omega
        · go_wp2
          go_ret3
          exact ⟨_, _, rfl, h1.congr (fun t ht => by simp [show t < k by omega]), h2.congr (fun t ht => by simp [show t < k by omega]), hbel⟩

end Go.Proofs.Qxb6602415a
