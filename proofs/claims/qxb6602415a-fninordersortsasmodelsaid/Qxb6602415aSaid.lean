/-
  What inOrder is said to do; the walk of ZZInOrder out of it.
-/
import Derived.Test.Qxb6602415aInOrder
namespace Go.Proofs.Qxb6602415a
open Go.RowKit
set_option linter.unusedVariables false

/-- What inOrder gives: a sorted order; one and the same for the same keys. 'big': what it gives beyond 12 members. -/
structure OrdOk (big : Nat → Int → (Nat → ByteArray) → Nat → Nat) (o : Int) (ks : Nat → ByteArray) (n : Nat) (f : Nat → Nat) : Prop where
  ord : SOrd o ks n f
  few : n ≤ 12 → Order o ks n f
  many : 12 < n → ∀ t, t < n → f t = big n o ks t

theorem OrdOk.uniq {big : Nat → Int → (Nat → ByteArray) → Nat → Nat} {o : Int} {ks : Nat → ByteArray} {n : Nat} {f g : Nat → Nat} (hf : OrdOk big o ks n f) (hg : OrdOk big o ks n g) : ∀ t, t < n → f t = g t := by
  by_cases h : n ≤ 12
  · exact (hf.few h).uniq (hg.few h)
  · intro t ht
    rw [hf.many (by omega) t ht, hg.many (by omega) t ht]

def InOrderSaid (big : Nat → Int → (Nat → ByteArray) → Nat → Nat) : Prop :=
  ∀ (bm n start B : Nat) (ks : Nat → ByteArray) (d : Nat → Bool) (o : Int) (a0 : Option Addr) (cap0 : Nat) (pre : Nat → Value) (w : World), n ≤ 4096 → start ≤ 65536 →
    MRow w bm n ks d → Owns w B (.slice a0 start cap0) start pre → B ≤ w.heap.size → some bm ≠ (Value.slice a0 start cap0).ownBlock →
    Calls Try.prog 21 #[.slice (some ⟨bm, 0, none⟩) n n, .int .u8 o, .slice a0 start cap0] w fun e w' => ∃ v' f, e = .returned v' ∧ Owns w' B v' (start + n) (ext pre start f) ∧ w.grownBy w' (Value.slice a0 start cap0).ownBlock ∧ OrdOk big o ks n f

set_option maxRecDepth 100000 in
set_option maxHeartbeats 1000000 in
theorem zzInOrder_calls {big : Nat → Int → (Nat → ByteArray) → Nat → Nat} (hI : InOrderSaid big) (a : Option Addr) (n cap start B : Nat) (ks : Nat → ByteArray) (o : Int) (a0 : Option Addr) (cap0 : Nat) (pre : Nat → Value) (w : World) (hn : n ≤ 4096) (hst : start ≤ 65536)
    (hR : Reads w a n (fun t => .string (ks t))) (hO : Owns w B (.slice a0 start cap0) start pre) (hB : B ≤ w.heap.size) :
    Calls Try.prog 12 #[.slice a n cap, .int .u8 o, .slice a0 start cap0] w fun e w' => ∃ v' f, e = .returned v' ∧ Owns w' B v' (start + n) (ext pre start f) ∧ w.grownBy w' (Value.slice a0 start cap0).ownBlock ∧ OrdOk big o ks n f := by
  have hmk := mk_members n (by omega)
  have hv0 := hO.lt
  go_enter Try.func12, Try.ntmps12
  go_wp2_with fail
  clear hmk
  go_loopw [14] (fun i wr => ∃ k : Nat, k ≤ n ∧ i = .int .i64 k ∧ MRow wr w.heap.size n (fun t => if t < k then ks t else ⟨#[]⟩) (fun _ => false) ∧ Below w.heap.size w wr) (fun i _ => n - (intOf i).toNat)
  case atStart =>
    exact ⟨0, Nat.zero_le _, rfl, (MRow.made n rfl).congr (fun t _ => by simp) (fun t _ => rfl), (Below.refl _ _).alloc (Nat.le_refl _) _⟩
  case round =>
    obtain ⟨k, hk, rfl, hr, hbel⟩ := hrel
    by_cases hlt : k < n
    · obtain ⟨b, off, rfl, hc⟩ := hR.at (by omega)
      have hck : wr.cell? ⟨b, off + k, none⟩ = some (.string (ks k)) := by rw [hbel.cell (block_lt (hc k hlt))]; exact hc k hlt
      clear hc
      have hc1 := hr.key k hlt
      have hf1 := hr.frozen (k * 6)
      go_wp2_with fail
      go_roundw
      case rel =>
        refine ⟨k + 1, by omega, by go_num, (hr.setKey k (ks k)).congr (fun t _ => ?_) (fun _ _ => rfl), hbel.setCell (Nat.le_refl _) _⟩
        by_cases e : t = k
        · subst e; simp
        · by_cases h2 : t < k
          · simp [e, h2, show t < k + 1 by omega]
          · simp [e, h2, show ¬ t < k + 1 by omega]
      case measure => simp [intOf]; omega
    · have hr2 : MRow wr w.heap.size n ks (fun _ => false) := hr.congr (fun t ht => by simp [show t < k by omega]) (fun _ _ => rfl)
      have hgw : w.grownBy wr (Value.slice a0 start cap0).ownBlock := ⟨hbel.os, hbel.tape, hbel.output, hbel.size, fun j hj _ => hbel.block j hj⟩
      have hO2 : Owns wr B (.slice a0 start cap0) start pre := World.ownsRow.kept (row := none) hO ⟨hbel.os, hbel.tape, hbel.output, hbel.size, fun j hj _ => hbel.block j hj⟩ (by cases (Value.slice a0 start cap0).ownBlock <;> simp)
      have hne : some w.heap.size ≠ (Value.slice a0 start cap0).ownBlock := fun e => by have := (hv0 _ e.symm).2; omega
      have hBr : B ≤ wr.heap.size := Nat.le_trans hB hbel.size
      clear hr hR hO hbel
      go_wp2_with fail
      refine (hI w.heap.size n start B ks (fun _ => false) o a0 cap0 pre wr hn hst hr2 hO2 hBr hne).mono ?_
      rintro e w1 ⟨v', f, rfl, h1, h2, h3⟩
      go_wp2_with fail
      go_ret
      exact ⟨v', f, rfl, h1, grownBy_trans hgw h2, h3⟩

end Go.Proofs.Qxb6602415a
