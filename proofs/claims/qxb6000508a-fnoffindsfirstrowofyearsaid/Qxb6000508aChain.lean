/-
  First, last and next rows of a participant. Plain: no Go in sight.
-/
import Derived.Test.Qxb6000508aBase
namespace Go.Proofs.Qxb6000508a

/-- The first place from lo on, before n, where P holds. -/
def IsFirst (P : Nat → Prop) (lo n : Nat) : Option Nat → Prop
  | none => ∀ j, lo ≤ j → j < n → ¬ P j
  | some j => lo ≤ j ∧ j < n ∧ P j ∧ ∀ i, lo ≤ i → i < j → ¬ P i
/-- The last place before n where P holds. -/
def IsLast (P : Nat → Prop) (n : Nat) : Option Nat → Prop
  | none => ∀ j, j < n → ¬ P j
  | some j => j < n ∧ P j ∧ ∀ i, j < i → i < n → ¬ P i

def enc (sk : Nat) : Option Nat → Nat
  | none => 0
  | some j => sk + j

structure Chain (k : Nat) (ks : Nat → ByteArray) (fr la : ByteArray → Option Nat) (nx : Nat → Option Nat) : Prop where
  first : ∀ p, IsFirst (fun i => ks i = p) 0 k (fr p)
  last : ∀ p, IsLast (fun i => ks i = p) k (la p)
  next : ∀ j, j < k → IsFirst (fun i => ks i = ks j) (j + 1) k (nx j)

theorem chain_nil (ks : Nat → ByteArray) : Chain 0 ks (fun _ => none) (fun _ => none) (fun _ => none) :=
  ⟨fun p j _ hj => absurd hj (by omega), fun p j hj => absurd hj (by omega), fun j hj => absurd hj (by omega)⟩

theorem IsFirst.grow {P : Nat → Prop} {lo n : Nat} {r : Option Nat} (h : IsFirst P lo n r) (hr : r = none → ¬ P n) : IsFirst P lo (n + 1) r := by
  cases r with
  | none =>
    intro j h1 h2
    by_cases e : j = n
    · rw [e]; exact hr rfl
    · exact h j h1 (by omega)
  | some j => exact ⟨h.1, by have := h.2.1; omega, h.2.2.1, h.2.2.2⟩

theorem last_push {ks : Nat → ByteArray} {k : Nat} {la : ByteArray → Option Nat} (h : ∀ p, IsLast (fun i => ks i = p) k (la p)) (p : ByteArray) : IsLast (fun i => ks i = p) (k + 1) (if p = ks k then some k else la p) := by
  by_cases e : p = ks k
  · rw [if_pos e]
    exact ⟨by omega, e.symm, fun i h1 h2 => absurd h1 (by omega)⟩
  · rw [if_neg e]
    have hp := h p
    cases hl : la p with
    | none =>
      rw [hl] at hp
      intro j hj
      by_cases e2 : j = k
      · rw [e2]; exact fun c => e c.symm
      · exact hp j (by omega)
    | some j =>
      rw [hl] at hp
      refine ⟨by have := hp.1; omega, hp.2.1, fun i h1 h2 => ?_⟩
      by_cases e2 : i = k
      · rw [e2]; exact fun c => e c.symm
      · exact hp.2.2 i h1 (by omega)

theorem Chain.link {k : Nat} {ks : Nat → ByteArray} {fr la : ByteArray → Option Nat} {nx : Nat → Option Nat} (h : Chain k ks fr la nx) {j : Nat} (hj : la (ks k) = some j) :
    Chain (k + 1) ks fr (fun p => if p = ks k then some k else la p) (fun i => if i = j then some k else if i = k then none else nx i) := by
  have hl := h.last (ks k)
  rw [hj] at hl
  refine ⟨fun p => (h.first p).grow fun hn c => ?_, last_push h.last, fun i hi => ?_⟩
  · have hf := h.first p
    rw [hn] at hf
    exact hf j (by omega) hl.1 ((show ks j = ks k from hl.2.1).trans c)
  · show IsFirst _ _ _ (if i = j then some k else if i = k then none else nx i)
    by_cases e1 : i = j
    · rw [if_pos e1]
      have h1 := hl.1
      refine ⟨by omega, by omega, by rw [e1]; exact hl.2.1.symm, fun t h2 h3 c => hl.2.2 t (by omega) h3 ?_⟩
      show ks t = ks k
      rw [show ks t = ks i from c, e1]; exact hl.2.1
    · rw [if_neg e1]
      by_cases e2 : i = k
      · rw [if_pos e2]
        exact fun t h1 h2 => absurd h1 (by omega)
      · rw [if_neg e2]
        refine (h.next i (by omega)).grow fun hn c => ?_
        have hx := h.next i (by omega)
        rw [hn] at hx
        have hc : ks k = ks i := c
        by_cases e3 : i < j
        · exact hx j (by omega) hl.1 (by show ks j = ks i; rw [← hc]; exact hl.2.1)
        · exact hl.2.2 i (by omega) (by omega) hc.symm

theorem Chain.start {k : Nat} {ks : Nat → ByteArray} {fr la : ByteArray → Option Nat} {nx : Nat → Option Nat} (h : Chain k ks fr la nx) (hj : la (ks k) = none) :
    Chain (k + 1) ks (fun p => if p = ks k then some k else fr p) (fun p => if p = ks k then some k else la p) (fun i => if i = k then none else nx i) := by
  have hl := h.last (ks k)
  rw [hj] at hl
  refine ⟨fun p => ?_, last_push h.last, fun i hi => ?_⟩
  · show IsFirst _ _ _ (if p = ks k then some k else fr p)
    by_cases e : p = ks k
    · rw [if_pos e]
      exact ⟨by omega, by omega, e.symm, fun i _ h2 c => hl i h2 (by show ks i = ks k; rw [← e]; exact c)⟩
    · rw [if_neg e]
      exact (h.first p).grow fun _ c => e c.symm
  · show IsFirst _ _ _ (if i = k then none else nx i)
    by_cases e2 : i = k
    · rw [if_pos e2]
      exact fun t h1 h2 => absurd h1 (by omega)
    · rw [if_neg e2]
      exact (h.next i (by omega)).grow fun _ c => hl i (by omega) (show ks i = ks k from (show ks k = ks i from c).symm)

/-- What is first is so alone. -/
theorem IsFirst.unique {P : Nat → Prop} {lo n : Nat} {r r' : Option Nat} (h : IsFirst P lo n r) (h' : IsFirst P lo n r') : r = r' := by
  cases r with
  | none =>
    cases r' with
    | none => rfl
    | some j => exact absurd h'.2.2.1 (h j h'.1 h'.2.1)
  | some i =>
    cases r' with
    | none => exact absurd h.2.2.1 (h' i h.1 h.2.1)
    | some j =>
      rcases Nat.lt_trichotomy i j with e | e | e
      · exact absurd h.2.2.1 (h'.2.2.2 i h.1 e)
      · rw [e]
      · exact absurd h'.2.2.1 (h.2.2.2 j h'.1 e)

end Go.Proofs.Qxb6000508a
