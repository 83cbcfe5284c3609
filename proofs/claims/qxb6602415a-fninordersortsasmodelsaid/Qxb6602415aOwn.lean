/-
  A slice of ints of the call's own that is appended to: its owned row as a function of the index. No Go text in sight.
-/
import Derived.Test.Qxb6602415aMembers
import Derived.Maps.AppendAt
namespace Go.Proofs.Qxb6602415a
open Go.RowKit

/-- v owns n ints, f t at place t; it lies from block B on. -/
def Owns (w : World) (B : Nat) (v : Value) (n : Nat) (f : Nat → Value) : Prop := w.ownsRow B 3 1 v n ((List.range n).map f)

theorem owns_nil (w : World) (B : Nat) (f : Nat → Value) : Owns w B (.slice none 0 0) 0 f := World.ownsRow_nil w B 3 1

theorem Owns.congr {w : World} {B : Nat} {v : Value} {n : Nat} {f g : Nat → Value} (h : Owns w B v n f) (e : ∀ t, t < n → f t = g t) : Owns w B v n g := by
  unfold Owns at *
  rw [← List.map_congr_left fun t ht => e t (List.mem_range.1 ht)]; exact h

theorem Owns.row {w : World} {B : Nat} {v : Value} {n : Nat} {f : Nat → Value} (h : Owns w B v n f) (hn : 0 < n) :
    ∃ g cap F, v = .slice (some ⟨g, 0, none⟩) n cap ∧ B ≤ g ∧ n ≤ cap ∧ cap ≤ maxLen ∧ Row w g cap 3 F ∧ ∀ t, t < n → F t = f t := by
  obtain ⟨_, h2⟩ := h
  rcases h2 with ⟨_, h0⟩ | ⟨g, cap, cur, rfl, hB, hh, h3, h4, h5, h6⟩
  · omega
  · refine ⟨g, cap, fun t => cur.getD t undef, rfl, hB, h3, h4, ⟨cur, hh, by omega, fun t ht => ?_⟩, fun t ht => ?_⟩
    · have : t < cur.size := by omega
      simp [this]
    · have h7 := congrArg (fun l => l[t]?) h6
      simp only [Nat.mul_one] at h7
      rw [List.getElem?_take] at h7
      have h8 : t < cur.size := by omega
      simp [ht] at h7
      simp [h7]

theorem owns_of_row {w : World} {B g n cap : Nat} {f F : Nat → Value} (hB : B ≤ g) (hn : n ≤ cap) (hc : cap ≤ maxLen) (hr : Row w g cap 3 F) (e : ∀ t, t < n → F t = f t) : Owns w B (.slice (some ⟨g, 0, none⟩) n cap) n f := by
  obtain ⟨arr, h1, h2, h3⟩ := hr
  refine ⟨by simp, .inr ⟨g, cap, arr, rfl, hB, h1, hn, hc, by omega, ?_⟩⟩
  refine List.ext_getElem? fun t => ?_
  rw [List.getElem?_take]
  by_cases ht : t < n
  · have := h3 t (by omega)
    rw [e t ht] at this
    simp [ht, this]
  · simp [ht]

theorem owns_append {w : World} {B : Nat} {v : Value} {n : Nat} {f : Nat → Value} {x : Value} (h : w.ownsRow B 3 1 v (n + 1) ((List.range n).map f ++ [x])) : Owns w B v (n + 1) (fun t => if t = n then x else f t) := by
  unfold Owns
  have e : (List.range (n + 1)).map (fun t => if t = n then x else f t) = (List.range n).map f ++ [x] := by
    rw [List.range_succ, List.map_append]
    congr 1
    · refine List.map_congr_left fun t ht => ?_
      have := List.mem_range.1 ht
      simp [show t ≠ n by omega]
    · simp
  rw [e]; exact h

theorem Owns.kept {w w' : World} {B : Nat} {v : Value} {n : Nat} {f : Nat → Value} (h : Owns w B v n f) {r : Option Nat} (hg : w.grownBy w' r) (hne : v.ownBlock = none ∨ v.ownBlock ≠ r) : Owns w' B v n f := World.ownsRow.kept h hg hne
theorem Owns.alloc {w : World} {B : Nat} {v : Value} {n : Nat} {f : Nat → Value} (h : Owns w B v n f) (o : Obj) : Owns (w.alloc o) B v n f := World.ownsRow.alloc h o
theorem Owns.lt {w : World} {B : Nat} {v : Value} {n : Nat} {f : Nat → Value} (h : Owns w B v n f) : ∀ k, v.ownBlock = some k → B ≤ k ∧ k < w.heap.size := World.ownsRow.lt h

/-- The slice lies where it lay at first, or in a block behind the first N. -/
def Lies (N : Nat) (v0 v : Value) : Prop := v.ownBlock = v0.ownBlock ∨ ∃ g, v.ownBlock = some g ∧ N ≤ g
theorem Lies.refl (N : Nat) (v : Value) : Lies N v v := .inl rfl
theorem Lies.step {N : Nat} {v0 v v' : Value} (h : Lies N v0 v) {m : Nat} (hm : N ≤ m) (h' : v'.ownBlock = v.ownBlock ∨ v'.ownBlock = some m) : Lies N v0 v' := by
  rcases h' with h' | h'
  · rcases h with h | ⟨g, h, hg⟩
    · exact .inl (h'.trans h)
    · exact .inr ⟨g, h'.trans h, hg⟩
  · exact .inr ⟨m, h', hm⟩
/-- A block that is neither v0's nor new is not v's. -/
theorem Lies.ne {N : Nat} {v0 v : Value} (h : Lies N v0 v) {k : Nat} (hk : k < N) (h0 : some k ≠ v0.ownBlock) : some k ≠ v.ownBlock := by
  rcases h with h | ⟨g, h, hg⟩
  · rw [h]; exact h0
  · rw [h]; intro e; injection e with e; omega
/-- What turns v's block alone turns, of the first N blocks, v0's alone. -/
theorem Lies.grown {w0 w w' : World} {v0 v : Value} (h : Lies w0.heap.size v0 v) (h1 : w0.grownBy w v0.ownBlock) (h2 : w.grownBy w' v.ownBlock) : w0.grownBy w' v0.ownBlock :=
  ⟨h2.os.trans h1.os, h2.tape.trans h1.tape, h2.output.trans h1.output, Nat.le_trans h1.size h2.size, fun k hk hr => (h2.block k (Nat.lt_of_lt_of_le hk h1.size) (h.ne hk hr)).trans (h1.block k hk hr)⟩

end Go.Proofs.Qxb6602415a
