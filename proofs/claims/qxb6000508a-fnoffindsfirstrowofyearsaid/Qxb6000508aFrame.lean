/-
  What a slice that came in reads as, in the walks' words.
-/
import Derived.Test.Qxb6000508aBase
import Derived.WalkKit
import Derived.ProofKit
import Derived.OpenShut
import Derived.Deep.Slices
namespace Go.Proofs.Qxb6000508a
open Go.ChangeShapes Go.WideShapes Go.ChangeAt Go.RowKit Go.Deep

theorem reads_of_cells {w : World} {x : Addr} {n : Nat} {f : Nat → Value} (h : ∀ i, i < n → w.cell? (x.add i) = some (f i)) : Reads w (some x) n f := by
  intro t ht
  obtain ⟨b, off, spot⟩ := x
  have hspot : spot = none := by simpa [Addr.add] using World.cell?_spot (h 0 (by omega))
  subst hspot
  exact ⟨b, off, rfl, by rw [← add_plain]; exact h t ht⟩

section
variable {H : Type} {enc : TypeId × Value → H} {P : Program} {w : World} {base : Nat} {held : Bool} {t e : TypeId} {a : Option Addr} {len cap : Nat} {d : DataW H} {ps : List MemPlace}

theorem reads_cells (ht : P.underlying t = some (.slice e)) (hc : P.cellsOf e = 1) (h : DataW.Trod enc P w base (fun _ => true) held t (.slice a len cap) d ps) :
    len ≤ maxLen ∧ ∃ (V : Nat → Value), Reads w a len V ∧ ∀ i, i < len → ∃ n D Pl, DataW.trod enc P w base (fun _ => true) held n e [V i] = some (D, Pl) := by
  obtain ⟨fuel, hf⟩ := h
  rcases open_slice1 ht hc hf with ⟨hcs, _⟩ | ⟨x, l, c, m, n, V, D, Pl, hcs, _, hl, hm, hmm, _, hx⟩
  · simp [Value.cells] at hcs
    obtain ⟨rfl, rfl, rfl⟩ := hcs
    exact ⟨Nat.zero_le _, fun _ => undef, Reads.nil _ _ _, fun i hi => absurd hi (by omega)⟩
  · simp [Value.cells] at hcs
    obtain ⟨rfl, rfl, rfl⟩ := hcs
    have hmc : m = cap := by simpa using hmm
    exact ⟨by omega, V, reads_of_cells (fun i hi => (hx i (by omega)).1), fun i hi => ⟨n, D i, Pl i, (hx i (by omega)).2⟩⟩

theorem reads_strs (ht : P.underlying t = some (.slice e)) (he : P.underlying e = some .string) (hc : P.cellsOf e = 1) (h : DataW.Trod enc P w base (fun _ => true) held t (.slice a len cap) d ps) :
    len ≤ maxLen ∧ ∃ ks : Nat → ByteArray, Reads w a len (fun i => .string (ks i)) := by
  obtain ⟨hl, V, hR, hV⟩ := reads_cells ht hc h
  refine ⟨hl, fun i => match V i with | .string s => s | _ => ByteArray.empty, hR.congr fun i hi => ?_⟩
  obtain ⟨n, D, Pl, ht'⟩ := hV i hi
  obtain ⟨s, hs, _⟩ := DataW.trod_string he ht'
  simp only [List.cons.injEq, and_true] at hs
  simp only [hs]

theorem reads_bools (ht : P.underlying t = some (.slice e)) (he : P.underlying e = some .bool) (hc : P.cellsOf e = 1) (h : DataW.Trod enc P w base (fun _ => true) held t (.slice a len cap) d ps) :
    len ≤ maxLen ∧ ∃ ks : Nat → Bool, Reads w a len (fun i => .bool (ks i)) := by
  obtain ⟨hl, V, hR, hV⟩ := reads_cells ht hc h
  refine ⟨hl, fun i => match V i with | .bool s => s | _ => false, hR.congr fun i hi => ?_⟩
  obtain ⟨n, D, Pl, ht'⟩ := hV i hi
  obtain ⟨s, hs, _⟩ := DataW.trod_bool he ht'
  simp only [List.cons.injEq, and_true] at hs
  simp only [hs]

theorem reads_ints (ht : P.underlying t = some (.slice e)) {k : IntKind} (he : P.underlying e = some (.int k)) (hc : P.cellsOf e = 1) (h : DataW.Trod enc P w base (fun _ => true) held t (.slice a len cap) d ps) :
    len ≤ maxLen ∧ ∃ zs : Nat → Int, Reads w a len (fun i => .int k (zs i)) := by
  obtain ⟨hl, V, hR, hV⟩ := reads_cells ht hc h
  refine ⟨hl, fun i => match V i with | .int _ s => s | _ => 0, hR.congr fun i hi => ?_⟩
  obtain ⟨n, D, Pl, ht'⟩ := hV i hi
  obtain ⟨s, hs, _⟩ := DataW.trod_int he ht'
  simp only [List.cons.injEq, and_true] at hs
  simp only [hs]
end
end Go.Proofs.Qxb6000508a
