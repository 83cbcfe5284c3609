/-
  What a slice of int16 or int32 that came in reads as, with the bounds of its kind.
-/
import Derived.Test.Qxb6000508aFrame
namespace Go.Proofs.Qxb6000508a
open Go.ChangeShapes Go.WideShapes Go.ChangeAt Go.RowKit Go.Deep

section
variable {H : Type} {enc : TypeId × Value → H} {P : Program} {w : World} {base : Nat} {held : Bool} {t e : TypeId} {a : Option Addr} {len cap : Nat} {d : DataW H} {ps : List MemPlace}

theorem reads_wf (ht : P.underlying t = some (.slice e)) {k : IntKind} (he : P.underlying e = some (.int k)) (hc : P.cellsOf e = 1) (h : DataW.Trod enc P w base (fun _ => true) held t (.slice a len cap) d ps) :
    len ≤ maxLen ∧ ∃ zs : Nat → Int, Reads w a len (fun i => .int k (zs i)) ∧ ∀ i, i < len → (Lit.int k (zs i)).wf = true := by
  obtain ⟨hl, V, hR, hV⟩ := reads_cells ht hc h
  refine ⟨hl, fun i => match V i with | .int _ s => s | _ => 0, hR.congr fun i hi => ?_, fun i hi => ?_⟩
  · obtain ⟨n, D, Pl, ht'⟩ := hV i hi
    obtain ⟨s, hs, _⟩ := DataW.trod_int he ht'
    simp only [List.cons.injEq, and_true] at hs
    simp only [hs]
  · obtain ⟨n, D, Pl, ht'⟩ := hV i hi
    obtain ⟨s, hs, _, hw⟩ := DataW.trod_int he ht'
    simp only [List.cons.injEq, and_true] at hs
    simp only [hs]
    exact hw

theorem reads_i16 (ht : P.underlying t = some (.slice e)) (he : P.underlying e = some (.int .i16)) (hc : P.cellsOf e = 1) (h : DataW.Trod enc P w base (fun _ => true) held t (.slice a len cap) d ps) :
    len ≤ maxLen ∧ ∃ zs : Nat → Int, Reads w a len (fun i => .int .i16 (zs i)) ∧ ∀ i, i < len → -32768 ≤ zs i ∧ zs i ≤ 32767 := by
  obtain ⟨hl, zs, hR, hw⟩ := reads_wf ht he hc h
  refine ⟨hl, zs, hR, fun i hi => ?_⟩
  have := hw i hi
  simp [Lit.wf, IntKind.min, IntKind.max, IntKind.signed, IntKind.bits] at this
  omega

theorem reads_i32 (ht : P.underlying t = some (.slice e)) (he : P.underlying e = some (.int .i32)) (hc : P.cellsOf e = 1) (h : DataW.Trod enc P w base (fun _ => true) held t (.slice a len cap) d ps) :
    len ≤ maxLen ∧ ∃ zs : Nat → Int, Reads w a len (fun i => .int .i32 (zs i)) ∧ ∀ i, i < len → -2147483648 ≤ zs i ∧ zs i ≤ 2147483647 := by
  obtain ⟨hl, zs, hR, hw⟩ := reads_wf ht he hc h
  refine ⟨hl, zs, hR, fun i hi => ?_⟩
  have := hw i hi
  simp [Lit.wf, IntKind.min, IntKind.max, IntKind.signed, IntKind.bits] at this
  omega
end
end Go.Proofs.Qxb6000508a
