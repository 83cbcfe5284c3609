/-
  Rows of cells of the call's own, by a function of the index. No Go text in sight.
-/
import Derived.WalkKit
import Derived.Deep.Draws
namespace Go.Proofs.Qxb6000508a
open Go.RowKit

/-- Block b is a row of n cells of element type e; cell t holds f t. -/
def Row (w : World) (b n : Nat) (e : TypeId) (f : Nat → Value) : Prop :=
  ∃ arr : Array Value, w.heap[b]? = some (.cells arr e (0, 0)) ∧ arr.size = n ∧ ∀ t, t < n → arr[t]? = some (f t)

def upd (f : Nat → Value) (k : Nat) (v : Value) : Nat → Value := fun t => if t = k then v else f t

theorem upd_same (f : Nat → Value) (k : Nat) (v : Value) : upd f k v k = v := by simp [upd]
theorem upd_other (f : Nat → Value) (k : Nat) (v : Value) (t : Nat) (h : t ≠ k) : upd f k v t = f t := by simp [upd, h]

theorem Row.cell {w : World} {b n : Nat} {e : TypeId} {f : Nat → Value} (h : Row w b n e f) (t : Nat) (ht : t < n) : w.cell? ⟨b, t, none⟩ = some (f t) := by
  obtain ⟨arr, h1, _, h3⟩ := h
  simp [World.cell?, h1, h3 t ht]

theorem Row.frozen {w : World} {b n : Nat} {e : TypeId} {f : Nat → Value} (h : Row w b n e f) (t : Nat) : w.frozen? ⟨b, t, none⟩ = false := by
  obtain ⟨arr, h1, _, _⟩ := h
  simp [World.frozen?, h1]

theorem Row.lt {w : World} {b n : Nat} {e : TypeId} {f : Nat → Value} (h : Row w b n e f) : b < w.heap.size := by
  obtain ⟨arr, h1, _, _⟩ := h
  exact (Array.getElem?_eq_some_iff.1 h1).1

theorem Row.congr {w : World} {b n : Nat} {e : TypeId} {f g : Nat → Value} (h : Row w b n e f) (hfg : ∀ t, t < n → f t = g t) : Row w b n e g := by
  obtain ⟨arr, h1, h2, h3⟩ := h
  exact ⟨arr, h1, h2, fun t ht => by rw [h3 t ht, hfg t ht]⟩

theorem Row.of_block {w w' : World} {b n : Nat} {e : TypeId} {f : Nat → Value} (h : Row w b n e f) (hb : w'.heap[b]? = w.heap[b]?) : Row w' b n e f := by
  obtain ⟨arr, h1, h2, h3⟩ := h
  exact ⟨arr, hb.trans h1, h2, h3⟩

theorem Row.below {w w' : World} {B b n : Nat} {e : TypeId} {f : Nat → Value} (h : Row w b n e f) (hb : Below B w w') (hB : b < B) : Row w' b n e f :=
  h.of_block (hb.block b hB)

theorem Row.drewN {w : World} {b n : Nat} {e : TypeId} {f : Nat → Value} (h : Row w b n e f) (q : Nat) : Row (w.drewN q) b n e f := h
theorem Row.drew {w : World} {b n : Nat} {e : TypeId} {f : Nat → Value} (h : Row w b n e f) : Row w.drew b n e f := h
theorem Row.alloc {w : World} {b n : Nat} {e : TypeId} {f : Nat → Value} (h : Row w b n e f) (o : Obj) : Row (w.alloc o) b n e f :=
  h.of_block (Below.heap_alloc w o b h.lt)

theorem Row.set {w : World} {b n : Nat} {e : TypeId} {f : Nat → Value} (h : Row w b n e f) (k : Nat) (v : Value) : Row (w.setCell ⟨b, k, none⟩ v) b n e (upd f k v) := by
  obtain ⟨arr, h1, h2, h3⟩ := h
  refine ⟨arr.setIfInBounds k v, ?_, by simp [h2], fun t ht => ?_⟩
  · simp [World.setCell, Array.getElem?_modify, h1]
  · by_cases hk : t = k
    · subst hk
      rw [Array.getElem?_setIfInBounds]
      simp [upd, h2, ht]
    · rw [Array.getElem?_setIfInBounds, if_neg (by omega), upd_other _ _ _ _ hk, h3 t ht]

theorem Row.set_other {w : World} {b b' n : Nat} {e : TypeId} {f : Nat → Value} (h : Row w b n e f) (hb : b ≠ b') (k : Nat) (v : Value) : Row (w.setCell ⟨b', k, none⟩ v) b n e f :=
  h.of_block (Below.heap_setCell w ⟨b', k, none⟩ v b hb)

theorem Row.made (w : World) (z : Array Value) (n : Nat) (e : TypeId) : Row (w.alloc (.cells (madeCells z n) e)) w.heap.size n e (fun t => z[t % z.size]!) := by
  refine ⟨madeCells z n, heap_alloc_new w _, size_madeCells z n, fun t ht => ?_⟩
  simp [madeCells, ht]

theorem Row.made_at {w : World} (z : Array Value) (n : Nat) (e : TypeId) {b : Nat} (hb : b = w.heap.size) : Row (w.alloc (.cells (madeCells z n) e)) b n e (fun t => z[t % z.size]!) := by
  subst hb; exact Row.made w z n e

theorem below_drewN {B : Nat} {a w : World} (h : Below B a w) (q : Nat) : Below B a (w.drewN q) := ⟨h.os, h.tape, h.output, h.size, h.block⟩

/-- The first n cells of a slice at address a hold f. (Where n is 0 nothing is said of a.) -/
def Reads (w : World) (a : Option Addr) (n : Nat) (f : Nat → Value) : Prop :=
  ∀ t, t < n → ∃ b off, a = some ⟨b, off, none⟩ ∧ w.cell? ⟨b, off + t, none⟩ = some (f t)

theorem Reads.at {w : World} {a : Option Addr} {n : Nat} {f : Nat → Value} (h : Reads w a n f) (hn : 0 < n) :
    ∃ b off, a = some ⟨b, off, none⟩ ∧ ∀ t, t < n → w.cell? ⟨b, off + t, none⟩ = some (f t) := by
  obtain ⟨b, off, rfl, _⟩ := h 0 hn
  refine ⟨b, off, rfl, fun t ht => ?_⟩
  obtain ⟨b', off', e, hc⟩ := h t ht
  simp only [Option.some.injEq, Addr.mk.injEq, and_true] at e
  obtain ⟨rfl, rfl⟩ := e
  exact hc

theorem block_lt {w : World} {b off : Nat} {v : Value} (h : w.cell? ⟨b, off, none⟩ = some v) : b < w.heap.size :=
  World.block_lt_of_cell? w ⟨b, off, none⟩ h

theorem Reads.below {w w' : World} {a : Option Addr} {n : Nat} {f : Nat → Value} (h : Reads w a n f) (hb : Below w.heap.size w w') : Reads w' a n f := by
  intro t ht
  obtain ⟨b, off, rfl, hc⟩ := h t ht
  exact ⟨b, off, rfl, by rw [hb.cell (block_lt hc)]; exact hc⟩

theorem Reads.drewN {w : World} {a : Option Addr} {n : Nat} {f : Nat → Value} (h : Reads w a n f) (q : Nat) : Reads (w.drewN q) a n f := h

theorem Row.reads {w : World} {b n m : Nat} {e : TypeId} {f : Nat → Value} (h : Row w b n e f) (hm : m ≤ n) : Reads w (some ⟨b, 0, none⟩) m f :=
  fun t ht => ⟨b, 0, rfl, by rw [Nat.zero_add]; exact h.cell t (by omega)⟩

theorem Reads.nil (w : World) (a : Option Addr) (f : Nat → Value) : Reads w a 0 f := fun t ht => absurd ht (by omega)

theorem Reads.congr {w : World} {a : Option Addr} {n : Nat} {f g : Nat → Value} (h : Reads w a n f) (hfg : ∀ t, t < n → f t = g t) : Reads w a n g := by
  intro t ht
  obtain ⟨b, off, e, hc⟩ := h t ht
  exact ⟨b, off, e, by rw [hc, hfg t ht]⟩

/-- It returns some bool, of which p holds. -/
def Ans (e : Ending) (p : Bool → Prop) : Prop := ∃ r : Bool, e = .returned (.bool r) ∧ p r
theorem Ans.mk {v : Value} {p : Bool → Prop} (r : Bool) (h : v = .bool r) (hp : p r) : Ans (.returned v) p := ⟨r, by rw [h], hp⟩

end Go.Proofs.Qxb6000508a
