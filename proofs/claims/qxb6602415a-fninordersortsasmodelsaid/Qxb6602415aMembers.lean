/-
  A row of members (six cells each: the key first, the mark fifth); what markDuplicates comes to, in plain words.
-/
import Derived.Test.Qxb6602415aClones
namespace Go.Proofs.Qxb6602415a
open Go.RowKit

/-- Block b is a row of n members whose keys are ks and whose marks are d. -/
def MRow (w : World) (b n : Nat) (ks : Nat → ByteArray) (d : Nat → Bool) : Prop :=
  ∃ f, Row w b (n * 6) 43 f ∧ ∀ t, t < n → f (t * 6) = .string (ks t) ∧ f (t * 6 + 4) = .bool (d t)

theorem MRow.key {w : World} {b n : Nat} {ks : Nat → ByteArray} {d : Nat → Bool} (h : MRow w b n ks d) (t : Nat) (ht : t < n) : w.cell? ⟨b, t * 6, none⟩ = some (.string (ks t)) := by
  obtain ⟨f, hr, hf⟩ := h
  rw [hr.cell _ (by omega), (hf t ht).1]
theorem MRow.dup {w : World} {b n : Nat} {ks : Nat → ByteArray} {d : Nat → Bool} (h : MRow w b n ks d) (t : Nat) (ht : t < n) : w.cell? ⟨b, t * 6 + 4, none⟩ = some (.bool (d t)) := by
  obtain ⟨f, hr, hf⟩ := h
  rw [hr.cell _ (by omega), (hf t ht).2]
theorem MRow.frozen {w : World} {b n : Nat} {ks : Nat → ByteArray} {d : Nat → Bool} (h : MRow w b n ks d) (t : Nat) : w.frozen? ⟨b, t, none⟩ = false := by
  obtain ⟨f, hr, hf⟩ := h
  exact hr.frozen t
theorem MRow.of_block {w w' : World} {b n : Nat} {ks : Nat → ByteArray} {d : Nat → Bool} (h : MRow w b n ks d) (hb : w'.heap[b]? = w.heap[b]?) : MRow w' b n ks d := by
  obtain ⟨f, hr, hf⟩ := h
  exact ⟨f, hr.of_block hb, hf⟩
theorem MRow.lt {w : World} {b n : Nat} {ks : Nat → ByteArray} {d : Nat → Bool} (h : MRow w b n ks d) : b < w.heap.size := by
  obtain ⟨f, hr, hf⟩ := h
  exact hr.lt
theorem MRow.alloc {w : World} {b n : Nat} {ks : Nat → ByteArray} {d : Nat → Bool} (h : MRow w b n ks d) (o : Obj) : MRow (w.alloc o) b n ks d := h.of_block (Below.heap_alloc w o b h.lt)
theorem MRow.drewN {w : World} {b n : Nat} {ks : Nat → ByteArray} {d : Nat → Bool} (h : MRow w b n ks d) (q : Nat) : MRow (w.drewN q) b n ks d := h
theorem MRow.set_other {w : World} {b n : Nat} {ks : Nat → ByteArray} {d : Nat → Bool} (h : MRow w b n ks d) {b' : Nat} (hb : b ≠ b') (k : Nat) (v : Value) : MRow (w.setCell ⟨b', k, none⟩ v) b n ks d :=
  h.of_block (Below.heap_setCell w ⟨b', k, none⟩ v b hb)
theorem MRow.congr {w : World} {b n : Nat} {ks ks' : Nat → ByteArray} {d d' : Nat → Bool} (h : MRow w b n ks d) (h1 : ∀ t, t < n → ks t = ks' t) (h2 : ∀ t, t < n → d t = d' t) : MRow w b n ks' d' := by
  obtain ⟨f, hr, hf⟩ := h
  exact ⟨f, hr, fun t ht => by rw [(hf t ht).1, (hf t ht).2, h1 t ht, h2 t ht]; exact ⟨rfl, rfl⟩⟩
theorem MRow.setKey {w : World} {b n : Nat} {ks : Nat → ByteArray} {d : Nat → Bool} (h : MRow w b n ks d) (k : Nat) (s : ByteArray) :
    MRow (w.setCell ⟨b, k * 6, none⟩ (.string s)) b n (fun t => if t = k then s else ks t) d := by
  obtain ⟨f, hr, hf⟩ := h
  refine ⟨_, hr.set _ _, fun t ht => ⟨?_, ?_⟩⟩
  · by_cases e : t = k
    · subst e; rw [upd_same]; simp
    · rw [upd_other _ _ _ _ (by omega), (hf t ht).1]; simp [e]
  · rw [upd_other _ _ _ _ (by omega), (hf t ht).2]
theorem MRow.setDup {w : World} {b n : Nat} {ks : Nat → ByteArray} {d : Nat → Bool} (h : MRow w b n ks d) (k : Nat) (x : Bool) :
    MRow (w.setCell ⟨b, k * 6 + 4, none⟩ (.bool x)) b n ks (fun t => if t = k then x else d t) := by
  obtain ⟨f, hr, hf⟩ := h
  refine ⟨_, hr.set _ _, fun t ht => ⟨?_, ?_⟩⟩
  · rw [upd_other _ _ _ _ (by omega), (hf t ht).1]
  · by_cases e : t = k
    · subst e; rw [upd_same]; simp
    · rw [upd_other _ _ _ _ (by omega), (hf t ht).2]; simp [e]
theorem MRow.made {w : World} (n : Nat) {b : Nat} (hb : b = w.heap.size) : MRow (w.alloc (.cells (madeCells mz (n * 6)) 43)) b n (fun _ => ⟨#[]⟩) (fun _ => false) := by
  refine ⟨_, Row.made_at mz (n * 6) 43 hb, fun t _ => ⟨?_, ?_⟩⟩
  · have e : t * 6 % mz.size = 0 := by show t * 6 % 6 = 0; omega
    simp only [e]; rfl
  · have e : (t * 6 + 4) % mz.size = 4 := by show (t * 6 + 4) % 6 = 4; omega
    simp only [e]; rfl

/-- An earlier member has the key of member t. -/
def rep (ks : Nat → ByteArray) (t : Nat) : Bool := (List.range t).any fun j => decide (ks j = ks t)
/-- One of the first n members repeats a key. -/
def anyRep (ks : Nat → ByteArray) (n : Nat) : Bool := (List.range n).any (rep ks)

theorem rep_iff {ks : Nat → ByteArray} {t : Nat} : rep ks t = true ↔ ∃ j, j < t ∧ ks j = ks t := by simp [rep]
theorem rep_false {ks : Nat → ByteArray} {t : Nat} : rep ks t = false ↔ ∀ j, j < t → ks j ≠ ks t := by
  rw [Bool.eq_false_iff, Ne, rep_iff]
  exact ⟨fun h j hj e => h ⟨j, hj, e⟩, fun h ⟨j, hj, e⟩ => h j hj e⟩
theorem anyRep_succ (ks : Nat → ByteArray) (n : Nat) : anyRep ks (n + 1) = (anyRep ks n || rep ks n) := by simp [anyRep, List.range_succ]
theorem anyRep_one (ks : Nat → ByteArray) : anyRep ks 1 = false := by simp [anyRep, rep]
theorem anyRep_zero (ks : Nat → ByteArray) : anyRep ks 0 = false := by simp [anyRep]

theorem grownBy_refl (w : World) (r : Option Nat) : w.grownBy w r := World.grownBy.refl w r
theorem grownBy_trans {a b c : World} {r : Option Nat} (h : a.grownBy b r) (k : b.grownBy c r) : a.grownBy c r :=
  ⟨k.os.trans h.os, k.tape.trans h.tape, k.output.trans h.output, Nat.le_trans h.size k.size, fun i hi hr => (k.block i (Nat.lt_of_lt_of_le hi h.size) hr).trans (h.block i hi hr)⟩
theorem grownBy_drewN {a b : World} {r : Option Nat} (h : a.grownBy b r) (q : Nat) : a.grownBy (b.drewN q) r := ⟨h.os, h.tape, h.output, h.size, h.block⟩
theorem grownBy_setCell {a b : World} {k : Nat} (h : a.grownBy b (some k)) (i : Nat) (v : Value) : a.grownBy (b.setCell ⟨k, i, none⟩ v) (some k) :=
  ⟨h.os, h.tape, h.output, by simpa using h.size, fun j hj hr => (Below.heap_setCell b ⟨k, i, none⟩ v j (fun c => hr (by rw [c]))).trans (h.block j hj hr)⟩
theorem grownBy_alloc {a b : World} {r : Option Nat} (h : a.grownBy b r) (o : Obj) : a.grownBy (b.alloc o) r :=
  ⟨h.os, h.tape, h.output, by have := h.size; simp; omega, fun j hj hr => (Below.heap_alloc b o j (Nat.lt_of_lt_of_le hj h.size)).trans (h.block j hj hr)⟩
/-- A turn of a block that is not among a's. -/
theorem grownBy_new {a b c : World} {r : Option Nat} {k : Nat} (h : a.grownBy b r) (hk : a.heap.size ≤ k) (hc : b.grownBy c (some k)) : a.grownBy c r :=
  ⟨hc.os.trans h.os, hc.tape.trans h.tape, hc.output.trans h.output, Nat.le_trans h.size hc.size, fun j hj hr => (hc.block j (Nat.lt_of_lt_of_le hj h.size) (fun e => by injection e with e; omega)).trans (h.block j hj hr)⟩

end Go.Proofs.Qxb6602415a
