/-
  The plain law: as many repeats as neighbours with one key, in whatever sorted order. No Go in sight.
-/
import Derived.Test.Qxb6602415aOrd
namespace Go.Proofs.Qxb6602415a

def cntRep (ks : Nat → ByteArray) (k : Nat) : Nat := (List.range k).countP (rep ks)
def cntAdj (ks : Nat → ByteArray) (f : Nat → Nat) (k : Nat) : Nat := (List.range k).countP (adj ks f)

theorem cntRep_succ (ks : Nat → ByteArray) (k : Nat) : cntRep ks (k + 1) = cntRep ks k + if rep ks k then 1 else 0 := by
  simp [cntRep, List.range_succ, List.countP_append, List.countP_cons]
theorem cntAdj_succ (ks : Nat → ByteArray) (f : Nat → Nat) (k : Nat) : cntAdj ks f (k + 1) = cntAdj ks f k + if adj ks f k then 1 else 0 := by
  simp [cntAdj, List.range_succ, List.countP_append, List.countP_cons]
theorem cntRep_le (ks : Nat → ByteArray) (k : Nat) : cntRep ks k ≤ k := by
  have := List.countP_le_length (p := rep ks) (l := List.range k)
  rw [List.length_range] at this; exact this
theorem cntAdj_le (ks : Nat → ByteArray) (f : Nat → Nat) (k : Nat) : cntAdj ks f k ≤ k := by
  have := List.countP_le_length (p := adj ks f) (l := List.range k)
  rw [List.length_range] at this; exact this
theorem anyRep_cnt (ks : Nat → ByteArray) (n : Nat) : anyRep ks n = decide (0 < cntRep ks n) := by
  rw [Bool.eq_iff_iff]
  simp [anyRep, cntRep, List.countP_pos_iff]

theorem cnt_agree {o : Int} {ks : Nat → ByteArray} {n : Nat} {f : Nat → Nat} (h : SOrd o ks n f) : cntAdj ks f n = cntRep ks n := by
  obtain ⟨g, hg⟩ := order_ex o ks n
  have hk := h.keys hg.sord
  have e1 : cntAdj ks f n = (List.range n).countP (rep ks ∘ g) := by
    unfold cntAdj
    refine List.countP_congr fun t ht => ?_
    have ht' := List.mem_range.1 ht
    have e : adj ks f t = rep ks (g t) := by
      rw [rep_adj hg ht']
      unfold adj
      by_cases h0 : 0 < t
      · rw [hk t ht', hk (t - 1) (by omega)]
      · simp [h0]
    rw [e]; rfl
  rw [e1, ← List.countP_map]
  exact hg.sord.perm.countP_eq _

end Go.Proofs.Qxb6602415a
