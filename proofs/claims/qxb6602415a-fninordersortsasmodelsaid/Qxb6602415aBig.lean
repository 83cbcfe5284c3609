/-
  More than 12 members: what the library's sort gives, in plain words; the sort's world in the walks' words.
-/
import Derived.Test.Qxb6602415aSaid
import Derived.Test.Qxb6602415aCmp
import Derived.Sort.AssemblyPlain
import Derived.Shelf.SlSortCmp.Kit1
namespace Go.Proofs.Qxb6602415a
open Go.RowKit Go.Sort

/-- A place below n; what is none counts as the first. -/
def clp (n x : Nat) : Nat := if x < n then x else 0
theorem clp_lt {n : Nat} (hn : 0 < n) (x : Nat) : clp n x < n := by unfold clp; split <;> omega
theorem clp_of {n x : Nat} (h : x < n) : clp n x = x := by simp [clp, h]
def encN (n x : Nat) : Value := .int .i64 (clp n x : Int)
def cfN (n : Nat) (o : Int) (ks : Nat → ByteArray) (x y : Nat) : Int := cfk o (ks (clp n x)) (ks (clp n y))

theorem ltOf_cfN (n : Nat) (o : Int) (ks : Nat → ByteArray) (x y : Nat) : ltOf (cfN n o ks) x y = kb o (ks (clp n x)) (ks (clp n y)) := by
  unfold ltOf cfN cfk
  cases h1 : kb o (ks (clp n x)) (ks (clp n y)) with
  | true => simp
  | false => cases h2 : kb o (ks (clp n y)) (ks (clp n x)) <;> simp
theorem swo_cfN (n : Nat) (o : Int) (ks : Nat → ByteArray) : SWO (ltOf (cfN n o ks)) where
  irrefl x := by rw [ltOf_cfN]; exact kb_irrefl o _
  trans x y z h1 h2 := by rw [ltOf_cfN] at *; exact kb_trans o _ _ _ h1 h2
  ntrans x y z h1 h2 := by rw [ltOf_cfN] at *; exact kb_ntrans o _ _ _ h1 h2

/-- What the library's sort makes of 0 .. n-1. -/
def bigArr (n : Nat) (o : Int) (ks : Nat → ByteArray) : Array Nat := pdq (ltOf (cfN n o ks)) (Array.range n) 0 (Array.range n).size (Lib.bitLen (Array.range n).size) true true
def bigOrd (n : Nat) (o : Int) (ks : Nat → ByteArray) (t : Nat) : Nat := (bigArr n o ks)[t]!

theorem bigArr_sorts (n : Nat) (o : Int) (ks : Nat → ByteArray) : PermIn 0 n (Array.range n) (bigArr n o ks) ∧ SortedIn (ltOf (cfN n o ks)) 0 n (bigArr n o ks) := by
  have h := pdq_sorts (ltOf (cfN n o ks)) (swo_cfN n o ks) (Array.range n) 0 (Array.range n).size (Lib.bitLen (Array.range n).size) true true (Nat.zero_le _) (Nat.le_refl _) (Or.inl rfl)
  rw [show (Array.range n).size = n from Array.size_range] at h
  unfold bigArr
  rw [show (Array.range n).size = n from Array.size_range]
  exact h
theorem bigArr_size (n : Nat) (o : Int) (ks : Nat → ByteArray) : (bigArr n o ks).size = n := by rw [(bigArr_sorts n o ks).1.1, Array.size_range]

theorem extract_whole (A : Array Nat) (n : Nat) (h : A.size = n) : (A.extract 0 n).toList = A.toList := by subst h; simp

theorem bigOrd_sord (n : Nat) (o : Int) (ks : Nat → ByteArray) : SOrd o ks n (bigOrd n o ks) := by
  have hs := bigArr_size n o ks
  obtain ⟨⟨_, _, hp⟩, hsort⟩ := bigArr_sorts n o ks
  rw [extract_whole _ n hs, extract_whole _ n Array.size_range, Array.toList_range] at hp
  have e3 : (bigArr n o ks).toList = Pl.seg (bigOrd n o ks) 0 n := by
    refine List.ext_getElem (by rw [Pl.seg_length]; simpa using hs) fun i h1 h2 => ?_
    rw [Pl.seg_length] at h2
    rw [Pl.seg_get (by omega), Nat.zero_add]
    unfold bigOrd
    rw [getElem!_pos _ i (by omega)]
    simp
  rw [e3] at hp
  have hnd : (Pl.seg (bigOrd n o ks) 0 n).Nodup := hp.nodup_iff.2 List.nodup_range
  have hlt : ∀ t, t < n → bigOrd n o ks t < n := fun t ht => List.mem_range.1 (hp.mem_iff.1 (Pl.seg_mem.2 ⟨t, by omega, ht, rfl⟩))
  refine ⟨hlt, fun t u ht hu e => ?_, fun i hi => ?_, fun t u htu hu => ?_⟩
  · have hpw := List.pairwise_iff_getElem.1 hnd
    rcases Nat.lt_trichotomy t u with c | c | c
    · have := hpw t u (by rw [Pl.seg_length]; omega) (by rw [Pl.seg_length]; omega) c
      rw [Pl.seg_get (by omega), Pl.seg_get (by omega), Nat.zero_add, Nat.zero_add] at this
      exact absurd e this
    · exact c
    · have := hpw u t (by rw [Pl.seg_length]; omega) (by rw [Pl.seg_length]; omega) c
      rw [Pl.seg_get (by omega), Pl.seg_get (by omega), Nat.zero_add, Nat.zero_add] at this
      exact absurd e.symm this
  · obtain ⟨t, _, ht, e⟩ := Pl.seg_mem.1 (hp.mem_iff.2 (List.mem_range.2 hi))
    exact ⟨t, ht, e⟩
  · have := hsort t u (Nat.zero_le _) htu hu
    rw [ltOf_cfN] at this
    have h1 : clp n (bigArr n o ks)[t]! = bigOrd n o ks t := clp_of (hlt t (by omega))
    have h2 : clp n (bigArr n o ks)[u]! = bigOrd n o ks u := clp_of (hlt u hu)
    rw [h1, h2] at this
    exact this

/-! ### The sort's world -/
theorem sw_block {enc : Nat → Value} {w : World} {g off m : Nat} {dk : Array Nat} {os : Array Obj} {arr : Array Value} (h : w.heap[g]? = some (.cells arr 3 (0, 0))) :
    (sortWorld enc w g off m dk os).heap[g]? = some (.cells (putCells enc off dk arr) 3 (0, 0)) := by
  have hlt : g < w.heap.size := (Array.getElem?_eq_some_iff.1 h).1
  show ((w.heap.modify g (onCells (putCells enc off dk))) ++ os)[g]? = _
  rw [Array.getElem?_append, if_pos (by simpa using hlt), Array.getElem?_modify, if_pos rfl, h]
  rfl
theorem sw_other {enc : Nat → Value} {w : World} {g off m : Nat} {dk : Array Nat} {os : Array Obj} {k : Nat} (hk : k < w.heap.size) (hne : k ≠ g) :
    (sortWorld enc w g off m dk os).heap[k]? = w.heap[k]? := by
  show ((w.heap.modify g (onCells (putCells enc off dk))) ++ os)[k]? = _
  rw [Array.getElem?_append, if_pos (by simpa using hk), Array.getElem?_modify, if_neg (fun e => hne e.symm)]
theorem sw_grown (enc : Nat → Value) (w : World) (g off m : Nat) (dk : Array Nat) (os : Array Obj) : w.grownBy (sortWorld enc w g off m dk os) (some g) :=
  ⟨rfl, rfl, rfl, by
    show w.heap.size ≤ ((w.heap.modify g (onCells (putCells enc off dk))) ++ os).size
    simp, fun k hk hne => sw_other hk (fun e => hne (by rw [e]))⟩
theorem Row.sw {enc : Nat → Value} {w : World} {g cap off m : Nat} {dk : Array Nat} {os : Array Obj} {F : Nat → Value} (h : Row w g cap 3 F) :
    Row (sortWorld enc w g off m dk os) g cap 3 (fun k => if off ≤ k ∧ k < off + dk.size then enc dk[k - off]! else F k) := by
  obtain ⟨arr, h1, h2, h3⟩ := h
  refine ⟨_, sw_block h1, by simp [putCells, h2], fun t ht => ?_⟩
  simp only [putCells, Array.getElem?_mapIdx, h3 t ht, Option.map_some]

end Go.Proofs.Qxb6602415a
