/-
  The order of keys, in plain words: 'kb o x y'. No Go text in sight.
-/
import Derived.WalkKit
import Derived.Test.Qxb6602415aPlain
namespace Go.Proofs.Qxb6602415a

/-- By the bytes. -/
def bl (x y : ByteArray) : Bool := Op.bytesLess x.toList y.toList
/-- The documented order: where o is 1 a shorter key comes first. -/
def kb (o : Int) (x y : ByteArray) : Bool := if o = 1 ∧ x.size ≠ y.size then decide (x.size < y.size) else bl x y

theorem key_list (x : ByteArray) : x.toList = x.data.toList := ByteArray.toList_eq x
theorem key_size (x : ByteArray) : x.toList.length = x.size := by rw [key_list]; rfl
theorem key_ext {x y : ByteArray} (h : x.toList = y.toList) : x = y := by
  rw [key_list, key_list] at h
  exact ByteArray.ext (Array.toList_inj.1 h)
theorem key_beq (x y : ByteArray) : (x.toList == y.toList) = decide (x = y) := by
  by_cases h : x = y
  · simp [h]
  · have : ¬ x.toList = y.toList := fun e => h (key_ext e)
    simp [h, this]

theorem key_drop (x : ByteArray) (k : Nat) (h : k < x.size) : x.toList.drop k = x[k] :: x.toList.drop (k + 1) := by
  rw [key_list]
  have h' : k < x.data.toList.length := by rw [Array.length_toList]; exact h
  rw [List.drop_eq_getElem_cons h']
  rfl
theorem key_drop_end (x : ByteArray) (k : Nat) (h : x.size ≤ k) : x.toList.drop k = [] :=
  List.drop_eq_nil_of_le (by rw [key_size]; exact h)

theorem key_same {x y : ByteArray} (hs : x.size = y.size) (h : ∀ k (h1 : k < x.size) (h2 : k < y.size), x[k] = y[k]) : x = y := by
  refine ByteArray.ext (Array.ext hs fun i h1 h2 => ?_)
  exact h i h1 h2

theorem bless_irrefl : ∀ l, Op.bytesLess l l = false
  | [] => rfl
  | a :: l => by rw [Op.bytesLess, bless_irrefl l]; simp
theorem bless_trans : ∀ (a b c : List UInt8), Op.bytesLess a b = true → Op.bytesLess b c = true → Op.bytesLess a c = true
  | _, _, [], _, h => by simp [Op.bytesLess] at h
  | _, [], _ :: _, h, _ => by simp [Op.bytesLess] at h
  | [], _ :: _, _ :: _, _, _ => by simp [Op.bytesLess]
  | x :: a, y :: b, z :: c, h1, h2 => by
    have ih := bless_trans a b c
    simp only [Op.bytesLess, Bool.or_eq_true, decide_eq_true_eq, Bool.and_eq_true, beq_iff_eq, UInt8.lt_iff_toNat_lt] at *
    rcases h1 with h1 | ⟨rfl, h1⟩
    · rcases h2 with h2 | ⟨rfl, h2⟩
      · left; omega
      · left; exact h1
    · rcases h2 with h2 | ⟨rfl, h2⟩
      · left; exact h2
      · right; exact ⟨rfl, ih h1 h2⟩
theorem bless_total : ∀ (a b : List UInt8), Op.bytesLess a b = false → Op.bytesLess b a = false → a = b
  | [], [], _, _ => rfl
  | _ :: _, [], _, h => by simp [Op.bytesLess] at h
  | [], _ :: _, h, _ => by simp [Op.bytesLess] at h
  | x :: a, y :: b, h1, h2 => by
    have ih := bless_total a b
    simp only [Op.bytesLess, Bool.or_eq_false_iff, decide_eq_false_iff_not, Bool.and_eq_false_iff, beq_eq_false_iff_ne, UInt8.lt_iff_toNat_lt] at h1 h2
    have e : x = y := UInt8.toNat_inj.1 (by omega)
    subst e
    rw [ih (by simpa using h1.2) (by simpa using h2.2)]

theorem kb_irrefl (o : Int) (x : ByteArray) : kb o x x = false := by simp [kb, bl, bless_irrefl]
theorem kb_total (o : Int) (x y : ByteArray) (h1 : kb o x y = false) (h2 : kb o y x = false) : x = y := by
  unfold kb at h1 h2
  by_cases hs : x.size = y.size
  · rw [if_neg (by simp [hs])] at h1 h2
    exact key_ext (bless_total _ _ h1 h2)
  · by_cases ho : o = 1
    · rw [if_pos ⟨ho, hs⟩] at h1
      rw [if_pos ⟨ho, fun e => hs e.symm⟩] at h2
      simp at h1 h2
      omega
    · rw [if_neg (by simp [ho])] at h1 h2
      exact key_ext (bless_total _ _ h1 h2)
theorem kb_trans (o : Int) (x y z : ByteArray) (h1 : kb o x y = true) (h2 : kb o y z = true) : kb o x z = true := by
  unfold kb at *
  by_cases ho : o = 1
  · by_cases h3 : x.size = y.size
    · by_cases h4 : y.size = z.size
      · rw [if_neg (by simp [h3])] at h1
        rw [if_neg (by simp [h4])] at h2
        rw [if_neg (by simp [h3, h4])]
        exact bless_trans _ _ _ h1 h2
      · rw [if_pos ⟨ho, h4⟩] at h2
        rw [if_pos ⟨ho, by omega⟩, h3]
        exact h2
    · rw [if_pos ⟨ho, h3⟩] at h1
      simp at h1
      by_cases h4 : y.size = z.size
      · rw [if_pos ⟨ho, by omega⟩]; simp; omega
      · rw [if_pos ⟨ho, h4⟩] at h2
        simp at h2
        rw [if_pos ⟨ho, by omega⟩]; simp; omega
  · rw [if_neg (by simp [ho])] at *
    exact bless_trans _ _ _ h1 h2
theorem kb_ntrans (o : Int) (x y z : ByteArray) (h1 : kb o x y = false) (h2 : kb o y z = false) : kb o x z = false := by
  cases h : kb o x z with
  | false => rfl
  | true =>
    cases h3 : kb o y x with
    | false => rw [kb_total o x y h1 h3] at h; rw [h2] at h; cases h
    | true => have := kb_trans o y x z h3 h; rw [h2] at this; cases this

/-- The same order over places: by the keys that lie there. -/
def ltK (o : Int) (ks : Nat → ByteArray) (i j : Nat) : Bool := kb o (ks i) (ks j)
theorem swo_ltK (o : Int) (ks : Nat → ByteArray) : Pl.Swo (ltK o ks) :=
  ⟨fun _ => kb_irrefl o _, fun _ _ _ => kb_trans o _ _ _, fun _ _ _ => kb_ntrans o _ _ _⟩

end Go.Proofs.Qxb6602415a
