/-
  The plain law: in a stable order a member repeats an earlier key just if its neighbour ahead has its key. No Go in sight.
-/
import Derived.Test.Qxb6602415aKeys
import Derived.Test.Qxb6602415aMembers
namespace Go.Proofs.Qxb6602415a

/-- What a stable order of 0 .. n-1 by their keys is. -/
structure Order (o : Int) (ks : Nat → ByteArray) (n : Nat) (f : Nat → Nat) : Prop where
  lt : ∀ t, t < n → f t < n
  inj : ∀ t u, t < n → u < n → f t = f u → t = u
  sur : ∀ i, i < n → ∃ t, t < n ∧ f t = i
  up : ∀ t u, t < u → u < n → Pl.before (ltK o ks) (f t) (f u) = true

theorem seg_getElem? {f : Nat → Nat} {n t : Nat} (h : t < n) : (Pl.seg f 0 n)[t]? = some (f t) := by
  rw [List.getElem?_eq_getElem (by rw [Pl.seg_length]; omega), Pl.seg_get (by omega), Nat.zero_add]

theorem order_of {o : Int} {ks : Nat → ByteArray} {n : Nat} {f : Nat → Nat} (h1 : (Pl.seg f 0 n).Perm (List.range n)) (h2 : (Pl.seg f 0 n).Pairwise (fun x y => Pl.before (ltK o ks) x y = true)) : Order o ks n f := by
  have hlen : (Pl.seg f 0 n).length = n := by rw [Pl.seg_length]; omega
  have hnd : (Pl.seg f 0 n).Nodup := h1.nodup_iff.2 List.nodup_range
  refine ⟨fun t ht => ?_, fun t u ht hu e => ?_, fun i hi => ?_, fun t u htu hu => ?_⟩
  · have : f t ∈ Pl.seg f 0 n := Pl.seg_mem.2 ⟨t, by omega, ht, rfl⟩
    exact List.mem_range.1 (h1.mem_iff.1 this)
  · have hp := List.pairwise_iff_getElem.1 hnd
    rcases Nat.lt_trichotomy t u with c | c | c
    · have := hp t u (by omega) (by omega) c
      rw [Pl.seg_get (by omega), Pl.seg_get (by omega), Nat.zero_add, Nat.zero_add] at this
      exact absurd e this
    · exact c
    · have := hp u t (by omega) (by omega) c
      rw [Pl.seg_get (by omega), Pl.seg_get (by omega), Nat.zero_add, Nat.zero_add] at this
      exact absurd e.symm this
  · have := h1.mem_iff.2 (List.mem_range.2 hi)
    obtain ⟨t, _, ht, e⟩ := Pl.seg_mem.1 this
    exact ⟨t, ht, e⟩
  · have := List.pairwise_iff_getElem.1 h2 t u (by omega) (by omega) htu
    rw [Pl.seg_get (by omega), Pl.seg_get (by omega), Nat.zero_add, Nat.zero_add] at this
    exact this

theorem before_nlt {o : Int} {ks : Nat → ByteArray} {x y : Nat} (h : Pl.before (ltK o ks) x y = true) : kb o (ks y) (ks x) = false := by
  unfold Pl.before at h
  simp only [Bool.or_eq_true, Bool.and_eq_true, Bool.not_eq_true', decide_eq_true_eq] at h
  rcases h with h | h
  · exact (swo_ltK o ks).asymm h
  · exact h.1
theorem before_eq {o : Int} {ks : Nat → ByteArray} {x y : Nat} (h : Pl.before (ltK o ks) x y = true) (e : ks x = ks y) : x ≤ y := by
  unfold Pl.before at h
  simp only [Bool.or_eq_true, Bool.and_eq_true, Bool.not_eq_true', decide_eq_true_eq] at h
  rcases h with h | h
  · unfold ltK at h; rw [e, kb_irrefl] at h; cases h
  · exact h.2

/-- The neighbour ahead has the same key. -/
def adj (ks : Nat → ByteArray) (f : Nat → Nat) (t : Nat) : Bool := decide (0 < t) && decide (ks (f t) = ks (f (t - 1)))

theorem rep_adj {o : Int} {ks : Nat → ByteArray} {n : Nat} {f : Nat → Nat} (h : Order o ks n f) {t : Nat} (ht : t < n) : rep ks (f t) = adj ks f t := by
  cases hr : rep ks (f t) with
  | true =>
    obtain ⟨j, hj, e⟩ := rep_iff.1 hr
    obtain ⟨u, hu, rfl⟩ := h.sur j (by have := h.lt t ht; omega)
    have hut : u < t := by
      rcases Nat.lt_trichotomy u t with c | c | c
      · exact c
      · subst c; omega
      · have := before_eq (h.up t u c hu) e.symm; omega
    have e2 : ks (f t) = ks (f (t - 1)) := by
      by_cases c : u = t - 1
      · rw [← c, e]
      · have b1 := before_nlt (h.up u (t - 1) (by omega) (by omega))
        have b2 := before_nlt (h.up (t - 1) t (by omega) ht)
        rw [e] at b1
        exact kb_total o _ _ b2 b1
    simp [adj, e2, show 0 < t by omega]
  | false =>
    have h0 := rep_false.1 hr
    cases ha : adj ks f t with
    | false => rfl
    | true =>
      simp only [adj, Bool.and_eq_true, decide_eq_true_eq] at ha
      have b := h.up (t - 1) t (by omega) ht
      have hle := before_eq b ha.2.symm
      have hne : f (t - 1) ≠ f t := fun c => by have := h.inj _ _ (by omega) ht c; omega
      exact absurd ha.2.symm (h0 _ (by omega))

/-- Some of the first k in the order repeats. -/
def anyAdj (ks : Nat → ByteArray) (f : Nat → Nat) (k : Nat) : Bool := (List.range k).any (adj ks f)
theorem anyAdj_succ (ks : Nat → ByteArray) (f : Nat → Nat) (k : Nat) : anyAdj ks f (k + 1) = (anyAdj ks f k || adj ks f k) := by simp [anyAdj, List.range_succ]
theorem anyAdj_one (ks : Nat → ByteArray) (f : Nat → Nat) : anyAdj ks f 1 = false := by simp [anyAdj, adj]
theorem anyAdj_all {o : Int} {ks : Nat → ByteArray} {n : Nat} {f : Nat → Nat} (h : Order o ks n f) : anyAdj ks f n = anyRep ks n := by
  rw [Bool.eq_iff_iff]
  simp only [anyAdj, anyRep, List.any_eq_true, List.mem_range]
  constructor
  · rintro ⟨t, ht, ha⟩
    exact ⟨f t, h.lt t ht, by rw [rep_adj h ht]; exact ha⟩
  · rintro ⟨i, hi, hr⟩
    obtain ⟨t, ht, rfl⟩ := h.sur i hi
    exact ⟨t, ht, by rw [← rep_adj h ht]; exact hr⟩

/-- The marks that are laid in turn: behind k of them. -/
def Laid (ks : Nat → ByteArray) (f : Nat → Nat) (n k : Nat) (R : Nat → Bool) : Prop :=
  (∀ t, t < k → t < n → R (f t) = adj ks f t) ∧ ∀ t, k ≤ t → t < n → R (f t) = false
theorem laid_start (ks : Nat → ByteArray) (f : Nat → Nat) (n : Nat) : Laid ks f n 1 (fun _ => false) :=
  ⟨fun t ht _ => by rw [show t = 0 by omega]; simp [adj], fun _ _ _ => rfl⟩
theorem laid_skip {ks : Nat → ByteArray} {f : Nat → Nat} {n k : Nat} {R : Nat → Bool} (h : Laid ks f n k R) (ha : adj ks f k = false) : Laid ks f n (k + 1) R :=
  ⟨fun t ht hn => by
    by_cases e : t = k
    · subst e; rw [ha]; exact h.2 t (Nat.le_refl _) hn
    · exact h.1 t (by omega) hn, fun t ht hn => h.2 t (by omega) hn⟩
theorem laid_put {o : Int} {ks : Nat → ByteArray} {f : Nat → Nat} {n k : Nat} {R : Nat → Bool} (hO : Order o ks n f) (h : Laid ks f n k R) (hk : k < n) (ha : adj ks f k = true) : Laid ks f n (k + 1) (fun i => if i = f k then true else R i) :=
  ⟨fun t ht hn => by
    by_cases e : t = k
    · subst e; simp [ha]
    · have : f t ≠ f k := fun c => e (hO.inj _ _ hn hk c)
      simp only [this, if_false]; exact h.1 t (by omega) hn,
   fun t ht hn => by
    have : f t ≠ f k := fun c => by have := hO.inj _ _ hn hk c; omega
    simp only [this, if_false]; exact h.2 t (by omega) hn⟩
theorem laid_end {o : Int} {ks : Nat → ByteArray} {f : Nat → Nat} {n k : Nat} {R : Nat → Bool} (hO : Order o ks n f) (h : Laid ks f n k R) (hk : n ≤ k) : ∀ i, i < n → R i = rep ks i := by
  intro i hi
  obtain ⟨t, ht, rfl⟩ := hO.sur i hi
  rw [rep_adj hO ht]; exact h.1 t (by omega) ht

end Go.Proofs.Qxb6602415a
