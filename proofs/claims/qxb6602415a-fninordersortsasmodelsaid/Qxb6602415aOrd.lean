/-
  Orders of 0 .. n-1, in plain words: what inOrder may give; insertion, one at a time; two orders read alike. No Go text in sight.
-/
import Derived.Test.Qxb6602415aRepeats
namespace Go.Proofs.Qxb6602415a

/-- A sorted order, stable or not. -/
structure SOrd (o : Int) (ks : Nat → ByteArray) (n : Nat) (f : Nat → Nat) : Prop where
  lt : ∀ t, t < n → f t < n
  inj : ∀ t u, t < n → u < n → f t = f u → t = u
  sur : ∀ i, i < n → ∃ t, t < n ∧ f t = i
  up : ∀ t u, t < u → u < n → kb o (ks (f u)) (ks (f t)) = false

theorem Order.sord {o : Int} {ks : Nat → ByteArray} {n : Nat} {f : Nat → Nat} (h : Order o ks n f) : SOrd o ks n f :=
  ⟨h.lt, h.inj, h.sur, fun t u htu hu => before_nlt (h.up t u htu hu)⟩

theorem SOrd.perm {o : Int} {ks : Nat → ByteArray} {n : Nat} {f : Nat → Nat} (h : SOrd o ks n f) : ((List.range n).map f).Perm (List.range n) := by
  have hnd : ((List.range n).map f).Nodup := by
    refine List.pairwise_iff_getElem.2 fun i j hi hj hij => ?_
    simp only [List.length_map, List.length_range] at hi hj
    simp only [List.getElem_map, List.getElem_range]
    intro e
    have := h.inj i j hi hj e
    omega
  refine (List.perm_ext_iff_of_nodup hnd List.nodup_range).2 fun x => ?_
  simp only [List.mem_map, List.mem_range]
  constructor
  · rintro ⟨t, ht, rfl⟩; exact h.lt t ht
  · intro hx; obtain ⟨t, ht, e⟩ := h.sur x hx; exact ⟨t, ht, e⟩

/-- Two orders by the same keys: position by position the keys are the same. -/
theorem SOrd.keys {o : Int} {ks : Nat → ByteArray} {n : Nat} {f g : Nat → Nat} (hf : SOrd o ks n f) (hg : SOrd o ks n g) : ∀ t, t < n → ks (f t) = ks (g t) := by
  have key : ∀ {f}, SOrd o ks n f → ((List.range n).map fun t => ks (f t)).Pairwise (fun x y => kb o y x = false) := by
    intro f hf
    refine List.pairwise_iff_getElem.2 fun i j hi hj hij => ?_
    simp only [List.length_map, List.length_range] at hi hj
    simp only [List.getElem_map, List.getElem_range]
    exact hf.up i j hij hj
  have e1 : ∀ f : Nat → Nat, ((List.range n).map fun t => ks (f t)) = ((List.range n).map f).map ks := fun f => by rw [List.map_map]; rfl
  have hp : ((List.range n).map fun t => ks (f t)).Perm ((List.range n).map fun t => ks (g t)) := by
    rw [e1, e1]
    exact (hf.perm.map ks).trans (hg.perm.map ks).symm
  have he := List.Perm.eq_of_pairwise (le := fun x y => kb o y x = false) (fun a b _ _ h1 h2 => kb_total o a b h2 h1) (key hf) (key hg) hp
  intro t ht
  have h2 := congrArg (fun l => l[t]?) he
  simpa [ht] using h2

/-- A stable order is one of a kind. -/
theorem Order.uniq {o : Int} {ks : Nat → ByteArray} {n : Nat} {f g : Nat → Nat} (hf : Order o ks n f) (hg : Order o ks n g) : ∀ t, t < n → f t = g t := by
  have key : ∀ {f}, Order o ks n f → ((List.range n).map f).Pairwise (fun x y => Pl.before (ltK o ks) x y = true) := by
    intro f hf
    refine List.pairwise_iff_getElem.2 fun i j hi hj hij => ?_
    simp only [List.length_map, List.length_range] at hi hj
    simp only [List.getElem_map, List.getElem_range]
    exact hf.up i j hij hj
  have he := List.Perm.eq_of_pairwise (le := fun x y => Pl.before (ltK o ks) x y = true) (fun a b _ _ h1 h2 => by
      have e : ks a = ks b := kb_total o _ _ (before_nlt h2) (before_nlt h1)
      have := before_eq h1 e
      have := before_eq h2 e.symm
      omega) (key hf) (key hg) (hf.sord.perm.trans hg.sord.perm.symm)
  intro t ht
  have h2 := congrArg (fun l => l[t]?) he
  simpa [ht] using h2

/-- There is a stable order. -/
theorem order_ex (o : Int) (ks : Nat → ByteArray) (n : Nat) : ∃ g, Order o ks n g := by
  have h1 := List.mergeSort_perm (List.range n) (Pl.before (ltK o ks))
  have h2 := List.pairwise_mergeSort (Pl.before_trans (swo_ltK o ks)) Pl.before_total (List.range n)
  generalize (List.range n).mergeSort (Pl.before (ltK o ks)) = l at h1 h2
  have hlen : l.length = n := by rw [h1.length_eq, List.length_range]
  have e : Pl.seg (fun t => l.getD t 0) 0 n = l := by
    refine List.ext_getElem (by rw [Pl.seg_length, hlen]; omega) fun i hi hi' => ?_
    rw [Pl.seg_length] at hi
    rw [Pl.seg_get (by omega), Nat.zero_add]
    simp [hi']
  exact ⟨fun t => l.getD t 0, order_of (by rw [e]; exact h1) (by rw [e]; exact h2)⟩

/-- k laid at place j of f. -/
def ins (f : Nat → Nat) (k j : Nat) : Nat → Nat := fun t => if t < j then f t else if t = j then k else f (t - 1)

theorem ins_end (f : Nat → Nat) (k : Nat) (t : Nat) (ht : t ≤ k) : ins f k k t = if t = k then k else f t := by
  unfold ins
  by_cases h : t < k
  · simp [h, show t ≠ k by omega]
  · simp [show t = k by omega]

/-- One step down. -/
theorem ins_step (f : Nat → Nat) (k j : Nat) (hj : 0 < j) (t : Nat) : ins f k (j - 1) t = if t = j then ins f k j (j - 1) else if t = j - 1 then ins f k j j else ins f k j t := by
  unfold ins
  by_cases h1 : t = j
  · subst h1; simp [show ¬ t < t - 1 by omega, show t ≠ t - 1 by omega, show t - 1 < t by omega]
  · by_cases h2 : t = j - 1
    · subst h2; simp [h1]
    · by_cases h3 : t < j - 1
      · simp [h1, h2, h3, show t < j by omega]
      · simp [h1, h2, h3, show ¬ t < j by omega]

theorem order_ins {o : Int} {ks : Nat → ByteArray} {k j : Nat} {f : Nat → Nat} (h : Order o ks k f) (hj : j ≤ k) (hr : ∀ t, j ≤ t → t < k → kb o (ks k) (ks (f t)) = true)
    (hl : 0 < j → kb o (ks k) (ks (f (j - 1))) = false) : Order o ks (k + 1) (ins f k j) := by
  have hll : ∀ t, t < j → kb o (ks k) (ks (f t)) = false := by
    intro t ht
    by_cases e : t = j - 1
    · rw [e]; exact hl (by omega)
    · exact kb_ntrans o _ _ _ (hl (by omega)) (before_nlt (h.up t (j - 1) (by omega) (by omega)))
  refine ⟨fun t ht => ?_, fun t u ht hu e => ?_, fun i hi => ?_, fun t u htu hu => ?_⟩
  · unfold ins
    by_cases h1 : t < j
    · simp only [h1, if_true]; have := h.lt t (by omega); omega
    · by_cases h2 : t = j
      · simp [h2]
      · simp only [h1, h2, if_false]; have := h.lt (t - 1) (by omega); omega
  · unfold ins at e
    have a1 := fun x (hx : x < k) => h.lt x hx
    by_cases h1 : t < j <;> by_cases h2 : u < j
    · simp only [h1, h2, if_true] at e; exact h.inj t u (by omega) (by omega) e
    · simp only [h1, h2, if_true, if_false] at e
      by_cases h3 : u = j
      · simp only [h3, if_true] at e; have := a1 t (by omega); omega
      · simp only [h3, if_false] at e; have := h.inj t (u - 1) (by omega) (by omega) e; omega
    · simp only [h1, h2, if_true, if_false] at e
      by_cases h3 : t = j
      · simp only [h3, if_true] at e; have := a1 u (by omega); omega
      · simp only [h3, if_false] at e; have := h.inj (t - 1) u (by omega) (by omega) e; omega
    · simp only [h1, h2, if_false] at e
      by_cases h3 : t = j <;> by_cases h4 : u = j
      · omega
      · simp only [h3, h4, if_true, if_false] at e; have := a1 (u - 1) (by omega); omega
      · simp only [h3, h4, if_true, if_false] at e; have := a1 (t - 1) (by omega); omega
      · simp only [h3, h4, if_false] at e; have := h.inj (t - 1) (u - 1) (by omega) (by omega) e; omega
  · by_cases hik : i = k
    · exact ⟨j, by omega, by simp [ins, hik]⟩
    · obtain ⟨t, ht, e⟩ := h.sur i (by omega)
      by_cases h1 : t < j
      · exact ⟨t, by omega, by simp [ins, h1, e]⟩
      · exact ⟨t + 1, by omega, by simp [ins, show ¬ t + 1 < j by omega, show t + 1 ≠ j by omega, e]⟩
  · have bef : ∀ x, kb o (ks k) (ks (f x)) = false → x < k → Pl.before (ltK o ks) (f x) k = true := by
      intro x hx hxk
      unfold Pl.before ltK
      have := h.lt x hxk
      simp [hx]; omega
    unfold ins
    by_cases h2 : u < j
    · simp only [show t < j by omega, h2, if_true]; exact h.up t u htu (by omega)
    · by_cases h3 : u = j
      · simp only [show t < j by omega, h3, if_true, Nat.lt_irrefl, if_false]; exact bef t (hll t (by omega)) (by omega)
      · simp only [h2, h3, if_false]
        by_cases h4 : t < j
        · simp only [h4, if_true]; exact h.up t (u - 1) (by omega) (by omega)
        · by_cases h5 : t = j
          · simp only [h5, if_true, Nat.lt_irrefl, if_false]
            unfold Pl.before ltK
            rw [hr (u - 1) (by omega) (by omega)]; rfl
          · simp only [h4, h5, if_false]; exact h.up (t - 1) (u - 1) (by omega) (by omega)

theorem order_nil (o : Int) (ks : Nat → ByteArray) (f : Nat → Nat) : Order o ks 0 f :=
  ⟨fun _ h => absurd h (by omega), fun _ _ h => absurd h (by omega), fun _ h => absurd h (by omega), fun _ _ _ h => absurd h (by omega)⟩
theorem Order.congr {o : Int} {ks : Nat → ByteArray} {n : Nat} {f g : Nat → Nat} (h : Order o ks n f) (e : ∀ t, t < n → f t = g t) : Order o ks n g :=
  ⟨fun t ht => by rw [← e t ht]; exact h.lt t ht, fun t u ht hu hh => h.inj t u ht hu (by rw [e t ht, e u hu]; exact hh), fun i hi => by
    obtain ⟨t, ht, h2⟩ := h.sur i hi; exact ⟨t, ht, by rw [← e t ht]; exact h2⟩, fun t u htu hu => by rw [← e t (by omega), ← e u hu]; exact h.up t u htu hu⟩

end Go.Proofs.Qxb6602415a
