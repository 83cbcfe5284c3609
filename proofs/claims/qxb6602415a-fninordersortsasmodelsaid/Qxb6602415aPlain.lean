/- The plain laws: stable bottom-up merging over functions, no Go in sight. -/
namespace Go.Proofs.Qxb6602415a.Pl

/-- The stretch lo .. hi-1 of f, as a list. -/
def seg (f : Nat → Nat) (lo hi : Nat) : List Nat := (List.range' lo (hi - lo)).map f

theorem seg_nil (f : Nat → Nat) (lo hi : Nat) (h : hi ≤ lo) : seg f lo hi = [] := by
  unfold seg; rw [Nat.sub_eq_zero_of_le h]; rfl
theorem seg_cons (f : Nat → Nat) (lo hi : Nat) (h : lo < hi) : seg f lo hi = f lo :: seg f (lo + 1) hi := by
  unfold seg
  obtain ⟨d, hd⟩ : ∃ d, hi - lo = d + 1 := ⟨hi - lo - 1, by omega⟩
  have h2 : hi - (lo + 1) = d := by omega
  rw [hd, h2, List.range'_succ, List.map_cons]
theorem seg_snoc (f : Nat → Nat) (lo k : Nat) (h : lo ≤ k) : seg f lo (k + 1) = seg f lo k ++ [f k] := by
  unfold seg
  obtain ⟨d, hd⟩ : ∃ d, k - lo = d := ⟨_, rfl⟩
  have h2 : k + 1 - lo = d + 1 := by omega
  have h3 : lo + d = k := by omega
  rw [h2, hd, List.range'_concat, List.map_append]
  simp [h3]
theorem seg_length (f : Nat → Nat) (lo hi : Nat) : (seg f lo hi).length = hi - lo := by simp [seg]
theorem seg_congr {f g : Nat → Nat} {lo hi : Nat} (h : ∀ t, lo ≤ t → t < hi → f t = g t) : seg f lo hi = seg g lo hi := by
  unfold seg
  refine List.map_congr_left fun t ht => ?_
  rw [List.mem_range'_1] at ht
  exact h t (by omega) (by omega)
theorem seg_append (f : Nat → Nat) (lo mid hi : Nat) (h1 : lo ≤ mid) (h2 : mid ≤ hi) : seg f lo mid ++ seg f mid hi = seg f lo hi := by
  unfold seg
  rw [← List.map_append]
  have e : List.range' lo (mid - lo) ++ List.range' mid (hi - mid) = List.range' lo (hi - lo) := by
    have e1 : mid = lo + (mid - lo) := by omega
    have e2 : hi - lo = (mid - lo) + (hi - mid) := by omega
    rw [e2]
    conv => lhs; rhs; rw [e1]
    rw [show hi - (lo + (mid - lo)) = hi - mid from by omega]
    have h3 := List.range'_append (s := lo) (m := mid - lo) (n := hi - mid) (step := 1)
    rw [Nat.one_mul] at h3
    exact h3
  rw [e]
theorem seg_mem {f : Nat → Nat} {lo hi x : Nat} : x ∈ seg f lo hi ↔ ∃ t, lo ≤ t ∧ t < hi ∧ f t = x := by
  unfold seg
  rw [List.mem_map]
  constructor
  · rintro ⟨t, ht, rfl⟩
    rw [List.mem_range'_1] at ht
    exact ⟨t, by omega, by omega, rfl⟩
  · rintro ⟨t, h1, h2, rfl⟩
    exact ⟨t, by rw [List.mem_range'_1]; omega, rfl⟩
theorem seg_get {f : Nat → Nat} {lo hi t : Nat} (h : t < hi - lo) : (seg f lo hi)[t]'(by rw [seg_length]; exact h) = f (lo + t) := by
  simp [seg]

/-- One store. -/
def put (f : Nat → Nat) (k x : Nat) : Nat → Nat := fun t => if t = k then x else f t
theorem put_same (f : Nat → Nat) (k x : Nat) : put f k x k = x := by simp [put]
theorem put_other (f : Nat → Nat) (k x t : Nat) (h : t ≠ k) : put f k x t = f t := by simp [put, h]

/-- What the inner loop holds at k: what is written so far, and what is still to be merged, make up the merge. -/
def Merging (le : Nat → Nat → Bool) (A B : Nat → Nat) (lo mid hi i j k : Nat) : Prop :=
  seg B lo k ++ (seg A i mid).merge (seg A j hi) le = (seg A lo mid).merge (seg A mid hi) le

theorem merging_start (le : Nat → Nat → Bool) (A B : Nat → Nat) (lo mid hi : Nat) : Merging le A B lo mid hi lo mid lo := by
  unfold Merging; rw [seg_nil B lo lo (Nat.le_refl _)]; rfl

theorem merging_left {le : Nat → Nat → Bool} {A B : Nat → Nat} {lo mid hi i j k : Nat} (h : Merging le A B lo mid hi i j k) (hk : lo ≤ k) (hi' : i < mid)
    (hj : hi ≤ j ∨ le (A i) (A j) = true) : Merging le A (put B k (A i)) lo mid hi (i + 1) j (k + 1) := by
  unfold Merging at *
  rw [← h, seg_snoc _ _ _ hk, put_same, seg_congr (g := B) (fun t _ ht => put_other _ _ _ _ (by omega)), List.append_assoc]
  congr 1
  rw [seg_cons A i mid hi']
  by_cases hj' : hi ≤ j
  · rw [seg_nil A j hi hj', List.merge_right, List.merge_right]; rfl
  · have hle := hj.resolve_left hj'
    rw [seg_cons A j hi (by omega), List.cons_merge_cons, if_pos hle]; rfl

theorem merging_right {le : Nat → Nat → Bool} {A B : Nat → Nat} {lo mid hi i j k : Nat} (h : Merging le A B lo mid hi i j k) (hk : lo ≤ k) (hj : j < hi)
    (hi' : mid ≤ i ∨ le (A i) (A j) = false) : Merging le A (put B k (A j)) lo mid hi i (j + 1) (k + 1) := by
  unfold Merging at *
  rw [← h, seg_snoc _ _ _ hk, put_same, seg_congr (g := B) (fun t _ ht => put_other _ _ _ _ (by omega)), List.append_assoc]
  congr 1
  rw [seg_cons A j hi hj]
  by_cases hm : mid ≤ i
  · rw [seg_nil A i mid hm, List.nil_merge, List.nil_merge]; rfl
  · have hle := hi'.resolve_left hm
    rw [seg_cons A i mid (by omega), List.cons_merge_cons, if_neg (by simp [hle])]; rfl

theorem merging_end {le : Nat → Nat → Bool} {A B : Nat → Nat} {lo mid hi i j k : Nat} (h : Merging le A B lo mid hi i j k) (h1 : mid ≤ i) (h2 : hi ≤ j) (h3 : k = hi) :
    seg B lo hi = (seg A lo mid).merge (seg A mid hi) le := by
  unfold Merging at h
  rw [seg_nil A i mid h1, seg_nil A j hi h2, List.merge_right, List.append_nil, h3] at h
  exact h

/-- The order of a stable sort: by lt, and among those that lt does not part by their number. -/
def before (lt : Nat → Nat → Bool) (x y : Nat) : Bool := lt x y || (!lt y x && decide (x ≤ y))

structure Swo (lt : Nat → Nat → Bool) : Prop where
  irrefl : ∀ x, lt x x = false
  trans : ∀ x y z, lt x y = true → lt y z = true → lt x z = true
  ntrans : ∀ x y z, lt x y = false → lt y z = false → lt x z = false

theorem Swo.asymm {lt : Nat → Nat → Bool} (h : Swo lt) {x y : Nat} (hxy : lt x y = true) : lt y x = false := by
  cases e : lt y x with
  | false => rfl
  | true => have := h.trans x y x hxy e; rw [h.irrefl] at this; cases this

theorem before_trans {lt : Nat → Nat → Bool} (h : Swo lt) (a b c : Nat) (h1 : before lt a b = true) (h2 : before lt b c = true) : before lt a c = true := by
  unfold before at *
  simp only [Bool.or_eq_true, Bool.and_eq_true, Bool.not_eq_true', decide_eq_true_eq] at *
  rcases h1 with h1 | ⟨h1, h1'⟩
  · rcases h2 with h2 | ⟨h2, _⟩
    · exact .inl (h.trans _ _ _ h1 h2)
    · left
      cases e : lt a c with
      | true => rfl
      | false => have := h.ntrans a c b e h2; rw [h1] at this; cases this
  · rcases h2 with h2 | ⟨h2, h2'⟩
    · left
      cases e : lt a c with
      | true => rfl
      | false => have := h.ntrans b a c h1 e; rw [h2] at this; cases this
    · exact .inr ⟨h.ntrans _ _ _ h2 h1, by omega⟩

theorem before_total {lt : Nat → Nat → Bool} (a b : Nat) : (before lt a b || before lt b a) = true := by
  unfold before
  cases lt a b <;> cases lt b a <;> simp <;> omega

/-- One stretch, sorted. -/
def Blk (lt : Nat → Nat → Bool) (f : Nat → Nat) (lo hi : Nat) : Prop :=
  (seg f lo hi).Perm (List.range' lo (hi - lo)) ∧ (seg f lo hi).Pairwise (fun a b => before lt a b = true)

theorem merge_congr {le le' : Nat → Nat → Bool} (xs : List Nat) : ∀ (ys : List Nat), (∀ x ∈ xs, ∀ y ∈ ys, le x y = le' x y) → xs.merge ys le = xs.merge ys le' := by
  induction xs with
  | nil => intro ys _; rw [List.nil_merge, List.nil_merge]
  | cons x xs ihx =>
    intro ys
    induction ys with
    | nil => intro _; rw [List.merge_right, List.merge_right]
    | cons y ys ihy =>
      intro h
      rw [List.cons_merge_cons, List.cons_merge_cons, h x (by simp) y (by simp)]
      rw [ihx (y :: ys) (fun a ha b hb => h a (by simp [ha]) b hb), ihy (fun a ha b hb => h a ha b (by simp [hb]))]

theorem blk_merge {lt : Nat → Nat → Bool} (hO : Swo lt) {A B : Nat → Nat} {lo mid hi : Nat} (h1 : lo ≤ mid) (h2 : mid ≤ hi) (hl : Blk lt A lo mid) (hr : Blk lt A mid hi)
    (hB : seg B lo hi = (seg A lo mid).merge (seg A mid hi) (fun x y => !lt y x)) : Blk lt B lo hi := by
  have e : (seg A lo mid).merge (seg A mid hi) (fun x y => !lt y x) = (seg A lo mid).merge (seg A mid hi) (before lt) := by
    refine merge_congr _ _ fun x hx y hy => ?_
    have hx' := hl.1.mem_iff.1 hx
    have hy' := hr.1.mem_iff.1 hy
    rw [List.mem_range'_1] at hx' hy'
    unfold before
    have : x ≤ y := by omega
    cases h3 : lt y x with
    | false => simp [this]
    | true => simp [hO.asymm h3]
  rw [e] at hB
  refine ⟨?_, ?_⟩
  · rw [hB]
    refine (List.merge_perm_append _).trans ?_
    have := hl.1.append hr.1
    refine this.trans ?_
    have e2 : List.range' lo (mid - lo) ++ List.range' mid (hi - mid) = List.range' lo (hi - lo) := by
      have := seg_append id lo mid hi h1 h2
      simpa [seg] using this
    rw [e2]
  · rw [hB]
    exact List.pairwise_merge (before_trans hO) before_total _ _ hl.2 hr.2

/-- Every stretch of the width W is sorted. -/
def Sorted (lt : Nat → Nat → Bool) (f : Nat → Nat) (n W : Nat) : Prop := ∀ c, c * W < n → Blk lt f (c * W) (min (c * W + W) n)
/-- .. the first c of them. -/
def SortedTo (lt : Nat → Nat → Bool) (f : Nat → Nat) (n W c : Nat) : Prop := ∀ d, d < c → d * W < n → Blk lt f (d * W) (min (d * W + W) n)

theorem sorted_one (lt : Nat → Nat → Bool) (n : Nat) (f : Nat → Nat) (hf : ∀ t, t < n → f t = t) : Sorted lt f n 1 := by
  intro c hc
  have e : min (c * 1 + 1) n = c + 1 := by omega
  rw [e]
  have e2 : c * 1 = c := by omega
  rw [e2, Blk, seg_cons f c (c + 1) (by omega), seg_nil f (c + 1) (c + 1) (by omega), hf c (by omega)]
  have e3 : c + 1 - c = 1 := by omega
  rw [e3]
  exact ⟨by simp [List.range'], by simp⟩

theorem sortedTo_zero (lt : Nat → Nat → Bool) (f : Nat → Nat) (n W : Nat) : SortedTo lt f n W 0 := fun d hd => absurd hd (by omega)

theorem blk_congr {lt : Nat → Nat → Bool} {f g : Nat → Nat} {lo hi : Nat} (h : ∀ t, lo ≤ t → t < hi → f t = g t) (hb : Blk lt f lo hi) : Blk lt g lo hi := by
  unfold Blk at *
  rw [← seg_congr h]; exact hb

theorem sorted_of_to {lt : Nat → Nat → Bool} {f : Nat → Nat} {n W c : Nat} (h : SortedTo lt f n W c) (hc : n ≤ c * W) : Sorted lt f n W := by
  intro d hd
  refine h d ?_ hd
  refine Nat.lt_of_not_le fun hle => ?_
  have := Nat.mul_le_mul_right W hle
  omega

/-- One more stretch of the width 2W, merged out of two of the width W. -/
theorem sortedTo_succ {lt : Nat → Nat → Bool} (hO : Swo lt) {A B B' : Nat → Nat} {n W c : Nat} (hA : Sorted lt A n W) (hW : 0 < W) (hB : SortedTo lt B n (2 * W) c) (hc : c * (2 * W) < n)
    (hkeep : ∀ t, t < c * (2 * W) → B' t = B t)
    (hm : seg B' (c * (2 * W)) (min (c * (2 * W) + 2 * W) n) = (seg A (c * (2 * W)) (min (c * (2 * W) + W) n)).merge (seg A (min (c * (2 * W) + W) n) (min (c * (2 * W) + 2 * W) n)) (fun x y => !lt y x)) :
    SortedTo lt B' n (2 * W) (c + 1) := by
  intro d hd hdn
  by_cases hdc : d < c
  · have h1 : (d + 1) * (2 * W) ≤ c * (2 * W) := Nat.mul_le_mul_right _ hdc
    rw [Nat.add_mul, Nat.one_mul] at h1
    exact blk_congr (fun t _ ht => (hkeep t (by omega)).symm) (hB d hdc hdn)
  · obtain rfl : d = c := by omega
    have e0 : d * (2 * W) = (2 * d) * W := by rw [Nat.mul_comm 2 d, Nat.mul_assoc]
    have e1 : (2 * d + 1) * W = d * (2 * W) + W := by rw [Nat.add_mul, Nat.one_mul, e0]
    have hl := hA (2 * d) (by omega)
    rw [← e0] at hl
    by_cases hmid : d * (2 * W) + W < n
    · have hr := hA (2 * d + 1) (by omega)
      rw [e1] at hr
      have e2 : min (d * (2 * W) + W + W) n = min (d * (2 * W) + 2 * W) n := by congr 1; omega
      rw [e2] at hr
      have e3 : min (d * (2 * W) + W) n = d * (2 * W) + W := by omega
      rw [e3] at hm hl
      exact blk_merge hO (by omega) (by omega) hl hr hm
    · have e3 : min (d * (2 * W) + W) n = n := by omega
      have e4 : min (d * (2 * W) + 2 * W) n = n := by omega
      rw [e3] at hm hl
      rw [e4] at hm ⊢
      rw [seg_nil A n n (Nat.le_refl _), List.merge_right] at hm
      unfold Blk at hl ⊢
      rw [hm]; exact hl

/-- The end: one stretch. -/
theorem sorted_end {lt : Nat → Nat → Bool} {f : Nat → Nat} {n W : Nat} (h : Sorted lt f n W) (hW : n ≤ W) : (seg f 0 n).Perm (List.range n) ∧ (seg f 0 n).Pairwise (fun a b => before lt a b = true) := by
  by_cases hn : n = 0
  · subst hn; simp [seg]
  · have := h 0 (by omega)
    have e : min (0 * W + W) n = n := by omega
    rw [e, Nat.zero_mul] at this
    unfold Blk at this
    rw [Nat.sub_zero, ← List.range_eq_range'] at this
    exact this
theorem sorted_lt {lt : Nat → Nat → Bool} {f : Nat → Nat} {n W t : Nat} (h : Sorted lt f n W) (hW : 0 < W) (ht : t < n) : f t < n := by
  have hd := Nat.div_add_mod t W
  have hm := Nat.mod_lt t hW
  rw [Nat.mul_comm] at hd
  have hc := (h (t / W) (by omega)).1
  have hin : f t ∈ seg f (t / W * W) (min (t / W * W + W) n) := seg_mem.2 ⟨t, by omega, by omega, rfl⟩
  have := hc.mem_iff.1 hin
  rw [List.mem_range'_1] at this
  omega

end Go.Proofs.Qxb6602415a.Pl
