/-
  The marks of a Grades in memory: chunks of 4096, each a block of its own. No Go text in sight.
-/
import Derived.Test.Qxb6000508aBase
import Derived.Maps.AppendAt
import Derived.Laws.IdiomCopy
namespace Go.Proofs.Qxb6000508a
open Go.RowKit

/-- Of w's blocks only those of S have turned. -/
structure Turns (w w' : World) (S : Nat → Prop) : Prop where
  os : w'.os = w.os
  tape : w'.tape = w.tape
  output : w'.output = w.output
  size : w.heap.size ≤ w'.heap.size
  block : ∀ b, b < w.heap.size → ¬ S b → w'.heap[b]? = w.heap[b]?

theorem Turns.refl (w : World) (S : Nat → Prop) : Turns w w S := ⟨rfl, rfl, rfl, Nat.le_refl _, fun _ _ _ => rfl⟩
theorem Turns.trans {a b c : World} {S S' : Nat → Prop} (h : Turns a b S) (k : Turns b c S') (hS : ∀ x, S' x → S x ∨ a.heap.size ≤ x) : Turns a c S :=
  ⟨k.os.trans h.os, k.tape.trans h.tape, k.output.trans h.output, Nat.le_trans h.size k.size, fun x hx hn => (k.block x (Nat.lt_of_lt_of_le hx h.size) (fun c => by
    rcases hS x c with c | c
    · exact hn c
    · omega)).trans (h.block x hx hn)⟩
theorem Turns.mono {a b : World} {S S' : Nat → Prop} (h : Turns a b S) (hS : ∀ x, S x → S' x) : Turns a b S' := ⟨h.os, h.tape, h.output, h.size, fun x hx hn => h.block x hx (fun c => hn (hS x c))⟩
theorem Turns.drewN {a b : World} {S : Nat → Prop} (h : Turns a b S) (q : Nat) : Turns a (b.drewN q) S := ⟨h.os, h.tape, h.output, h.size, h.block⟩
theorem Turns.alloc {a b : World} {S : Nat → Prop} (h : Turns a b S) (o : Obj) : Turns a (b.alloc o) S :=
  ⟨h.os, h.tape, h.output, by have := h.size; simp; omega, fun x hx hn => (Below.heap_alloc b o x (Nat.lt_of_lt_of_le hx h.size)).trans (h.block x hx hn)⟩
theorem Turns.setCell {a b : World} {S : Nat → Prop} (h : Turns a b S) (k i : Nat) (v : Value) (hk : S k ∨ a.heap.size ≤ k) : Turns a (b.setCell ⟨k, i, none⟩ v) S :=
  ⟨h.os, h.tape, h.output, by simpa using h.size, fun x hx hn => (Below.heap_setCell b ⟨k, i, none⟩ v x (fun e => by
    rcases hk with hk | hk
    · exact hn (by rw [show x = k from e]; exact hk)
    · have : x = k := e
      omega)).trans (h.block x hx hn)⟩
theorem Turns.of_grown {w w' : World} {r : Option Nat} (h : w.grownBy w' r) : Turns w w' (fun b => r = some b) :=
  ⟨h.os, h.tape, h.output, h.size, fun b hb hn => h.block b hb (fun e => hn e.symm)⟩
theorem Turns.below {w w' : World} {S : Nat → Prop} (h : Turns w w' S) {B : Nat} (hB : B ≤ w.heap.size) (hS : ∀ x, S x → B ≤ x) : Below B w w' :=
  ⟨h.os, h.tape, h.output, h.size, fun k hk => h.block k (by omega) (fun c => by have := hS k c; omega)⟩
theorem Turns.row {w w' : World} {S : Nat → Prop} (h : Turns w w' S) {b n : Nat} {e : TypeId} {f : Nat → Value} (hr : Row w b n e f) (hb : ¬ S b) : Row w' b n e f := hr.of_block (h.block b hr.lt hb)

/-- One mark. -/
structure Mk where
  l : Int
  y : Int
  t : Int
  x : Int
def fld (m : Mk) : Nat → Value
  | 0 => .int .i32 m.l
  | 1 => .int .i16 m.y
  | 2 => .int .i32 m.t
  | _ => .int .i32 m.x

/-- How long chunk c of C is, the last one being r long. -/
def lenf (C r c : Nat) : Nat := if c + 1 < C then 4096 else r
def chunkv (blk : Nat → Nat) (C r c : Nat) : Value := .slice (some ⟨blk c, 0, none⟩) (lenf C r c) 4096

/-- v is the slice of C chunks, chunk c in block blk c, the last one r long; mark i is f i. All of it lies from block B on. -/
structure GM (w : World) (B : Nat) (v : Value) (C r : Nat) (f : Nat → Mk) (blk : Nat → Nat) : Prop where
  own : w.ownsRow B 65 1 v C ((List.range C).map (chunkv blk C r))
  rows : ∀ c, c < C → ∃ F, Row w (blk c) 16384 54 F ∧ ∀ t j, t < lenf C r c → j < 4 → F (t * 4 + j) = fld (f (c * 4096 + t)) j
  inj : ∀ c c', c < C → c' < C → blk c = blk c' → c = c'
  sep : ∀ c, c < C → v.ownBlock ≠ some (blk c) ∧ B ≤ blk c

/-- The blocks of the marks. -/
def InM (v : Value) (C : Nat) (blk : Nat → Nat) (b : Nat) : Prop := v.ownBlock = some b ∨ ∃ c, c < C ∧ blk c = b

theorem gm_nil (w : World) (B : Nat) (f : Nat → Mk) (blk : Nat → Nat) : GM w B (.slice none 0 0) 0 0 f blk :=
  ⟨World.ownsRow_nil w B 65 1, fun _ h => absurd h (by omega), fun _ _ h => absurd h (by omega), fun _ h => absurd h (by omega)⟩

theorem GM.kept {w w' : World} {B : Nat} {v : Value} {C r : Nat} {f : Nat → Mk} {blk : Nat → Nat} (h : GM w B v C r f blk) {S : Nat → Prop} (ht : Turns w w' S) (hS : ∀ b, InM v C blk b → ¬ S b) : GM w' B v C r f blk := by
  refine ⟨?_, fun c hc => ?_, h.inj, h.sep⟩
  · obtain ⟨h1, h2⟩ := h.own
    refine ⟨h1, ?_⟩
    rcases h2 with h2 | ⟨g, cap, cur, rfl, hB, hg, r⟩
    · exact .inl h2
    · refine .inr ⟨g, cap, cur, rfl, hB, ?_, r⟩
      rw [ht.block g (Array.getElem?_eq_some_iff.1 hg).1 (hS g (.inl rfl))]; exact hg
  · obtain ⟨F, hr, hF⟩ := h.rows c hc
    exact ⟨F, ht.row hr (hS _ (.inr ⟨c, hc, rfl⟩)), hF⟩

theorem GM.lt {w : World} {B : Nat} {v : Value} {C r : Nat} {f : Nat → Mk} {blk : Nat → Nat} (h : GM w B v C r f blk) {b : Nat} (hb : InM v C blk b) : b < w.heap.size ∧ B ≤ b := by
  rcases hb with hb | ⟨c, hc, rfl⟩
  · have := h.own.lt b hb; exact ⟨this.2, this.1⟩
  · obtain ⟨F, hr, _⟩ := h.rows c hc
    exact ⟨hr.lt, (h.sep c hc).2⟩

/-- The outer slice, opened. -/
theorem GM.outer {w : World} {B : Nat} {v : Value} {C r : Nat} {f : Nat → Mk} {blk : Nat → Nat} (h : GM w B v C r f blk) (hC : 0 < C) :
    ∃ g cap F, v = .slice (some ⟨g, 0, none⟩) C cap ∧ B ≤ g ∧ C ≤ cap ∧ cap ≤ maxLen ∧ Row w g cap 65 F ∧ (∀ c, c < C → F c = chunkv blk C r c) ∧ ∀ c, c < C → blk c ≠ g := by
  obtain ⟨h1, h2⟩ := h.own
  rcases h2 with ⟨_, h0⟩ | ⟨g, cap, cur, rfl, hB, hg, h3, h4, h5, h6⟩
  · omega
  · refine ⟨g, cap, fun t => cur.getD t undef, rfl, hB, h3, h4, ⟨cur, hg, by omega, fun t ht => ?_⟩, fun c hc => ?_, fun c hc e => (h.sep c hc).1 (by rw [e]; rfl)⟩
    · have : t < cur.size := by omega
      simp [this]
    · have h7 := congrArg (fun l => l[c]?) h6
      simp only [Nat.mul_one] at h7
      rw [List.getElem?_take] at h7
      simp [hc] at h7
      simp [h7]

theorem ownsRow_of_row {w : World} {B g n cap : Nat} {e : TypeId} {f F : Nat → Value} (hB : B ≤ g) (hn : n ≤ cap) (hc : cap ≤ maxLen) (hr : Row w g cap e F) (he : ∀ t, t < n → F t = f t) : w.ownsRow B e 1 (.slice (some ⟨g, 0, none⟩) n cap) n ((List.range n).map f) := by
  obtain ⟨arr, h1, h2, h3⟩ := hr
  refine ⟨by simp, .inr ⟨g, cap, arr, rfl, hB, h1, hn, hc, by omega, ?_⟩⟩
  refine List.ext_getElem? fun t => ?_
  rw [List.getElem?_take]
  by_cases ht : t < n
  · have := h3 t (by omega)
    rw [he t ht] at this
    simp [ht, this]
  · simp [ht]

/-- Four cells laid at once. -/
theorem Row.set4 {w : World} {b n : Nat} {e : TypeId} {F : Nat → Value} (h : Row w b n e F) (k : Nat) (v0 v1 v2 v3 : Value) :
    Row (w.setCells b k [v0, v1, v2, v3]) b n e (upd (upd (upd (upd F k v0) (k + 1) v1) (k + 1 + 1) v2) (k + 1 + 1 + 1) v3) := by
  simp only [World.setCells]
  exact (((h.set k v0).set (k + 1) v1).set (k + 1 + 1) v2).set (k + 1 + 1 + 1) v3
theorem Turns.set4 {a w : World} {S : Nat → Prop} (h : Turns a w S) (b k : Nat) (v0 v1 v2 v3 : Value) (hb : S b ∨ a.heap.size ≤ b) : Turns a (w.setCells b k [v0, v1, v2, v3]) S := by
  simp only [World.setCells]
  exact (((h.setCell b k v0 hb).setCell b (k + 1) v1 hb).setCell b (k + 1 + 1) v2 hb).setCell b (k + 1 + 1 + 1) v3 hb
theorem Row.set4_other {w : World} {b b' n : Nat} {e : TypeId} {F : Nat → Value} (h : Row w b n e F) (hb : b ≠ b') (k : Nat) (v0 v1 v2 v3 : Value) : Row (w.setCells b' k [v0, v1, v2, v3]) b n e F := by
  simp only [World.setCells]
  exact (((h.set_other hb k v0).set_other hb (k + 1) v1).set_other hb (k + 1 + 1) v2).set_other hb (k + 1 + 1 + 1) v3

theorem upd4 (F : Nat → Value) (r : Nat) (m : Mk) (t j : Nat) (hj : j < 4) :
    upd (upd (upd (upd F (r * 4) (fld m 0)) (r * 4 + 1) (fld m 1)) (r * 4 + 1 + 1) (fld m 2)) (r * 4 + 1 + 1 + 1) (fld m 3) (t * 4 + j) = if t = r then fld m j else F (t * 4 + j) := by
  by_cases h : t = r
  · subst h
    rw [if_pos rfl]
    match j, hj with
    | 0, _ => rw [upd_other _ _ _ _ (by omega), upd_other _ _ _ _ (by omega), upd_other _ _ _ _ (by omega), Nat.add_zero, upd_same]
    | 1, _ => rw [upd_other _ _ _ _ (by omega), upd_other _ _ _ _ (by omega), upd_same]
    | 2, _ => rw [upd_other _ _ _ _ (by omega), show t * 4 + 2 = t * 4 + 1 + 1 from rfl, upd_same]
    | 3, _ => rw [show t * 4 + 3 = t * 4 + 1 + 1 + 1 from rfl, upd_same]
  · rw [if_neg h, upd_other _ _ _ _ (by omega), upd_other _ _ _ _ (by omega), upd_other _ _ _ _ (by omega), upd_other _ _ _ _ (by omega)]

/-- One mark more in the last chunk: its four cells, then its length in the outer slice. -/
theorem GM.push {w : World} {B : Nat} {C r : Nat} {f : Nat → Mk} {blk : Nat → Nat} {g cap : Nat} (h : GM w B (.slice (some ⟨g, 0, none⟩) C cap) C r f blk) (hC : 0 < C) (hr : r < 4096) (m : Mk) :
    GM ((w.setCells (blk (C - 1)) (r * 4) [fld m 0, fld m 1, fld m 2, fld m 3]).setCell ⟨g, C - 1, none⟩ (.slice (some ⟨blk (C - 1), 0, none⟩) (r + 1) 4096)) B (.slice (some ⟨g, 0, none⟩) C cap) C (r + 1)
      (fun i => if i = (C - 1) * 4096 + r then m else f i) blk := by
  obtain ⟨g', cap', F, e, hB, h3, h4, hrow, hF, hne⟩ := h.outer hC
  simp only [Value.slice.injEq, Option.some.injEq, Addr.mk.injEq, and_true, true_and] at e
  obtain ⟨rfl, rfl⟩ := e
  refine ⟨ownsRow_of_row hB h3 h4 ((hrow.set4_other (fun e => hne (C - 1) (by omega) e.symm) _ _ _ _ _).set (C - 1) _) (fun t ht => ?_), fun c hc => ?_, h.inj, h.sep⟩
  · by_cases hk : t = C - 1
    · subst hk; rw [upd_same]; unfold chunkv lenf; rw [if_neg (by omega)]
    · rw [upd_other _ _ _ _ hk, hF t ht]; unfold chunkv lenf; rw [if_pos (by omega), if_pos (by omega)]
  · obtain ⟨G, hG, hGf⟩ := h.rows c hc
    by_cases hk : c = C - 1
    · subst hk
      refine ⟨_, (hG.set4 (r * 4) _ _ _ _).set_other (hne _ hc) _ _, fun t j ht hj => ?_⟩
      rw [upd4 G r m t j hj]
      unfold lenf at ht
      rw [if_neg (by omega)] at ht
      by_cases e : t = r
      · subst e; simp
      · rw [if_neg e, if_neg (by omega)]
        exact hGf t j (by unfold lenf; rw [if_neg (by omega)]; omega) hj
    · refine ⟨G, (hG.set4_other (fun e => hk (h.inj _ _ hc (by omega) e)) _ _ _ _ _).set_other (hne _ hc) _ _, fun t j ht hj => ?_⟩
      unfold lenf at ht
      rw [if_pos (by omega)] at ht
      rw [if_neg (by omega)]
      exact hGf t j (by unfold lenf; rw [if_pos (by omega)]; exact ht) hj

/-- A new chunk, empty, at the end. -/
theorem GM.grow {w w1 : World} {B : Nat} {v v' : Value} {C r : Nat} {f : Nat → Mk} {blk : Nat → Nat} {bn : Nat} {F : Nat → Value} (h : GM w B v C r f blk) (hr : C = 0 ∨ r = 4096)
    (hown : w1.ownsRow B 65 1 v' (C + 1) ((List.range C).map (chunkv blk C r) ++ [.slice (some ⟨bn, 0, none⟩) 0 4096])) (hrows : ∀ c, c < C → w1.heap[blk c]? = w.heap[blk c]?) (hnew : Row w1 bn 16384 54 F)
    (hbn : ∀ c, c < C → blk c ≠ bn) (hv : ∀ c, c < C → v'.ownBlock ≠ some (blk c)) (hvn : v'.ownBlock ≠ some bn) (hB : B ≤ bn) :
    GM w1 B v' (C + 1) 0 f (fun c => if c = C then bn else blk c) := by
  refine ⟨?_, fun c hc => ?_, fun c c' hc hc' e => ?_, fun c hc => ?_⟩
  · have e : (List.range (C + 1)).map (chunkv (fun c => if c = C then bn else blk c) (C + 1) 0) = (List.range C).map (chunkv blk C r) ++ [.slice (some ⟨bn, 0, none⟩) 0 4096] := by
      rw [List.range_succ, List.map_append]
      congr 1
      · refine List.map_congr_left fun t ht => ?_
        have ht' := List.mem_range.1 ht
        unfold chunkv lenf
        rw [if_pos (show t + 1 < C + 1 by omega)]
        simp only [show ¬ t = C by omega, if_false]
        by_cases h1 : t + 1 < C
        · rw [if_pos h1]
        · rw [if_neg h1]
          rcases hr with hr | hr
          · omega
          · rw [hr]
      · simp [chunkv, lenf]
    rw [e]; exact hown
  · by_cases h1 : c = C
    · subst h1
      refine ⟨F, by rw [if_pos rfl]; exact hnew, fun t j ht => ?_⟩
      unfold lenf at ht
      rw [if_neg (by omega)] at ht
      omega
    · obtain ⟨G, hG, hGf⟩ := h.rows c (by omega)
      refine ⟨G, by rw [if_neg h1]; exact hG.of_block (hrows c (by omega)), fun t j ht hj => hGf t j ?_ hj⟩
      unfold lenf at ht ⊢
      rw [if_pos (by omega)] at ht
      by_cases h2 : c + 1 < C
      · rw [if_pos h2]; exact ht
      · rw [if_neg h2]
        rcases hr with hr | hr
        · omega
        · rw [hr]; exact ht
  · by_cases h1 : c = C <;> by_cases h2 : c' = C
    · omega
    · rw [if_pos h1, if_neg h2] at e; exact absurd e.symm (hbn c' (by omega))
    · rw [if_neg h1, if_pos h2] at e; exact absurd e (hbn c (by omega))
    · rw [if_neg h1, if_neg h2] at e; exact h.inj c c' (by omega) (by omega) e
  · by_cases h1 : c = C
    · rw [if_pos h1]; exact ⟨hvn, hB⟩
    · rw [if_neg h1]; exact ⟨hv c (by omega), (h.sep c (by omega)).2⟩

/-- N marks lie in C chunks, the last one r long. -/
def NC (N C r : Nat) : Prop := (C = 0 ∧ r = 0 ∧ N = 0) ∨ (0 < C ∧ 0 < r ∧ r ≤ 4096 ∧ N = (C - 1) * 4096 + r)

/-- The cells of a Grades. -/
def gv (bf : Nat) (v : Value) (N : Int) (tv : Value) (bt : Nat) : Nat → Value
  | 0 => .map (some bf)
  | 1 => v
  | 2 => .int .i32 N
  | 3 => tv
  | 4 => .map (some bt)
  | _ => .int .i64 0
theorem gv_upd1 (bf : Nat) (v : Value) (N : Int) (tv : Value) (bt : Nat) (v' : Value) (t : Nat) : upd (gv bf v N tv bt) 1 v' t = gv bf v' N tv bt t := by
  match t with
  | 0 | 2 | 3 | 4 | _ + 5 => rfl
  | 1 => rfl
theorem gv_upd2 (bf : Nat) (v : Value) (N : Int) (tv : Value) (bt : Nat) (N' : Int) (t : Nat) : upd (gv bf v N tv bt) 2 (.int .i32 N') t = gv bf v N' tv bt t := by
  match t with
  | 0 | 1 | 3 | 4 | _ + 5 => rfl
  | 2 => rfl

end Go.Proofs.Qxb6000508a
