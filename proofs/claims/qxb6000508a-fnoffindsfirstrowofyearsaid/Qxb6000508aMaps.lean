/-
  A map keyed by strings, as a plain function of the key: its look-up and its store, for the walk. No Go text in sight.
-/
import Derived.Maps.Own
import Derived.Maps.OwnOps
import Derived.Test.Qxb6000508aBase
namespace Go.Proofs.Qxb6000508a
open Go.RowKit

/-- The first entry whose key is s. -/
def lookS : List MapEntry → ByteArray → Option Value
  | [], _ => none
  | e :: es, s => match e.key with
    | .string s' => if s = s' then some e.val else lookS es s
    | _ => lookS es s

/-- Block b is a map whose keys are strings; at each key it holds g. -/
def SMap (w : World) (b : Nat) (g : ByteArray → Option Value) : Prop :=
  ∃ es clock, w.heap[b]? = some (.map es clock) ∧ (∀ e ∈ es.toList, ∃ s, e.key = .string s) ∧ ∀ s, lookS es.toList s = g s

theorem SMap.of_block {w w' : World} {b : Nat} {g : ByteArray → Option Value} (h : SMap w b g) (hb : w'.heap[b]? = w.heap[b]?) : SMap w' b g := by
  obtain ⟨es, c, h1, h2, h3⟩ := h
  exact ⟨es, c, hb.trans h1, h2, h3⟩
theorem SMap.lt {w : World} {b : Nat} {g : ByteArray → Option Value} (h : SMap w b g) : b < w.heap.size := by
  obtain ⟨es, c, h1, _⟩ := h
  exact (Array.getElem?_eq_some_iff.1 h1).1
theorem SMap.congr {w : World} {b : Nat} {g g' : ByteArray → Option Value} (h : SMap w b g) (hg : ∀ s, g s = g' s) : SMap w b g' := by
  obtain ⟨es, c, h1, h2, h3⟩ := h
  exact ⟨es, c, h1, h2, fun s => by rw [h3, hg]⟩
theorem SMap.made (w : World) : SMap (w.alloc (.map #[] 0)) w.heap.size (fun _ => none) :=
  ⟨#[], 0, heap_alloc_new w _, by simp, fun _ => rfl⟩
theorem SMap.made_at {w : World} {b : Nat} (hb : b = w.heap.size) : SMap (w.alloc (.map #[] 0)) b (fun _ => none) := by subst hb; exact SMap.made w
theorem SMap.setCell {w : World} {b b' k : Nat} {g : ByteArray → Option Value} (h : SMap w b g) (hb : b ≠ b') (v : Value) : SMap (w.setCell ⟨b', k, none⟩ v) b g :=
  h.of_block (Below.heap_setCell w ⟨b', k, none⟩ v b hb)
theorem SMap.alloc {w : World} {b : Nat} {g : ByteArray → Option Value} (h : SMap w b g) (o : Obj) : SMap (w.alloc o) b g := h.of_block (Below.heap_alloc w o b h.lt)
theorem SMap.drewN {w : World} {b : Nat} {g : ByteArray → Option Value} (h : SMap w b g) (q : Nat) : SMap (w.drewN q) b g := h

theorem beq_dec (a b : ByteArray) : (a == b) = decide (a = b) := by
  cases h : (a == b) with
  | true => exact (decide_eq_true ((MapKept.bytes_beq a b).1 h)).symm
  | false => exact (decide_eq_false fun e => by rw [(MapKept.bytes_beq a b).2 e] at h; cases h).symm

theorem findNow_str (s : ByteArray) : ∀ (es : List MapEntry) (i : Nat), (∀ e ∈ es, ∃ s', e.key = .string s') →
    (∃ j v, Instr.findNow .string (.string s) es i = some (some (i + j, v)) ∧ j < es.length ∧ lookS es s = some v ∧ (∃ e, es[j]? = some e ∧ e.key = .string s ∧ e.val = v) ∧ ∀ j', j' < j → ∀ e, es[j']? = some e → e.key ≠ .string s) ∨
    (Instr.findNow .string (.string s) es i = some none ∧ lookS es s = none ∧ ∀ e ∈ es, e.key ≠ .string s)
  | [], i, _ => .inr ⟨rfl, rfl, by simp⟩
  | e :: es, i, h => by
    obtain ⟨s', hs'⟩ := h e (by simp)
    by_cases hss : s = s'
    · subst hss
      left
      refine ⟨0, e.val, ?_, by simp, ?_, ⟨e, by simp, hs', rfl⟩, fun j' hj' => absurd hj' (by omega)⟩
      · simp [Instr.findNow, hs', Instr.sameNow, beq_dec]
      · simp [lookS, hs']
    · have e1 : Instr.findNow .string (.string s) (e :: es) i = Instr.findNow .string (.string s) es (i + 1) := by
        simp [Instr.findNow, hs', Instr.sameNow, beq_dec, hss]
      have e2 : lookS (e :: es) s = lookS es s := by simp [lookS, hs', hss]
      rw [e1, e2]
      rcases findNow_str s es (i + 1) (fun e' he' => h e' (by simp [he'])) with ⟨j, v, h1, h2, h3, ⟨x, hx1, hx2, hx3⟩, h5⟩ | ⟨h1, h2, h3⟩
      · left
        refine ⟨j + 1, v, ?_, by simp; omega, h3, ⟨x, by simpa using hx1, hx2, hx3⟩, ?_⟩
        · rw [h1, Nat.add_right_comm, Nat.add_assoc]
        · intro j' hj' x' hx'
          cases j' with
          | zero => simp at hx'; subst hx'; rw [hs']; intro c; injection c with c; exact hss c.symm
          | succ j' => exact h5 j' (by omega) x' (by simpa using hx')
      · right
        refine ⟨h1, h2, ?_⟩
        intro x hx
        rcases List.mem_cons.1 hx with rfl | hx
        · rw [hs']; intro c; injection c with c; exact hss c.symm
        · exact h3 x hx

section
variable {P : Program} {w : World} {b : Nat} {g : ByteArray → Option Value}

theorem SMap.lookup (h : SMap w b g) (s : ByteArray) {t K E : TypeId} (ht : P.underlying t = some (.map K E)) (hK : P.underlying K = some .string) {z : Value} (hz : (zeroValue E).run P w = .ok z w) (c : Bool) :
    (Instr.lookup t (.map (some b)) (.string s) c).run P w = .ok (if c then .tuple #[(g s).getD z, .bool (g s).isSome] else (g s).getD z) w := by
  obtain ⟨es, clock, h1, h2, h3⟩ := h
  have hget : ∀ {α : Type} (k : Obj → Sem α), (getObj b >>= k).run P w = (k (.map es clock)).run P w := by
    intro α k
    show (Sem.bind (getObj b) k).run P w = _
    simp [getObj, Sem.bind, Sem.run, h1]
  have hck := fun em => MapKept.run_checkKey (w := w) (k := .string s) hK trivial em 9999
  rcases findNow_str s es.toList 0 h2 with ⟨j, v, hf, _, hl, _, _⟩ | ⟨hf, hl, _⟩
  · rw [h3] at hl
    simp [Instr.lookup, run_underlying ht, hget, hck, run_underlying hK, Instr.findKey, hf, hl]
  · rw [h3] at hl
    simp [Instr.lookup, run_underlying ht, hget, hck, run_underlying hK, Instr.findKey, hf, hl, hz]

theorem lookS_append (l : List MapEntry) (e : MapEntry) (s : ByteArray) (hs : ∀ x ∈ l, ∃ s', x.key = .string s') : lookS (l ++ [e]) s = (lookS l s).or (lookS [e] s) := by
  induction l with
  | nil => simp [lookS]
  | cons x l ih =>
    obtain ⟨s', hs'⟩ := hs x (by simp)
    have ih' := ih fun y hy => hs y (by simp [hy])
    by_cases h : s = s'
    · simp [lookS, hs', h]
    · simp only [List.cons_append, lookS, hs', h, if_false, ih']

theorem lookS_modify (s : ByteArray) (v : Value) : ∀ (l : List MapEntry) (j : Nat) (_ : ∀ x ∈ l, ∃ s', x.key = .string s') (e : MapEntry) (_ : l[j]? = some e) (_ : e.key = .string s)
    (_ : ∀ j', j' < j → ∀ e', l[j']? = some e' → e'.key ≠ .string s) (t : ByteArray), lookS (l.modify j fun e => { e with key := .string s, val := v }) t = if t = s then some v else lookS l t
  | [], j, _, e, h, _, _, _ => by simp at h
  | x :: l, 0, _, e, h, hk, _, t => by
    simp at h
    subst h
    simp only [List.modify_zero_cons, lookS, hk]
    by_cases h : t = s <;> simp [h]
  | x :: l, j + 1, hs, e, h, hk, hb, t => by
    obtain ⟨s', hs'⟩ := hs x (by simp)
    have hne : s' ≠ s := fun c => hb 0 (by omega) x (by simp) (by rw [hs', c])
    have ih := lookS_modify s v l j (fun y hy => hs y (by simp [hy])) e (by simpa using h) hk (fun j' hj' e' he' => hb (j' + 1) (by omega) e' (by simpa using he')) t
    simp only [List.modify_succ_cons, lookS, hs', ih]
    by_cases h1 : t = s'
    · have : t ≠ s := fun c => hne (by rw [← h1, c])
      simp [h1, hne]
    · by_cases h2 : t = s
      · subst h2; simp [h1]
      · simp [h1, h2]

theorem SMap.update (h : SMap w b g) (s : ByteArray) (v : Value) {t K E : TypeId} (ht : P.underlying t = some (.map K E)) (hK : P.underlying K = some .string) :
    ∃ w', (Instr.mapUpdate t (.map (some b)) (.string s) v).run P w = .ok () w' ∧ SMap w' b (fun x => if x = s then some v else g x) ∧ w.grownBy w' (some b) ∧ w'.heap.size = w.heap.size := by
  obtain ⟨es, clock, h1, h2, h3⟩ := h
  have hck := fun em => MapKept.run_checkKey (w := w) (k := .string s) hK trivial em 9999
  have hget : (getObj b).run P w = .ok (.map es clock) w := MapKept.run_getObj_map h1
  have hset := fun o => MapKept.run_setObj_map (P := P) o h1
  have hfr : ∀ o, w.grownBy { w with heap := w.heap.setIfInBounds b o } (some b) := fun o =>
    ⟨rfl, rfl, rfl, by simp, fun k _ hk => (MapKept.heap_set h1).2 k (fun c => hk (by rw [c]))⟩
  rcases findNow_str s es.toList 0 h2 with ⟨j, x, hf, hj, hl, ⟨e, he, hek, hev⟩, hbef⟩ | ⟨hf, hl, hno⟩
  · rw [Nat.zero_add] at hf
    have hej : es[j]? = some e := by simpa using he
    refine ⟨_, ?_, ?_, hfr (.map (es.modify j fun e => { e with key := .string s, val := v }) clock), by simp⟩
    · simp [Instr.mapUpdate, run_underlying ht, hget, hck, run_underlying hK, Instr.findKey, hf, hej, hek, Instr.keyThatStays, Instr.sameBits, beq_dec, hset]
    · refine ⟨_, _, (MapKept.heap_set h1).1, ?_, fun t => ?_⟩
      · intro y hy
        rw [Array.toList_modify] at hy
        obtain ⟨i, hi, hiy⟩ := List.mem_iff_getElem.1 hy
        rw [List.getElem_modify] at hiy
        rw [List.length_modify] at hi
        split at hiy
        · exact ⟨s, by rw [← hiy]⟩
        · rw [← hiy]; exact h2 _ (List.getElem_mem hi)
      · rw [Array.toList_modify, lookS_modify s v es.toList j h2 e he hek hbef, h3]
  · refine ⟨_, ?_, ?_, hfr (.map (es.push { key := .string s, val := v, born := clock }) (clock + 1)), by simp⟩
    · simp [Instr.mapUpdate, run_underlying ht, hget, hck, run_underlying hK, Instr.findKey, hf, hset]
    · refine ⟨_, _, (MapKept.heap_set h1).1, ?_, fun t => ?_⟩
      · intro y hy
        rw [Array.toList_push, List.mem_append] at hy
        rcases hy with hy | hy
        · exact h2 y hy
        · simp at hy; subst hy; exact ⟨s, rfl⟩
      · rw [Array.toList_push, lookS_append _ _ _ h2]
        by_cases hts : t = s
        · subst hts; rw [hl]; simp [lookS]
        · simp [lookS, hts, h3]

/-- 'm[k]', 'v, ok := m[k]' at the operation, for the walk. -/
theorem wpList_lookup_s {ops : Array Oper} {rest : List Oper} {o : Oper} {a : Act} {Q : Exit → Act → World → Prop}
    (hg : o.guard = none) (m x : Operand) (t : TypeId) (c : Bool) (hop : o.op = Op.lookup t m x c) (K E : TypeId) (ht : P.underlying t = some (.map K E)) (hK : P.underlying K = some .string)
    {z : Value} (hz : (zeroValue E).run P w = .ok z w) (hS : SMap w b g) (s : ByteArray) (hm : a.eval m = .map (some b)) (hx : a.eval x = .string s)
    (v : Value) (hv : v = if c then .tuple #[(g s).getD z, .bool (g s).isSome] else (g s).getD z)
    (hK' : wpList P ops Q rest (a.put o.dst v) w) : wpList P ops Q (o :: rest) a w := by
  subst hv
  refine wpList_plain hg fun K' hK'' => ?_
  have hrun := hS.lookup s ht hK hz c
  unfold Oper.wp
  simp only [execOp, hop, hm, hx, Sem.run_bind, hrun, Result.andThen]
  exact hK'' _ _ hK'

/-- 'm[k] = v' at the operation, for the walk. -/
theorem wpList_mapUpdate_s {ops : Array Oper} {rest : List Oper} {o : Oper} {a : Act} {Q : Exit → Act → World → Prop}
    (hg : o.guard = none) (m x v : Operand) (t : TypeId) (hop : o.op = Op.mapUpdate t m x v) (K E : TypeId) (ht : P.underlying t = some (.map K E)) (hK : P.underlying K = some .string)
    (hS : SMap w b g) (s : ByteArray) (val : Value) (hm : a.eval m = .map (some b)) (hx : a.eval x = .string s) (hv : a.eval v = val)
    (hK' : ∀ w', SMap w' b (fun x => if x = s then some val else g x) → w.grownBy w' (some b) → w'.heap.size = w.heap.size → wpList P ops Q rest (a.put o.dst undef) w') : wpList P ops Q (o :: rest) a w := by
  refine wpList_plain hg fun K' hK'' => ?_
  obtain ⟨w', hrun, r1, r2, r3⟩ := hS.update s val ht hK
  unfold Oper.wp
  simp [execOp, hop, hm, hx, hv, hrun, Result.andThen]
  exact hK'' _ _ (hK' w' r1 r2 r3)
end
end Go.Proofs.Qxb6000508a
