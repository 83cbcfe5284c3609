/-
  The texts of a Grades; the walks of intern and its shims.
-/
import Derived.Test.Qxb6000508aShelf
import Derived.Test.Qxb6000508aGuards
import Derived.Test.Qxb6000508aAdd
import Derived.Test.Qxb6000508aMaps
namespace Go.Proofs.Qxb6000508a
open Go.RowKit Go.Maps
set_option linter.unusedVariables false

/-- ix tells the place of each of the T texts tx, and of no other. -/
def Coh (T : Nat) (tx : Nat → ByteArray) (ix : ByteArray → Option Nat) : Prop := ∀ s k, ix s = some k ↔ k < T ∧ tx k = s

theorem coh_nil (tx : Nat → ByteArray) : Coh 0 tx (fun _ => none) := fun s k => by simp
theorem Coh.push {T : Nat} {tx : Nat → ByteArray} {ix : ByteArray → Option Nat} (h : Coh T tx ix) {s : ByteArray} (hs : ix s = none) : Coh (T + 1) (fun i => if i = T then s else tx i) (fun x => if x = s then some T else ix x) := by
  intro x k
  by_cases hx : x = s
  · subst hx
    simp only [if_true]
    constructor
    · intro e; injection e with e; subst e; exact ⟨by omega, by simp⟩
    · rintro ⟨h1, h2⟩
      by_cases hk : k = T
      · rw [hk]
      · rw [if_neg hk] at h2
        have := (h x k).2 ⟨by omega, h2⟩
        rw [hs] at this; cases this
  · simp only [if_neg hx]
    rw [h x k]
    constructor
    · rintro ⟨h1, h2⟩; exact ⟨by omega, by rw [if_neg (by omega)]; exact h2⟩
    · rintro ⟨h1, h2⟩
      by_cases hk : k = T
      · rw [if_pos hk] at h2; exact absurd h2.symm hx
      · rw [if_neg hk] at h2; exact ⟨by omega, h2⟩

def mv (ix : ByteArray → Option Nat) (s : ByteArray) : Option Value := (ix s).map fun k => .int .i32 (k : Int)

/-- The Grades at block bg: its T texts tx, told by tv, and their places ix, told by the map at bt. -/
structure Texts (w : World) (B bg bf bt : Nat) (v : Value) (N : Nat) (tv : Value) (T : Nat) (tx : Nat → ByteArray) (ix : ByteArray → Option Nat) : Prop where
  row : Row w bg 6 50 (gv bf v N tv bt)
  own : w.ownsRow B 9 1 tv T ((List.range T).map fun i => .string (tx i))
  map : SMap w bt (mv ix)
  coh : Coh T tx ix
  s1 : tv.ownBlock ≠ some bg
  s2 : tv.ownBlock ≠ some bt
  s3 : bg ≠ bt

/-- The blocks of the texts. -/
def InT (tv : Value) (bg bt b : Nat) : Prop := tv.ownBlock = some b ∨ b = bg ∨ b = bt

theorem ownsRow_turns {w w' : World} {B : Nat} {e : TypeId} {v : Value} {n : Nat} {xs : List Value} (h : w.ownsRow B e 1 v n xs) {S : Nat → Prop} (ht : Turns w w' S) (hS : ∀ b, v.ownBlock = some b → ¬ S b) : w'.ownsRow B e 1 v n xs := by
  obtain ⟨h1, h2⟩ := h
  refine ⟨h1, ?_⟩
  rcases h2 with h2 | ⟨g, cap, cur, rfl, hB, hg, r⟩
  · exact .inl h2
  · refine .inr ⟨g, cap, cur, rfl, hB, ?_, r⟩
    rw [ht.block g (Array.getElem?_eq_some_iff.1 hg).1 (hS g rfl)]; exact hg

theorem SMap.turns {w w' : World} {b : Nat} {g : ByteArray → Option Value} (h : SMap w b g) {S : Nat → Prop} (ht : Turns w w' S) (hS : ¬ S b) : SMap w' b g := h.of_block (ht.block b h.lt hS)

theorem Texts.kept {w w' : World} {B bg bf bt : Nat} {v : Value} {N : Nat} {tv : Value} {T : Nat} {tx : Nat → ByteArray} {ix : ByteArray → Option Nat} (h : Texts w B bg bf bt v N tv T tx ix) {S : Nat → Prop} (ht : Turns w w' S) (hS : ∀ b, InT tv bg bt b → ¬ S b) : Texts w' B bg bf bt v N tv T tx ix :=
  ⟨ht.row h.row (hS bg (.inr (.inl rfl))), ownsRow_turns h.own ht (fun b hb => hS b (.inl hb)), h.map.turns ht (hS bt (.inr (.inr rfl))), h.coh, h.s1, h.s2, h.s3⟩

theorem gv_upd3 (bf : Nat) (v : Value) (N : Int) (tv : Value) (bt : Nat) (tv' : Value) (t : Nat) : upd (gv bf v N tv bt) 3 tv' t = gv bf v N tv' bt t := by
  unfold upd
  match t with
  | 0 => rfl
  | 1 => rfl
  | 2 => rfl
  | 3 => rfl
  | 4 => rfl
  | n + 5 => simp [gv]

theorem zero21 (w : World) : (zeroValue 21).run Try.prog w = .ok (.int .i32 0) w := Try.zeroValue21 w
theorem mv_some {ix : ByteArray → Option Nat} {s : ByteArray} {k : Nat} (h : ix s = some k) : mv ix s = some (.int .i32 (k : Int)) := by unfold mv; rw [h]; rfl
theorem mv_none {ix : ByteArray → Option Nat} {s : ByteArray} (h : ix s = none) : mv ix s = none := by unfold mv; rw [h]; rfl

/-- The texts' slice, opened. -/
theorem own_open {w : World} {B : Nat} {tv : Value} {T : Nat} {tx : Nat → ByteArray} (h : w.ownsRow B 9 1 tv T ((List.range T).map fun i => .string (tx i))) :
    ∃ ao cap, tv = .slice ao T cap ∧ Reads w ao T (fun i => .string (tx i)) := by
  obtain ⟨_, h2⟩ := h
  rcases h2 with ⟨rfl, h0⟩ | ⟨g, cap, cur, rfl, hB, hh, h3, h4, h5, h6⟩
  · rw [h0]; exact ⟨_, _, rfl, Reads.nil _ _ _⟩
  · refine ⟨_, _, rfl, fun t ht => ⟨g, 0, rfl, ?_⟩⟩
    have h7 := congrArg (fun l => l[t]?) h6
    simp only [Nat.mul_one] at h7
    rw [List.getElem?_take] at h7
    simp [ht] at h7
    rw [Nat.zero_add]
    simp [World.cell?, hh, h7]

set_option maxRecDepth 100000 in
set_option maxHeartbeats 1000000 in
theorem intern_found {w : World} {B bg bf bt : Nat} {v : Value} {N : Nat} {tv : Value} {T : Nat} {tx : Nat → ByteArray} {ix : ByteArray → Option Nat} (h : Texts w B bg bf bt v N tv T tx ix) (s : ByteArray) (k : Nat) (hs : ix s = some k) :
    Calls Try.prog 27 #[.pointer (some ⟨bg, 0, none⟩), .string s] w fun e w' => e = .returned (.int .i32 (k : Int)) ∧ w' = w := by
  have c4 : w.cell? ⟨bg, 4, none⟩ = some (.map (some bt)) := h.row.cell 4 (by omega)
  have hS := h.map
  have HV : Hid (mv ix s = some (.int .i32 (k : Int))) := mv_some hs
  clear h hs
  go_enter Try.func27, Try.ntmps27
  go_wp2_with (at_lookup; refine wpList_lookup_s rfl _ _ 47 true rfl 9 21 Try.underlying47 Try.underlying9 (zero21 _) hS s rfl rfl (.tuple #[.int .i32 (k : Int), .bool true]) (by rw [HV.out]; rfl) ?_)
  go_wp2_with fail
  go_ret
  exact ⟨rfl, rfl⟩

set_option maxRecDepth 100000 in
set_option maxHeartbeats 1000000 in
theorem strClone_calls (s : ByteArray) (w : World) (hlim : s.size ≤ 1048576) : Calls Try.prog 33 #[.string s] w fun e w' => e = .returned (.string s) ∧ Below w.heap.size w w' := by
  go_enter Try.func33, Try.ntmps33
  go_wp2_with fail
  refine (liteClone s w (by omega)).mono ?_
  rintro e w' ⟨rfl, hb⟩
  go_wp2_with fail
  go_ret
  exact ⟨rfl, hb⟩

theorem turns_of_below {w w' : World} (h : Below w.heap.size w w') (S : Nat → Prop) : Turns w w' S := ⟨h.os, h.tape, h.output, h.size, fun b hb _ => h.block b hb⟩

theorem own_push {w : World} {B : Nat} {tv : Value} {T : Nat} {tx : Nat → ByteArray} {s : ByteArray} (h : w.ownsRow B 9 1 tv (T + 1) (((List.range T).map fun i => .string (tx i)) ++ [.string s])) :
    w.ownsRow B 9 1 tv (T + 1) ((List.range (T + 1)).map fun i => .string (if i = T then s else tx i)) := by
  have e : (List.range (T + 1)).map (fun i => Value.string (if i = T then s else tx i)) = ((List.range T).map fun i => .string (tx i)) ++ [.string s] := by
    rw [List.range_succ, List.map_append]
    congr 1
    · refine List.map_congr_left fun t ht => ?_
      have := List.mem_range.1 ht
      simp [show t ≠ T by omega]
    · simp
  rw [e]; exact h

set_option maxRecDepth 100000 in
set_option maxHeartbeats 1000000 in
theorem intern_new {w : World} {B bg bf bt : Nat} {v : Value} {N : Nat} {tv : Value} {T : Nat} {tx : Nat → ByteArray} {ix : ByteArray → Option Nat} (h : Texts w B bg bf bt v N tv T tx ix) (s : ByteArray) (hs : ix s = none) (hT : T ≤ 1048576) (hlim : s.size ≤ 1048576) (hB : B ≤ w.heap.size) :
    Calls Try.prog 27 #[.pointer (some ⟨bg, 0, none⟩), .string s] w fun e w' => e = .returned (.int .i32 (T : Int)) ∧ ∃ tv', Texts w' B bg bf bt v N tv' (T + 1) (fun i => if i = T then s else tx i) (fun x => if x = s then some T else ix x) ∧
      (tv'.ownBlock = tv.ownBlock ∨ ∃ g, tv'.ownBlock = some g ∧ w.heap.size ≤ g) ∧ Turns w w' (InT tv bg bt) := by
  obtain ⟨i0, hi, hz0, hz1, hz2⟩ := info_parts info9
  have c4 : w.cell? ⟨bg, 4, none⟩ = some (.map (some bt)) := h.row.cell 4 (by omega)
  have hS := h.map
  have HV : Hid (mv ix s = none) := mv_none hs
  obtain ⟨ao, cap, htv, _⟩ := own_open h.own
  subst htv
  have c3 : w.cell? ⟨bg, 3, none⟩ = some (.slice ao T cap) := h.row.cell 3 (by omega)
  have HX : Hid (Texts w B bg bf bt v N (.slice ao T cap) T tx ix) := h
  have HS : Hid (ix s = none) := hs
  clear h hs
  go_enter Try.func27, Try.ntmps27
  go_wp2_with (at_lookup; refine wpList_lookup_s rfl _ _ 47 true rfl 9 21 Try.underlying47 Try.underlying9 (zero21 _) hS s rfl rfl (.tuple #[.int .i32 0, .bool false]) (by rw [HV.out]; rfl) ?_)
  go_wp2_with fail
  refine (strClone_calls s w hlim).mono ?_
  rintro e w1 ⟨rfl, hb1⟩
  have hT1 := turns_of_below hb1 (fun _ => False)
  have hX1 := HX.out.kept hT1 (fun _ _ c => c)
  have hsz := hT1.size
  have hbg1 := hX1.row.lt
  have hbt1 := hX1.map.lt
  clear c3 c4 hS HV
  have c3 : w1.cell? ⟨bg, 3, none⟩ = some (.slice ao T cap) := hX1.row.cell 3 (by omega)
  have hown := hX1.own
  go_wp2_with (at_builtin; refine wpList_append_own_at _ rfl _ _ 22 rfl B 9 i0 (.string ⟨#[]⟩) 1 16 Try.underlying22 hi hz0 hz1 hz2 rfl (by decide) _ T _ rfl (World.ownsRow.alloc hown _) ⟨w1.heap.size, 0, none⟩ 1 1 [.string s] rfl rfl (cell_one_new _ _ _) (by intro u hu; simp at hu; subst hu; rfl) (by unfold maxLen; omega) (by omega) (by simp; omega) ?_)
  intro v' w2 hown' hgrow hnil hloc
  have hT2 : Turns w1 w2 (InT (.slice ao T cap) bg bt) := ((Turns.refl w1 _).alloc _).trans (Turns.of_grown hgrow) (fun x hx => .inl (.inl hx))
  have hlt : ∀ k, (Value.slice ao T cap).ownBlock = some k → k < w1.heap.size := fun k hk => (hown.lt k hk).2
  have hR2 : Row w2 bg 6 50 (gv bf v N (.slice ao T cap) bt) := (hX1.row.alloc _).of_block (hgrow.block bg (by simp; omega) (fun e => hX1.s1 e.symm))
  have hS2 : SMap w2 bt (mv ix) := (hX1.map.alloc _).of_block (hgrow.block bt (by simp; omega) (fun e => hX1.s2 e.symm))
  have hz2' : w1.heap.size + 1 ≤ w2.heap.size := by have := hgrow.size; simpa using this
  have n1 : v'.ownBlock ≠ some bg := fun e => by
    rcases hloc with hl | hl
    · exact hX1.s1 (hl.symm.trans e)
    · rw [hl] at e; simp at e; omega
  have n2 : v'.ownBlock ≠ some bt := fun e => by
    rcases hloc with hl | hl
    · exact hX1.s2 (hl.symm.trans e)
    · rw [hl] at e; simp at e; omega
  have hO2 := own_push hown'
  have HL : Hid (v'.ownBlock = (Value.slice ao T cap).ownBlock ∨ ∃ g, v'.ownBlock = some g ∧ w.heap.size ≤ g) := by
    rcases hloc with hl | hl
    · exact .inl hl
    · exact .inr ⟨_, hl, by first | omega | (simp; omega)⟩
  have f3 := hR2.frozen 3
  have hne : bg ≠ bt := hX1.s3
  have c3' : w2.cell? ⟨bg, 3, none⟩ = some (.slice ao T cap) := hR2.cell 3 (by omega)
  have c4' : w2.cell? ⟨bg, 4, none⟩ = some (.map (some bt)) := hR2.cell 4 (by omega)
  clear hown' hgrow hnil hloc hown c3 hlt
  obtain ⟨ao', cap', hv', _⟩ := own_open hO2
  subst hv'
  go_wp2_with (at_mapUpdate; refine wpList_mapUpdate_s rfl _ _ _ 47 rfl 9 21 Try.underlying47 Try.underlying9 (hS2.setCell (fun e => hne e.symm) _) s (.int .i32 (T : Int)) rfl rfl rfl ?_)
  intro w3 hS3 hg3 hz3
  go_wp2_with fail
  go_ret
  have hT3 := Turns.of_grown hg3
  refine ⟨rfl, _, ⟨?_, ?_, ?_, HX.out.coh.push HS.out, n1, n2, hne⟩, HL.out, ?_⟩
  · exact hT3.row ((hR2.set 3 _).congr (fun t _ => gv_upd3 _ _ _ _ _ _ t)) (fun e => hne (by injection e with e; exact e.symm))
  · refine ownsRow_turns (ownsRow_turns (S := fun b => b = bg) hO2 ((Turns.refl _ _).setCell bg 3 _ (.inl rfl)) (fun b hb e => n1 (by rw [← e]; exact hb))) hT3 (fun b hb e => n2 (by rw [e]; exact hb))
  · refine hS3.congr fun x => ?_
    unfold mv
    by_cases e : x = s
    · simp [e]
    · simp [e]
  · refine ((hT1.mono (fun _ c => c.elim)).trans ((hT2.setCell bg 3 _ (.inl (.inr (.inl rfl)))).trans hT3 (fun x hx => .inl (.inr (.inr (by injection hx with hx; exact hx.symm))))) (fun x hx => .inl hx))

end Go.Proofs.Qxb6000508a
