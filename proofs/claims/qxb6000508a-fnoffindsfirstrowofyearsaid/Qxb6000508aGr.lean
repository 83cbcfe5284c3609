/-
  A Grades whole: marks, texts and first marks; the walks of the shims over it.
-/
import Derived.Test.Qxb6000508aTab
namespace Go.Proofs.Qxb6000508a
open Go.RowKit Go.Maps
set_option linter.unusedVariables false

/-- The Grades at block bg: N marks f, T texts tx with places ix, first marks fm; its blocks are among S. -/
def Gr (w : World) (B bg bf bt N : Nat) (f : Nat → Mk) (T : Nat) (tx : Nat → ByteArray) (ix fm : ByteArray → Option Nat) (S : Nat → Prop) : Prop :=
  ∃ v C r blk tv, Texts w B bg bf bt v N tv T tx ix ∧ GM w B v C r f blk ∧ NC N C r ∧ SMap w bf (mv fm) ∧ (∀ b, InM v C blk b → ¬ InT tv bg bt b ∧ b ≠ bf) ∧ ¬ InT tv bg bt bf ∧ ∀ b, (InM v C blk b ∨ InT tv bg bt b ∨ b = bf) → S b

theorem Gr.kept {w w' : World} {B bg bf bt N : Nat} {f : Nat → Mk} {T : Nat} {tx : Nat → ByteArray} {ix fm : ByteArray → Option Nat} {S S' : Nat → Prop} (h : Gr w B bg bf bt N f T tx ix fm S) (ht : Turns w w' S') (hS : ∀ b, S b → ¬ S' b) : Gr w' B bg bf bt N f T tx ix fm S := by
  obtain ⟨v, C, r, blk, tv, h1, h2, h3, h4, h5, h6, h7⟩ := h
  exact ⟨v, C, r, blk, tv, h1.kept ht (fun b hb => hS b (h7 b (.inr (.inl hb)))), h2.kept ht (fun b hb => hS b (h7 b (.inl hb))), h3, h4.turns ht (hS bf (h7 bf (.inr (.inr rfl)))), h5, h6, h7⟩
theorem Gr.mono {w : World} {B bg bf bt N : Nat} {f : Nat → Mk} {T : Nat} {tx : Nat → ByteArray} {ix fm : ByteArray → Option Nat} {S S' : Nat → Prop} (h : Gr w B bg bf bt N f T tx ix fm S) (hS : ∀ b, S b → S' b) : Gr w B bg bf bt N f T tx ix fm S' := by
  obtain ⟨v, C, r, blk, tv, h1, h2, h3, h4, h5, h6, h7⟩ := h
  exact ⟨v, C, r, blk, tv, h1, h2, h3, h4, h5, h6, fun b hb => hS b (h7 b hb)⟩
theorem Gr.drewN {w : World} {B bg bf bt N : Nat} {f : Nat → Mk} {T : Nat} {tx : Nat → ByteArray} {ix fm : ByteArray → Option Nat} {S : Nat → Prop} (h : Gr w B bg bf bt N f T tx ix fm S) (q : Nat) : Gr (w.drewN q) B bg bf bt N f T tx ix fm S :=
  h.kept ((Turns.refl w (fun _ => False)).drewN q) (fun _ _ c => c)
theorem Gr.coh {w : World} {B bg bf bt N : Nat} {f : Nat → Mk} {T : Nat} {tx : Nat → ByteArray} {ix fm : ByteArray → Option Nat} {S : Nat → Prop} (h : Gr w B bg bf bt N f T tx ix fm S) : Coh T tx ix := by
  obtain ⟨v, C, r, blk, tv, h1, h2, h3, h4, h5, h6, h7⟩ := h
  exact h1.coh
/-- Only what the marks are at 0 .. N-1 is told. -/
theorem GM.congr {w : World} {B : Nat} {v : Value} {C r : Nat} {f g : Nat → Mk} {blk : Nat → Nat} (h : GM w B v C r f blk) {N : Nat} (hN : NC N C r) (hfg : ∀ i, i < N → f i = g i) : GM w B v C r g blk := by
  refine ⟨h.own, fun c hc => ?_, h.inj, h.sep⟩
  obtain ⟨F, hr, hF⟩ := h.rows c hc
  refine ⟨F, hr, fun t j ht hj => ?_⟩
  rw [hF t j ht hj, hfg]
  unfold NC at hN
  unfold lenf at ht
  by_cases e : c + 1 < C
  · rw [if_pos e] at ht; omega
  · rw [if_neg e] at ht; omega
theorem Gr.congr {w : World} {B bg bf bt N : Nat} {f g : Nat → Mk} {T : Nat} {tx : Nat → ByteArray} {ix fm : ByteArray → Option Nat} {S : Nat → Prop} (h : Gr w B bg bf bt N f T tx ix fm S) (hfg : ∀ i, i < N → f i = g i) : Gr w B bg bf bt N g T tx ix fm S := by
  obtain ⟨v, C, r, blk, tv, h1, h2, h3, h4, h5, h6, h7⟩ := h
  exact ⟨v, C, r, blk, tv, h1, h2.congr h3 hfg, h3, h4, h5, h6, h7⟩

theorem gr_marks {w w' : World} {B bg bf bt N : Nat} {T : Nat} {tx : Nat → ByteArray} {ix fm : ByteArray → Option Nat} {S : Nat → Prop} {v : Value} {C : Nat} {blk : Nat → Nat} {tv : Value} {N' : Nat} {f' : Nat → Mk}
    (hX : Texts w B bg bf bt v N tv T tx ix) (hF : SMap w bf (mv fm)) (h5 : ∀ b, InM v C blk b → ¬ InT tv bg bt b ∧ b ≠ bf) (h6 : ¬ InT tv bg bt bf) (h7 : ∀ b, (InM v C blk b ∨ InT tv bg bt b ∨ b = bf) → S b)
    (hM : Marks w' B bg bf bt tv N' f' (fun b => InM v C blk b ∨ w.heap.size ≤ b)) (hT : Turns w w' (fun b => InM v C blk b ∨ b = bg)) :
    Gr w' B bg bf bt N' f' T tx ix fm (fun b => S b ∨ w.heap.size ≤ b) ∧ Turns w w' S := by
  obtain ⟨v', C', r', blk', g1, g2, g3, g4, g5⟩ := hM
  have nbt : ¬ (InM v C blk bt ∨ bt = bg) := fun c => by
    rcases c with c | c
    · exact (h5 bt c).1 (.inr (.inr rfl))
    · exact hX.s3 c.symm
  have nbf : ¬ (InM v C blk bf ∨ bf = bg) := fun c => by
    rcases c with c | c
    · exact (h5 bf c).2 rfl
    · exact h6 (.inr (.inl c))
  have nown : ∀ b, tv.ownBlock = some b → ¬ (InM v C blk b ∨ b = bg) := fun b hb c => by
    rcases c with c | c
    · exact (h5 b c).1 (.inl hb)
    · exact hX.s1 (by rw [← c]; exact hb)
  refine ⟨⟨v', C', r', blk', tv, ⟨g1, ownsRow_turns hX.own hT nown, hX.map.turns hT nbt, hX.coh, hX.s1, hX.s2, hX.s3⟩, g2, g3, hF.turns hT nbf, fun b hb => ?_, h6, fun b hb => ?_⟩, hT.mono (fun b hb => ?_)⟩
  · rcases g5 b hb with c | c
    · exact h5 b c
    · refine ⟨fun d => ?_, fun d => ?_⟩
      · rcases d with d | d | d
        · have := (hX.own.lt b d).2; omega
        · have := hX.row.lt; omega
        · have := hX.map.lt; omega
      · have := hF.lt; omega
  · rcases hb with hb | hb
    · rcases g5 b hb with c | c
      · exact .inl (h7 b (.inl c))
      · exact .inr c
    · exact .inl (h7 b (.inr hb))
  · rcases hb with hb | hb
    · exact h7 b (.inl hb)
    · exact h7 b (.inr (.inl (.inr (.inl hb))))

set_option maxRecDepth 100000 in
theorem zzAdd_gr {w : World} {B bg bf bt N : Nat} {f : Nat → Mk} {T : Nat} {tx : Nat → ByteArray} {ix fm : ByteArray → Option Nat} {S : Nat → Prop} (h : Gr w B bg bf bt N f T tx ix fm S) (hN : N ≤ 1000000) (hB : B ≤ w.heap.size) (m : Mk) :
    Calls Try.prog 16 #[.pointer (some ⟨bg, 0, none⟩), .int .i32 m.l, .int .i16 m.y, .int .i32 m.t, .int .i32 m.x] w fun e w' => e = .returned (.tuple #[]) ∧
      Gr w' B bg bf bt (N + 1) (fun i => if i = N then m else f i) T tx ix fm (fun b => S b ∨ w.heap.size ≤ b) ∧ Turns w w' S := by
  obtain ⟨v, C, r, blk, tv, h1, h2, h3, h4, h5, h6, h7⟩ := h
  have hM : Marks w B bg bf bt tv N f (InM v C blk) := ⟨v, C, r, blk, h1.row, h2, h3, fun c => (h5 bg c).1 (.inr (.inl rfl)), fun b hb => hb⟩
  refine (zzAdd_calls hM hN hB m).mono ?_
  rintro e w' ⟨rfl, g1, g2⟩
  exact ⟨rfl, gr_marks h1 h4 h5 h6 h7 g1 g2⟩

set_option maxRecDepth 100000 in
theorem zzCount_gr {w : World} {B bg bf bt N : Nat} {f : Nat → Mk} {T : Nat} {tx : Nat → ByteArray} {ix fm : ByteArray → Option Nat} {S : Nat → Prop} (h : Gr w B bg bf bt N f T tx ix fm S) :
    Calls Try.prog 17 #[.pointer (some ⟨bg, 0, none⟩)] w fun e w' => e = .returned (.int .i32 (N : Int)) ∧ w' = w := by
  obtain ⟨v, C, r, blk, tv, h1, h2, h3, h4, h5, h6, h7⟩ := h
  have hM : Marks w B bg bf bt tv N f (InM v C blk) := ⟨v, C, r, blk, h1.row, h2, h3, fun c => (h5 bg c).1 (.inr (.inl rfl)), fun b hb => hb⟩
  exact zzCount_calls hM

set_option maxRecDepth 100000 in
set_option maxHeartbeats 400000 in
theorem zzIntern_gr {w : World} {B bg bf bt N : Nat} {f : Nat → Mk} {T : Nat} {tx : Nat → ByteArray} {ix fm : ByteArray → Option Nat} {S : Nat → Prop} (h : Gr w B bg bf bt N f T tx ix fm S) (s : ByteArray) (hT : T ≤ 1048576) (hlim : s.size ≤ 1048576) (hB : B ≤ w.heap.size) :
    Calls Try.prog 11 #[.pointer (some ⟨bg, 0, none⟩), .string s] w fun e w' => Ans32 e fun k => ∃ T' tx' ix', Gr w' B bg bf bt N f T' tx' ix' fm (fun b => S b ∨ w.heap.size ≤ b) ∧ Turns w w' S ∧ Step T tx ix s k T' tx' ix' := by
  have hcall : Calls Try.prog 27 #[.pointer (some ⟨bg, 0, none⟩), .string s] w fun e w' => Ans32 e fun k => ∃ T' tx' ix', Gr w' B bg bf bt N f T' tx' ix' fm (fun b => S b ∨ w.heap.size ≤ b) ∧ Turns w w' S ∧ Step T tx ix s k T' tx' ix' := by
    obtain ⟨v, C, r, blk, tv, h1, h2, h3, h4, h5, h6, h7⟩ := h
    cases hs : ix s with
    | some k =>
      refine (intern_found h1 s k hs).mono ?_
      rintro e w' ⟨rfl, rfl⟩
      exact ⟨k, rfl, T, tx, ix, ⟨v, C, r, blk, tv, h1, h2, h3, h4, h5, h6, fun b hb => .inl (h7 b hb)⟩, Turns.refl _ _, .inl ⟨hs, rfl, rfl, rfl⟩⟩
    | none =>
      refine (intern_new h1 s hs hT hlim hB).mono ?_
      rintro e w' ⟨rfl, tv', g1, g2, g3⟩
      have sub : ∀ b, InT tv' bg bt b → InT tv bg bt b ∨ w.heap.size ≤ b := fun b hb => by
        rcases hb with hb | hb
        · rcases g2 with g2 | ⟨g, g2, hg⟩
          · exact .inl (.inl (g2.symm.trans hb))
          · rw [g2] at hb; injection hb with hb; right; omega
        · exact .inl (.inr hb)
      refine ⟨T, rfl, _, _, _, ⟨v, C, r, blk, tv', g1, h2.kept g3 (fun b hb => (h5 b hb).1), h3, h4.turns g3 h6, fun b hb => ⟨fun c => ?_, (h5 b hb).2⟩, fun c => ?_, fun b hb => ?_⟩, g3.mono (fun b hb => h7 b (.inr (.inl hb))), .inr ⟨hs, rfl, rfl, rfl, rfl⟩⟩
      · rcases sub b c with c | c
        · exact (h5 b hb).1 c
        · have := (h2.lt hb).1; omega
      · rcases sub bf c with c | c
        · exact h6 c
        · have := h4.lt; omega
      · rcases hb with hb | hb | hb
        · exact .inl (h7 b (.inl hb))
        · rcases sub b hb with c | c
          · exact .inl (h7 b (.inr (.inl c)))
          · exact .inr c
        · exact .inl (h7 b (.inr (.inr hb)))
  clear h
  go_enter Try.func11, Try.ntmps11
  go_wp2_with fail
  refine hcall.mono ?_
  rintro e w' ⟨k, rfl, hr⟩
  go_wp2_with fail
  go_ret
  exact ⟨k, rfl, hr⟩

set_option maxRecDepth 100000 in
set_option maxHeartbeats 400000 in
theorem setNext_gr {w : World} {B bg bf bt N : Nat} {f : Nat → Mk} {T : Nat} {tx : Nat → ByteArray} {ix fm : ByteArray → Option Nat} {S : Nat → Prop} (h : Gr w B bg bf bt N f T tx ix fm S) (hN : N ≤ 1000000) (i : Nat) (hi : i < N) (x : Int) :
    Calls Try.prog 30 #[.pointer (some ⟨bg, 0, none⟩), .int .i32 (i : Int), .int .i32 x] w fun e w' => e = .returned (.tuple #[]) ∧
      Gr w' B bg bf bt N (fun k => if k = i then { f i with x := x } else f k) T tx ix fm (fun b => S b ∨ w.heap.size ≤ b) ∧ Turns w w' S := by
  obtain ⟨v, C, r, blk, tv, h1, h2, h3, h4, h5, h6, h7⟩ := h
  have hM : Marks w B bg bf bt tv N f (InM v C blk) := ⟨v, C, r, blk, h1.row, h2, h3, fun c => (h5 bg c).1 (.inr (.inl rfl)), fun b hb => hb⟩
  go_enter Try.func30, Try.ntmps30
  go_wp2_with fail
  refine (mark_calls hM hN i hi).mono ?_
  rintro e w' ⟨⟨bb, o, rfl, hA⟩, hw⟩
  obtain rfl := hw.symm
  clear hw
  have c3 : w.cell? ⟨bb, o + 3, none⟩ = some (.int .i32 (f i).x) := hA.cell 3 (by omega)
  have f3 := hA.frozen (o + 3)
  go_wp2_with fail
  go_end0
  exact ⟨rfl, gr_marks h1 h4 h5 h6 h7 ((hA.set x).mono (fun b hb => .inl hb)) ((Turns.refl _ _).setCell bb _ _ (.inl (.inl hA.mem)))⟩

set_option maxRecDepth 100000 in
set_option maxHeartbeats 400000 in
theorem setFirst_gr {w : World} {B bg bf bt N : Nat} {f : Nat → Mk} {T : Nat} {tx : Nat → ByteArray} {ix fm : ByteArray → Option Nat} {S : Nat → Prop} (h : Gr w B bg bf bt N f T tx ix fm S) (p : ByteArray) (x : Nat) :
    Calls Try.prog 31 #[.pointer (some ⟨bg, 0, none⟩), .string p, .int .i32 (x : Int)] w fun e w' => e = .returned (.tuple #[]) ∧
      Gr w' B bg bf bt N f T tx ix (fun y => if y = p then some x else fm y) S ∧ Turns w w' S := by
  obtain ⟨v, C, r, blk, tv, h1, h2, h3, h4, h5, h6, h7⟩ := h
  have c0 : w.cell? ⟨bg, 0, none⟩ = some (.map (some bf)) := h1.row.cell 0 (by omega)
  go_enter Try.func31, Try.ntmps31
  go_wp2_with (at_mapUpdate; refine wpList_mapUpdate_s rfl _ _ _ 47 rfl 9 21 Try.underlying47 Try.underlying9 h4 p (.int .i32 (x : Int)) rfl rfl rfl ?_)
  intro w3 hS3 hg3 hz3
  go_wp2_with fail
  go_end0
  have hT := Turns.of_grown hg3
  refine ⟨rfl, ⟨v, C, r, blk, tv, h1.kept hT (fun b hb e => h6 (by injection e with e; rw [e]; exact hb)), h2.kept hT (fun b hb e => (h5 b hb).2 (by injection e with e; exact e.symm)), h3, hS3.congr fun y => ?_, h5, h6, h7⟩, hT.mono (fun b e => h7 b (.inr (.inr (by injection e with e; exact e.symm))))⟩
  unfold mv
  by_cases e : y = p
  · simp [e]
  · simp [e]

end Go.Proofs.Qxb6000508a
