/-
  The table of texts as one predicate; the walks of ZZIntern, ZZText, ZZTextCount over it; zzCloneStrs in one contract.
-/
import Derived.Test.Qxb6000508aTexts
import Derived.Test.Qxb6000508aLaw5
namespace Go.Proofs.Qxb6000508a
open Go.RowKit Go.Maps
set_option linter.unusedVariables false

/-- The Grades at block bg holds T texts; its blocks are among S. -/
def Tab (w : World) (B bg bf bt T : Nat) (tx : Nat → ByteArray) (ix : ByteArray → Option Nat) (S : Nat → Prop) : Prop :=
  ∃ v N tv, Texts w B bg bf bt v N tv T tx ix ∧ ∀ b, InT tv bg bt b → S b

theorem Tab.kept {w w' : World} {B bg bf bt T : Nat} {tx : Nat → ByteArray} {ix : ByteArray → Option Nat} {S S' : Nat → Prop} (h : Tab w B bg bf bt T tx ix S) (ht : Turns w w' S') (hS : ∀ b, S b → ¬ S' b) : Tab w' B bg bf bt T tx ix S := by
  obtain ⟨v, N, tv, h1, h2⟩ := h
  exact ⟨v, N, tv, h1.kept ht (fun b hb => hS b (h2 b hb)), h2⟩
theorem Tab.mono {w : World} {B bg bf bt T : Nat} {tx : Nat → ByteArray} {ix : ByteArray → Option Nat} {S S' : Nat → Prop} (h : Tab w B bg bf bt T tx ix S) (hS : ∀ b, S b → S' b) : Tab w B bg bf bt T tx ix S' := by
  obtain ⟨v, N, tv, h1, h2⟩ := h
  exact ⟨v, N, tv, h1, fun b hb => hS b (h2 b hb)⟩
theorem Tab.drewN {w : World} {B bg bf bt T : Nat} {tx : Nat → ByteArray} {ix : ByteArray → Option Nat} {S : Nat → Prop} (h : Tab w B bg bf bt T tx ix S) (q : Nat) : Tab (w.drewN q) B bg bf bt T tx ix S :=
  h.kept ((Turns.refl w (fun _ => False)).drewN q) (fun _ _ c => c)
theorem Tab.coh {w : World} {B bg bf bt T : Nat} {tx : Nat → ByteArray} {ix : ByteArray → Option Nat} {S : Nat → Prop} (h : Tab w B bg bf bt T tx ix S) : Coh T tx ix := by
  obtain ⟨v, N, tv, h1, h2⟩ := h
  exact h1.coh

/-- What interning s makes of the table; k is the answer. -/
def Step (T : Nat) (tx : Nat → ByteArray) (ix : ByteArray → Option Nat) (s : ByteArray) (k T' : Nat) (tx' : Nat → ByteArray) (ix' : ByteArray → Option Nat) : Prop :=
  (ix s = some k ∧ T' = T ∧ tx' = tx ∧ ix' = ix) ∨ (ix s = none ∧ k = T ∧ T' = T + 1 ∧ tx' = (fun i => if i = T then s else tx i) ∧ ix' = fun x => if x = s then some T else ix x)

theorem Step.le {T : Nat} {tx : Nat → ByteArray} {ix : ByteArray → Option Nat} {s : ByteArray} {k T' : Nat} {tx' : Nat → ByteArray} {ix' : ByteArray → Option Nat} (h : Step T tx ix s k T' tx' ix') : T ≤ T' ∧ T' ≤ T + 1 := by
  rcases h with ⟨_, rfl, _⟩ | ⟨_, _, rfl, _⟩ <;> omega
theorem Step.here {T : Nat} {tx : Nat → ByteArray} {ix : ByteArray → Option Nat} {s : ByteArray} {k T' : Nat} {tx' : Nat → ByteArray} {ix' : ByteArray → Option Nat} (h : Step T tx ix s k T' tx' ix') : ix' s = some k := by
  rcases h with ⟨h, _, _, rfl⟩ | ⟨_, rfl, _, _, rfl⟩
  · exact h
  · simp
theorem Step.keeps {T : Nat} {tx : Nat → ByteArray} {ix : ByteArray → Option Nat} {s : ByteArray} {k T' : Nat} {tx' : Nat → ByteArray} {ix' : ByteArray → Option Nat} (h : Step T tx ix s k T' tx' ix') {x : ByteArray} {j : Nat} (hx : ix x = some j) : ix' x = some j := by
  rcases h with ⟨_, _, _, rfl⟩ | ⟨h, _, _, _, rfl⟩
  · exact hx
  · have : x ≠ s := fun e => by rw [e, h] at hx; cases hx
    simp [this, hx]

/-- It returns some int32; of her p holds. -/
def Ans32 (e : Ending) (p : Nat → Prop) : Prop := ∃ k : Nat, e = .returned (.int .i32 (k : Int)) ∧ p k

set_option maxRecDepth 100000 in
theorem intern_any {w : World} {B bg bf bt T : Nat} {tx : Nat → ByteArray} {ix : ByteArray → Option Nat} {S : Nat → Prop} (h : Tab w B bg bf bt T tx ix S) (s : ByteArray) (hT : T ≤ 1048576) (hlim : s.size ≤ 1048576) (hB : B ≤ w.heap.size) :
    Calls Try.prog 27 #[.pointer (some ⟨bg, 0, none⟩), .string s] w fun e w' => Ans32 e fun k => ∃ T' tx' ix', Tab w' B bg bf bt T' tx' ix' (fun b => S b ∨ w.heap.size ≤ b) ∧ Turns w w' S ∧ Step T tx ix s k T' tx' ix' := by
  obtain ⟨v, N, tv, h1, h2⟩ := h
  cases hs : ix s with
  | some k =>
    refine (intern_found h1 s k hs).mono ?_
    rintro e w' ⟨rfl, rfl⟩
    exact ⟨k, rfl, T, tx, ix, ⟨v, N, tv, h1, fun b hb => .inl (h2 b hb)⟩, Turns.refl _ _, .inl ⟨hs, rfl, rfl, rfl⟩⟩
  | none =>
    refine (intern_new h1 s hs hT hlim hB).mono ?_
    rintro e w' ⟨rfl, tv', h3, h4, h5⟩
    refine ⟨T, rfl, _, _, _, ⟨v, N, tv', h3, fun b hb => ?_⟩, h5.mono h2, .inr ⟨hs, rfl, rfl, rfl, rfl⟩⟩
    rcases hb with hb | hb
    · rcases h4 with h4 | ⟨g, h4, hg⟩
      · exact .inl (h2 b (.inl (h4.symm.trans hb)))
      · rw [h4] at hb; injection hb with hb; right; omega
    · exact .inl (h2 b (.inr hb))

set_option maxRecDepth 100000 in
set_option maxHeartbeats 400000 in
theorem zzIntern_any {w : World} {B bg bf bt T : Nat} {tx : Nat → ByteArray} {ix : ByteArray → Option Nat} {S : Nat → Prop} (h : Tab w B bg bf bt T tx ix S) (s : ByteArray) (hT : T ≤ 1048576) (hlim : s.size ≤ 1048576) (hB : B ≤ w.heap.size) :
    Calls Try.prog 11 #[.pointer (some ⟨bg, 0, none⟩), .string s] w fun e w' => Ans32 e fun k => ∃ T' tx' ix', Tab w' B bg bf bt T' tx' ix' (fun b => S b ∨ w.heap.size ≤ b) ∧ Turns w w' S ∧ Step T tx ix s k T' tx' ix' := by
  go_enter Try.func11, Try.ntmps11
  go_wp2_with fail
  refine (intern_any h s hT hlim hB).mono ?_
  rintro e w' ⟨k, rfl, hr⟩
  go_wp2_with fail
  go_ret
  exact ⟨k, rfl, hr⟩

set_option maxRecDepth 100000 in
set_option maxHeartbeats 400000 in
theorem zzIntern_found {w : World} {B bg bf bt T : Nat} {tx : Nat → ByteArray} {ix : ByteArray → Option Nat} {S : Nat → Prop} (h : Tab w B bg bf bt T tx ix S) (s : ByteArray) (k : Nat) (hs : ix s = some k) :
    Calls Try.prog 11 #[.pointer (some ⟨bg, 0, none⟩), .string s] w fun e w' => e = .returned (.int .i32 (k : Int)) ∧ w' = w := by
  obtain ⟨v, N, tv, h1, h2⟩ := h
  go_enter Try.func11, Try.ntmps11
  go_wp2_with fail
  refine (intern_found h1 s k hs).mono ?_
  rintro e w' ⟨rfl, hw⟩
  obtain rfl := hw.symm
  clear hw
  go_wp2_with fail
  go_ret
  exact ⟨rfl, rfl⟩

set_option maxRecDepth 100000 in
set_option maxHeartbeats 400000 in
theorem zzText_calls {w : World} {B bg bf bt T : Nat} {tx : Nat → ByteArray} {ix : ByteArray → Option Nat} {S : Nat → Prop} (h : Tab w B bg bf bt T tx ix S) (hT : T ≤ 1048577) (k : Nat) (hk : k < T) :
    Calls Try.prog 12 #[.pointer (some ⟨bg, 0, none⟩), .int .i32 (k : Int)] w fun e w' => e = .returned (.string (tx k)) ∧ w' = w := by
  obtain ⟨v, N, tv, h1, h2⟩ := h
  obtain ⟨ao, cap, rfl, hR⟩ := own_open h1.own
  have c3 : w.cell? ⟨bg, 3, none⟩ = some (.slice ao T cap) := h1.row.cell 3 (by omega)
  obtain ⟨g, off, rfl, hc⟩ := hR.at (by omega)
  have ck := hc k hk
  generalize tx k = s at ck
  clear hc hR h1 h2
  go_enter Try.func12, Try.ntmps12
  go_wp2_with fail
  go_ret
  exact ⟨rfl, rfl⟩

set_option maxRecDepth 100000 in
set_option maxHeartbeats 400000 in
theorem zzTextCount_calls {w : World} {B bg bf bt T : Nat} {tx : Nat → ByteArray} {ix : ByteArray → Option Nat} {S : Nat → Prop} (h : Tab w B bg bf bt T tx ix S) :
    Calls Try.prog 13 #[.pointer (some ⟨bg, 0, none⟩)] w fun e w' => e = .returned (.int .i64 (T : Int)) ∧ w' = w := by
  obtain ⟨v, N, tv, h1, h2⟩ := h
  obtain ⟨ao, cap, rfl, _⟩ := own_open h1.own
  have c3 : w.cell? ⟨bg, 3, none⟩ = some (.slice ao T cap) := h1.row.cell 3 (by omega)
  clear h1 h2
  go_enter Try.func13, Try.ntmps13
  go_wp2_with fail
  go_ret
  exact ⟨rfl, rfl⟩

/-- It returns a slice of n cells that read f. -/
def AnsS (e : Ending) (w : World) (n : Nat) (f : Nat → Value) : Prop := ∃ a c, e = .returned (.slice a n c) ∧ Reads w a n f

theorem cloneStrs_calls (a : Option Addr) (n cap : Nat) (ks : Nat → ByteArray) (w : World) (hn : n ≤ 1048576) (hR : Reads w a n (fun t => .string (ks t))) :
    Calls Try.prog 9 #[.slice a n cap] w fun e w' => AnsS e w' n (fun t => .string (ks t)) ∧ Below w.heap.size w w' := by
  cases a with
  | none =>
    have hn0 : n = 0 := by
      rcases Nat.eq_zero_or_pos n with h | h
      · exact h
      · obtain ⟨b, off, hb, _⟩ := hR 0 h; cases hb
    subst hn0
    refine (cloneStrs_nil 0 cap w).mono ?_
    rintro e w' ⟨rfl, rfl⟩
    exact ⟨⟨none, 0, rfl, Reads.nil _ _ _⟩, Below.refl _ _⟩
  | some ad =>
    refine (cloneStrs_some ad n cap ks w hn hR).mono ?_
    rintro e w' ⟨rfl, h1, h2, h3⟩
    exact ⟨⟨_, _, rfl, h1.reads (Nat.le_refl _)⟩, h2⟩

/-- ZZNew's table. -/
theorem tab_new {w : World} {bg bf bt : Nat} (h1 : Row w bg 6 50 (gv bf (.slice none 0 0) 0 (.slice none 0 0) bt)) (h2 : SMap w bt (fun _ => none)) (hne : bg ≠ bt) (B : Nat) (tx : Nat → ByteArray) (S : Nat → Prop) (hS1 : S bg) (hS2 : S bt) : Tab w B bg bf bt 0 tx (fun _ => none) S :=
  ⟨_, 0, _, ⟨h1, World.ownsRow_nil w B 9 1, h2, coh_nil tx, by simp [Value.ownBlock], by simp [Value.ownBlock], hne⟩, fun b hb => by
    rcases hb with hb | rfl | rfl
    · simp [Value.ownBlock] at hb
    · exact hS1
    · exact hS2⟩

end Go.Proofs.Qxb6000508a
