/-
  The walk of FnInternFirstSeenIndex.
-/
import Derived.Test.Qxb6000508aTab
import Derived.ArgAppend
namespace Go.Proofs.Qxb6000508a
open Go.RowKit Go.Maps
set_option linter.unusedVariables false

theorem mk_room (n : Nat) (h : n ≤ 1048576) (w : World) :
    (Instr.makeSlice 22 (.int .i64 0) (.int .i64 (n : Int))).run Try.prog w = .ok (.slice (some ⟨w.heap.size, 0, none⟩) 0 n) (w.alloc (.cells (madeCells #[.string ⟨#[]⟩] n) 9)) := by
  obtain ⟨i, hi, hz, hs, hb⟩ := info_parts info9
  have hr := run_make (P := Try.prog) w 22 9 i _ Try.underlying22 hi hz .i64 .i64 0 n (by omega) (by omega) (by rw [hb]; omega) (by omega)
  rw [hs] at hr
  simpa [Value.cells] using hr

theorem key_ext {x y : ByteArray} (h : x.toList = y.toList) : x = y := by
  rw [ByteArray.toList_eq, ByteArray.toList_eq] at h
  exact ByteArray.ext (Array.toList_inj.1 h)
theorem key_beq (x y : ByteArray) : (x.toList == y.toList) = decide (x = y) := by
  by_cases h : x = y
  · subst h; simp
  · have : ¬ x.toList = y.toList := fun e => h (key_ext e)
    simp [h, this]

/-- 'append' of one cell where there is room, at the operation, for the walk. -/
theorem wpList_append_one {P : Program} {ops : Array Oper} {rest : List Oper} {o : Oper} {a : Act} {w : World} {Q : Exit → Act → World → Prop}
    (hgd : o.guard = none) (s x : Operand) (t : TypeId) (ho : o.op = .call { callee := .builtin .append, args := #[s, x], argTypes := #[t, t] })
    (e : TypeId) (i : TypeInfo) (ht : P.underlying t = some (.slice e)) (hi : P.info? e = some i) (hsize : i.size = 1)
    (g L C : Nat) (hs : a.eval s = .slice (some ⟨g, 0, none⟩) L C) (F : Nat → Value) (hr : Row w g C e F) (hL : L < C)
    (ad : Addr) (c : Nat) (u : Value) (hx : a.eval x = .slice (some ad) 1 c) (hu : ∀ j v, [u][j]? = some v → w.cell? (ad.add j) = some v) (h1 : u.oneCell' = true)
    (h : wpList P ops Q rest (a.put o.dst (.slice (some ⟨g, 0, none⟩) (L + 1) C)) (w.setCell ⟨g, L, none⟩ u)) : wpList P ops Q (o :: rest) a w := by
  refine wpList_plain hgd fun K hK => ?_
  have hrun := run_append_room_cells (P := P) w t o.type e i ht hi g 0 L C ad 1 c [u] (by simp [hsize]) hu (by intro v hv; simp at hv; subst hv; exact h1) (by omega)
    (fun j hj => by have hj : j = 0 := by simpa using hj
                    subst hj; simp [hsize, hr.cell L hL])
    (fun j hj => by simp [hr.frozen])
  simp only [hsize, Nat.mul_one, Nat.zero_add, World.setCells] at hrun
  unfold Oper.wp execOp
  simp only [ho, resolve, invoke, builtin, Sem.run_bind, Sem.run_pure, Result.andThen_ok, List.map_toArray, List.map_cons, List.map_nil, hs, hx, hrun]
  exact hK _ _ h

set_option maxRecDepth 100000 in
set_option maxHeartbeats 4000000 in
theorem law3_calls (a : Option Addr) (n cap : Nat) (ks : Nat → ByteArray) (w : World) (hn : n ≤ 9223372036854775807) (hR : Reads w a n (fun t => .string (ks t))) :
    Calls Try.prog 3 #[.slice a n cap] w fun e w' => e = .returned (.bool true) ∧ Below w.heap.size w w' := by
  obtain ⟨i0, hi, hz0, hz1, hz2⟩ := info_parts info9
  go_enter Try.func3, Try.ntmps3
  go_wp2_with fail
  refine (zzSeen_calls a n cap ks w hn hR).mono ?_
  rintro e w0 ⟨⟨r, rfl, hr⟩, hw⟩
  obtain rfl := hw.symm
  clear hw
  cases r with
  | false =>
    go_wp2_with fail
    go_ret
    exact ⟨rfl, Below.refl _ _⟩
  | true =>
  obtain ⟨hn1, hk1⟩ := hr rfl
  have HK : Hid (∀ t, t < n → (ks t).size ≤ 1048576) := hk1
  clear hr hk1
  go_wp2_with fail
  refine (addStrs_calls a n cap 0 ks w hn1 (by omega) (by omega) hR).mono ?_
  rintro e w0 ⟨⟨r, rfl, hr0, hr1⟩, hw⟩
  obtain rfl := hw.symm
  clear hw
  by_cases h1 : 1048576 < r
  · go_wp2_with fail
    go_ret
    exact ⟨rfl, Below.refl _ _⟩
  by_cases h2 : 1024 < n
  · go_wp2_with fail
    go_ret
    exact ⟨rfl, Below.refl _ _⟩
  go_wp2_with fail
  refine (cloneStrs_calls a n cap ks w hn1 hR).mono ?_
  rintro e w1 ⟨⟨a1, c1, rfl, hR1⟩, hb1⟩
  clear hR h1 hr0 hr1
  go_wp2_with fail
  refine (new_calls w1).mono ?_
  rintro e w2 ⟨rfl, hG2, _, hS2, hb2, hz2'⟩
  have hT2 : Tab w2 w1.heap.size (w1.heap.size + 2) w1.heap.size (w1.heap.size + 1) 0 ks (fun _ => none) (fun b => w1.heap.size ≤ b ∧ b ≠ w2.heap.size) :=
    tab_new hG2 hS2 (by omega) _ _ _ ⟨by omega, by omega⟩ ⟨by omega, by omega⟩
  have hmk := mk_room n hn1
  have hs2 : w1.heap.size ≤ w2.heap.size := by omega
  clear hG2 hS2
  have HZ2 : Hid (w2.heap.size = w1.heap.size + 3) := hz2'
  clear hz2'
  go_wp2_with fail
  clear hmk
  go_loopw [4, 5, 6, 7, 8, 9] (fun sv i _ _ _ _ wr => ∃ (k T : Nat) (tx : Nat → ByteArray) (ix : ByteArray → Option Nat) (F : Nat → Value), k ≤ n ∧ i = .int .i64 k ∧ sv = .slice (some ⟨w2.heap.size, 0, none⟩) T n ∧ T ≤ k ∧ Tab wr w1.heap.size (w1.heap.size + 2) w1.heap.size (w1.heap.size + 1) T tx ix (fun b => w1.heap.size ≤ b ∧ b ≠ w2.heap.size) ∧
    Row wr w2.heap.size n 9 F ∧ Hid (∀ t, t < T → F t = .string (tx t)) ∧ Below w1.heap.size w1 wr ∧ w2.heap.size < wr.heap.size) (fun _ i _ _ _ _ _ => n - (intOf i).toNat)
  case atStart =>
    exact ⟨0, 0, ks, fun _ => none, _, Nat.zero_le _, rfl, rfl, Nat.le_refl _, hT2.kept ((Turns.refl w2 (fun _ => False)).alloc _) (fun _ _ c => c), Row.made _ _ _ _, fun t ht => absurd ht (by omega), hb2.alloc (by omega) _, by simp⟩
  case round =>
    obtain ⟨k, T, tx, ix, F, hk, rfl, rfl, hTk, hT, hrow, HF, hb, hz⟩ := hrel
    clear hT2 hb2
    by_cases hlt : k < n
    · have hRr := hR1.below hb
      obtain ⟨b0, off, rfl, hc⟩ := hRr.at (by omega)
      obtain ⟨s, HSK⟩ : ∃ s, Hid (ks k = s) := ⟨_, rfl⟩
      have hck := hc k hlt
      rw [HSK.out] at hck
      have HSL : Hid (s.size ≤ 1048576) := by rw [← HSK.out]; exact HK.out k hlt
      clear hc
      go_wp2_with fail
      clear hck
      go_loopw [7, 8] (fun p i wm => ∃ j : Nat, j ≤ T ∧ p = .int .i64 (-1) ∧ i = .int .i64 j ∧ wm = wr ∧ Hid (∀ t, t < j → tx t ≠ s)) (fun _ i _ => T - (intOf i).toNat)
      case atStart => exact ⟨0, Nat.zero_le _, rfl, rfl, rfl, fun t ht => absurd ht (by omega)⟩
      case round =>
        obtain ⟨j, hj, rfl, rfl, hwm, HN⟩ := hrel
        obtain rfl := hwm.symm
        clear hwm
        have hcoh : Hid (Coh T tx ix) := hT.coh
        by_cases hjt : j < T
        · have hcj := hrow.cell j (by omega)
          rw [HF.out j hjt] at hcj
          by_cases hs : tx j = s
          · have HX : Hid (ix s = some j) := (hcoh.out s j).2 ⟨hjt, hs⟩
            have HTS : Hid (tx j = s) := hs
            rw [hs] at hcj
            clear hs
            go_wp2_with fail
            refine (zzIntern_found hT s j HX.out).mono ?_
            rintro e w3 ⟨rfl, hw⟩
            obtain rfl := hw.symm
            clear hw
            go_wp2_with fail
            refine (zzText_calls hT (by omega) j hjt).mono ?_
            rintro e w3 ⟨rfl, hw⟩
            obtain rfl := hw.symm
            clear hw
            rw [HTS.out]
            go_wp2_with fail
            refine (zzTextCount_calls hT).mono ?_
            rintro e w3 ⟨rfl, hw⟩
            obtain rfl := hw.symm
            clear hw
            go_wp2_with fail
            go_roundw
            case rel => exact ⟨k + 1, T, tx, ix, F, by omega, by go_num, rfl, by omega, hT, hrow, HF, hb, hz⟩
            case measure => simp [intOf]; omega
          · generalize hu : tx j = u at hcj hs
            have HU : Hid (tx j ≠ s) := by rw [hu]; exact hs
            have hd : decide (u = s) = false := by simp [hs]
            have hd2 : (u.toList == s.toList) = false := by rw [key_beq]; exact hd
            clear hu hs
            go_wp2_with fail
            go_roundw
            case rel =>
              refine ⟨j + 1, by omega, rfl, by go_num, by first | trivial | rfl, fun t ht => ?_⟩
              by_cases e : t = j
              · rw [e]; exact HU.out
              · exact HN.out t (by omega)
            case measure => simp [intOf]; omega
        · have HX0 : ix s = none := by
            cases hx : ix s with
            | none => rfl
            | some j' =>
              have := (hcoh.out s j').1 hx
              exact absurd this.2 (HN.out j' (by omega))
          have HX : Hid (ix s = none) := HX0
          clear HX0
          have hTn : T < n := by omega
          go_wp2_with fail
          refine (zzIntern_any hT s (by omega) HSL.out hb.size).mono ?_
          rintro e w3 ⟨j', rfl, T', tx', ix', hT3, hTu, hst⟩
          rcases hst with ⟨hst, _⟩ | ⟨_, hjT, rfl, rfl, rfl⟩
          · rw [HX.out] at hst; cases hst
          obtain rfl := hjT.symm
          have hrow3 : Row w3 w2.heap.size n 9 F := hTu.row hrow (fun c => c.2 rfl)
          have hz3 := hTu.size
          have fk := hrow3.frozen T
          have ck := hrow3.cell T hTn
          have hbb : Below w1.heap.size w1 w3 := hb.trans (hTu.below hb.size (fun x hx => hx.1))
          clear hrow hcoh hTu hjt
          go_wp2_with (at_builtin; refine wpList_append_one rfl _ _ 22 rfl 9 i0 Try.underlying22 hi hz1 w2.heap.size T n rfl F (hrow3.alloc _) hTn ⟨w3.heap.size, 0, none⟩ 1 (.string s) rfl (cell_one_new _ _ _) rfl ?_)
          have hT4 : Tab ((w3.alloc (.cells #[.string s] 9)).setCell ⟨w2.heap.size, T, none⟩ (.string s)) w1.heap.size (w1.heap.size + 2) w1.heap.size (w1.heap.size + 1) (T + 1) (fun i => if i = T then s else tx i) (fun x => if x = s then some T else ix x) (fun b => w1.heap.size ≤ b ∧ b ≠ w2.heap.size) := by
            refine Tab.mono (S := fun b => (w1.heap.size ≤ b ∧ b ≠ w2.heap.size) ∨ wr.heap.size ≤ b) (hT3.kept (S' := fun b => b = w2.heap.size) (((Turns.refl _ _).alloc _).setCell w2.heap.size T _ (.inl rfl)) (fun b hb' e => ?_)) (fun b hb' => ?_)
            · rcases hb' with c | c <;> omega
            · have := hb.size
              rcases hb' with c | c <;> omega
          have hrow4 := (hrow3.alloc (.cells #[.string s] 9)).set T (.string s)
          have hb4 : Below w1.heap.size w1 ((w3.alloc (.cells #[.string s] 9)).setCell ⟨w2.heap.size, T, none⟩ (.string s)) := (hbb.alloc (by omega) _).setCell (by omega) _
          have hz4 : w2.heap.size < ((w3.alloc (.cells #[.string s] 9)).setCell ⟨w2.heap.size, T, none⟩ (.string s)).heap.size := by simp; omega
          generalize (w3.alloc (.cells #[.string s] 9)).setCell ⟨w2.heap.size, T, none⟩ (.string s) = w4 at hT4 hrow4 hb4 hz4 ⊢
          clear hT3 hbb fk ck hrow3 hz3
          go_wp2_with fail
          refine (zzText_calls hT4 (by omega) T (by omega)).mono ?_
          rintro e w5 ⟨rfl, hw⟩
          obtain rfl := hw.symm
          clear hw
          simp only [if_true]
          go_wp2_with fail
          refine (zzTextCount_calls hT4).mono ?_
          rintro e w5 ⟨rfl, hw⟩
          obtain rfl := hw.symm
          clear hw
          go_wp2_with fail
          go_roundw
          case rel =>
            refine ⟨k + 1, T + 1, _, _, _, by omega, by go_num, rfl, by omega, hT4, hrow4, fun t ht => ?_, hb4, hz4⟩
            by_cases e : t = T
            · rw [e, upd_same]; simp
            · rw [upd_other _ _ _ _ e, HF.out t (by omega)]; simp [e]
          case measure => simp [intOf]; omega
    · go_wp2_with fail
      refine (zzTextCount_calls hT).mono ?_
      rintro e w3 ⟨rfl, hw⟩
      obtain rfl := hw.symm
      clear hw
      go_wp2_with fail
      go_loopw [10] (fun i wm => ∃ j : Nat, j ≤ T ∧ i = .int .i64 j ∧ Tab wm w1.heap.size (w1.heap.size + 2) w1.heap.size (w1.heap.size + 1) T tx ix (fun b => w1.heap.size ≤ b ∧ b ≠ w2.heap.size) ∧ Row wm w2.heap.size n 9 F ∧ Below w1.heap.size w1 wm) (fun i _ => T - (intOf i).toNat)
      case atStart => exact ⟨0, Nat.zero_le _, rfl, hT, hrow, hb⟩
      case round =>
        clear hT hrow hb hz
        obtain ⟨j, hj, rfl, hT, hrow, hb⟩ := hrel
        by_cases hjt : j < T
        · have hcj := hrow.cell j (by omega)
          rw [HF.out j hjt] at hcj
          have hcall := fun q => Calls.quiet_of_same (n := q) (zzText_calls (hT.drewN q) (by omega) j hjt)
          generalize tx j = u at hcj hcall
          go_wp2_with fail
          go_quiet ((go_at_call 12; exact hcall _))
          clear hcall
          go_wp2_with fail
          go_roundw
          case rel => exact ⟨j + 1, by omega, by go_num, hT.drewN _, hrow.drewN _, below_drewN hb _⟩
          case measure => simp [intOf]; omega
        · go_wp2_with fail
          go_ret
          exact ⟨rfl, hb1.trans (hb.mono hb1.size)⟩

end Go.Proofs.Qxb6000508a
