/-
  The walk of Of.
-/
import Derived.Test.Qxb6000508aBuild
namespace Go.Proofs.Qxb6000508a
open Go.RowKit Go.Maps
set_option linter.unusedVariables false

/-- The answer that belongs to row r. -/
def OfVal (ns : Nat → ByteArray) (ls : Nat → Int) : Option Nat → ByteArray → Int → Bool → Prop
  | none, nm, ln, ok => nm = ⟨#[]⟩ ∧ ln = 0 ∧ ok = false
  | some j, nm, ln, ok => nm = ns j ∧ ln = ls j ∧ ok = true

def AnsOf (e : Ending) (n : Nat) (ks ns : Nat → ByteArray) (ys ls : Nat → Int) (p : ByteArray) (y : Int) : Prop :=
  ∃ r nm ln ok, e = .returned (.tuple #[.agg #[.string nm, .int .i64 ln], .bool ok]) ∧ IsFirst (fun i => ks i = p ∧ ys i = y) 0 n r ∧ OfVal ns ls r nm ln ok

set_option maxRecDepth 100000 in
theorem mark_gr {w : World} {B bg bf bt N : Nat} {f : Nat → Mk} {T : Nat} {tx : Nat → ByteArray} {ix fm : ByteArray → Option Nat} {S : Nat → Prop} (h : Gr w B bg bf bt N f T tx ix fm S) (hN : N ≤ 1000000) (i : Nat) (hi : i < N) :
    Calls Try.prog 29 #[.pointer (some ⟨bg, 0, none⟩), .int .i32 (i : Int)] w fun e w' => (∃ bb o, e = .returned (.pointer (some ⟨bb, o, none⟩)) ∧ (∀ j, j < 4 → w.cell? ⟨bb, o + j, none⟩ = some (fld (f i) j))) ∧ w' = w := by
  obtain ⟨v, C, r, blk, tv, h1, h2, h3, h4, h5, h6, h7⟩ := h
  have hM : Marks w B bg bf bt tv N f (InM v C blk) := ⟨v, C, r, blk, h1.row, h2, h3, fun c => (h5 bg c).1 (.inr (.inl rfl)), fun b hb => hb⟩
  refine (mark_calls hM hN i hi).mono ?_
  rintro e w' ⟨⟨bb, o, rfl, hA⟩, rfl⟩
  exact ⟨⟨bb, o, rfl, hA.cell⟩, rfl⟩

/-- Where text k lies. -/
theorem Gr.text {w : World} {B bg bf bt N : Nat} {f : Nat → Mk} {T : Nat} {tx : Nat → ByteArray} {ix fm : ByteArray → Option Nat} {S : Nat → Prop} (h : Gr w B bg bf bt N f T tx ix fm S) (k : Nat) (hk : k < T) :
    ∃ g o cap, w.cell? ⟨bg, 3, none⟩ = some (.slice (some ⟨g, o, none⟩) T cap) ∧ w.cell? ⟨g, o + k, none⟩ = some (.string (tx k)) := by
  obtain ⟨v, C, r, blk, tv, h1, h2, h3, h4, h5, h6, h7⟩ := h
  obtain ⟨ao, cap, rfl, hR⟩ := own_open h1.own
  obtain ⟨g, o, rfl, hc⟩ := hR.at (by omega)
  exact ⟨g, o, cap, h1.row.cell 3 (by omega), hc k hk⟩
theorem Gr.first {w : World} {B bg bf bt N : Nat} {f : Nat → Mk} {T : Nat} {tx : Nat → ByteArray} {ix fm : ByteArray → Option Nat} {S : Nat → Prop} (h : Gr w B bg bf bt N f T tx ix fm S) :
    w.cell? ⟨bg, 0, none⟩ = some (.map (some bf)) ∧ SMap w bf (mv fm) ∧ bg < w.heap.size := by
  obtain ⟨v, C, r, blk, tv, h1, h2, h3, h4, h5, h6, h7⟩ := h
  exact ⟨h1.row.cell 0 (by omega), h4, h1.row.lt⟩

theorem first_val (sk : Nat) (fr : ByteArray → Option Nat) (p : ByteArray) :
    (Value.tuple #[.int .i32 (enc sk (fr p) : Int), .bool (fr p).isSome] : Value) = (if true = true then Value.tuple #[(mv (off sk fr) p).getD (.int .i32 0), .bool (mv (off sk fr) p).isSome] else (mv (off sk fr) p).getD (.int .i32 0)) := by
  unfold mv off enc
  cases fr p <;> simp

def zz : Nat → Value
  | 0 => .string ⟨#[]⟩
  | _ => .int .i64 0

def ofMeasure (N : Nat) (i ok : Value) : Nat := match ok with
  | .bool true => N + 1 - (intOf i).toNat
  | _ => 0

set_option maxRecDepth 100000 in
set_option maxHeartbeats 2000000 in
theorem of_calls {w : World} {B bg bf bt sk n : Nat} {ks ns : Nat → ByteArray} {ys ls : Nat → Int} {T : Nat} {tx : Nat → ByteArray} {ix fr la : ByteArray → Option Nat} {nx : Nat → Option Nat} {ti : Nat → Nat} {f : Nat → Mk} {S : Nat → Prop}
    (hB : Built w B bg bf bt sk n ks ns ys ls T tx ix fr la nx ti f S) (hsk : sk ≤ 8192) (hn : n ≤ 1024) (hT : T ≤ n) (hys : ∀ t, t < n → -32768 ≤ ys t ∧ ys t ≤ 32767) (hls : ∀ t, t < n → -2147483648 ≤ ls t ∧ ls t ≤ 2147483647) (p : ByteArray) (y : Int) :
    Calls Try.prog 32 #[.pointer (some ⟨bg, 0, none⟩), .string p, .int .i64 y] w fun e w' => AnsOf e n ks ns ys ls p y ∧ Below w.heap.size w w' := by
  have HY : Hid (∀ t, t < n → -32768 ≤ ys t ∧ ys t ≤ 32767) := hys
  have HLS : Hid (∀ t, t < n → -2147483648 ≤ ls t ∧ ls t ≤ 2147483647) := hls
  obtain ⟨hgr, hch, hmk, htx⟩ := hB
  have HCH : Hid (Chain n ks fr la nx) := hch
  have HMK : Hid (∀ j, j < n → f (sk + j) = rowMk sk ys ls ti nx j) := hmk
  have HTX : Hid (∀ j, j < n → ti j < T ∧ tx (ti j) = ns j) := fun j hj => (hgr.coh _ _).1 (htx j hj)
  clear hys hls hch hmk htx
  obtain ⟨c0, hS, hbg⟩ := hgr.first
  have HFV : Hid (_) := first_val sk fr p
  go_enter Try.func32, Try.ntmps32
  go_wp2_with (at_lookup; refine wpList_lookup_s rfl _ _ 47 true rfl 9 21 Try.underlying47 Try.underlying9 (zero21 _) (hS.alloc _) p rfl rfl (.tuple #[.int .i32 (enc sk (fr p) : Int), .bool (fr p).isSome]) HFV.out ?_)
  clear HFV c0 hS
  obtain ⟨oj, HOJ⟩ : ∃ oj, Hid (fr p = oj) := ⟨_, rfl⟩
  rw [HOJ.out]
  obtain ⟨E0, HE0⟩ : ∃ E0, Hid ((enc sk oj : Int) = E0) := ⟨_, rfl⟩
  obtain ⟨B0, HB0⟩ : ∃ B0, Hid (oj.isSome = B0) := ⟨_, rfl⟩
  rw [HE0.out, HB0.out]
  have HI0 : Hid (IsFirst (fun i => ks i = p) 0 n oj) := by rw [← HOJ.out]; exact HCH.out.first p
  go_wp2_with fail
  go_loopw [8, 9, 10] (fun i ok _ wr => ∃ oj lo, i = .int .i32 (enc sk oj : Int) ∧ ok = .bool oj.isSome ∧ Hid (IsFirst (fun i => ks i = p) lo n oj) ∧ Hid (∀ i, i < lo → ¬ (ks i = p ∧ ys i = y)) ∧ Gr wr B bg bf bt (sk + n) f T tx ix (off sk fr) S ∧ Row wr w.heap.size 2 61 zz ∧ Below w.heap.size w wr) (fun i ok _ _ => ofMeasure (sk + n) i ok)
  case atStart =>
    refine ⟨oj, 0, by rw [HE0.out], by rw [HB0.out], HI0, fun i hi => absurd hi (by omega), hgr.kept ((Turns.refl _ (fun _ => False)).alloc _) (fun _ _ c => c), ?_, (Below.refl _ _).alloc (Nat.le_refl _) _⟩
    refine ⟨_, heap_alloc_new w _, rfl, fun t ht => ?_⟩
    match t, ht with
    | 0, _ => rfl
    | 1, _ => rfl
  case round =>
    clear HI0 HOJ hgr HE0 HB0
    obtain ⟨oj, lo, rfl, rfl, HI, HNO, hgr, hrow, hb⟩ := hrel
    cases oj with
    | none =>
      have r0 : wr.cell? ⟨w.heap.size, 0, none⟩ = some (.string ⟨#[]⟩) := hrow.cell 0 (by omega)
      have r1 : wr.cell? ⟨w.heap.size, 1, none⟩ = some (.int .i64 0) := hrow.cell 1 (by omega)
      have f0 := hrow.frozen 0
      have f1 := hrow.frozen 1
      have hl := hrow.lt
      simp only [enc, Option.isSome]
      go_wp2_with fail
      have hr2 := (hrow.set 0 (.string ⟨#[]⟩)).set 1 (.int .i64 0)
      have hb2 : Below w.heap.size w ((wr.setCell ⟨w.heap.size, 0, none⟩ (.string ⟨#[]⟩)).setCell ⟨w.heap.size, 1, none⟩ (.int .i64 0)) := (hb.setCell (Nat.le_refl _) _).setCell (Nat.le_refl _) _
      generalize (wr.setCell ⟨w.heap.size, 0, none⟩ (.string ⟨#[]⟩)).setCell ⟨w.heap.size, 1, none⟩ (.int .i64 0) = wf at hr2 hb2 ⊢
      have q0 : wf.cell? ⟨w.heap.size, 0, none⟩ = some (.string ⟨#[]⟩) := by rw [hr2.cell 0 (by omega)]; simp [upd]
      have q1 : wf.cell? ⟨w.heap.size, 1, none⟩ = some (.int .i64 0) := by rw [hr2.cell 1 (by omega)]; simp [upd]
      clear r0 r1 f0 f1
      refine bodyPost_ret (v := .tuple #[.agg #[.string ⟨#[]⟩, .int .i64 0], .bool false]) (by simp [results, Try.results32, go_sem, q0, q1]) rfl ?_
      refine ⟨⟨none, _, _, _, rfl, fun i _ hi c => ?_, rfl, rfl, rfl⟩, hb2⟩
      by_cases e : i < lo
      · exact HNO.out i e c
      · exact HI.out i (by omega) hi c.1
    | some j =>
      have hj : j < n := HI.out.2.1
      have HKJ : Hid (ks j = p) := HI.out.2.2.1
      obtain ⟨M, HM⟩ : ∃ M, Hid (M = sk + j) := ⟨_, rfl⟩
      have hM : M < sk + n := by rw [HM.out]; omega
      have hM2 : M ≤ 100000 := by omega
      have HFM : Hid (f M = rowMk sk ys ls ti nx j) := by rw [HM.out]; exact HMK.out j hj
      simp only [enc, Option.isSome]
      rw [← HM.out]
      go_wp2_with fail
      refine (mark_gr hgr (by omega) M hM).mono ?_
      rintro e w1 ⟨⟨bb, o, rfl, hc⟩, hw⟩
      obtain rfl := hw.symm
      clear hw
      rw [HFM.out] at hc
      have c0 : wr.cell? ⟨bb, o, none⟩ = some (.int .i32 (ls j)) := hc 0 (by omega)
      have c1 : wr.cell? ⟨bb, o + 1, none⟩ = some (.int .i16 (ys j)) := hc 1 (by omega)
      have c2 : wr.cell? ⟨bb, o + 2, none⟩ = some (.int .i32 (ti j : Int)) := hc 2 (by omega)
      have c3 : wr.cell? ⟨bb, o + 3, none⟩ = some (.int .i32 (enc sk (nx j) : Int)) := hc 3 (by omega)
      obtain ⟨yj, HYJ⟩ : ∃ yj, Hid (ys j = yj) := ⟨_, rfl⟩
      rw [HYJ.out] at c1
      have hy1 := HY.out j hj
      rw [HYJ.out] at hy1
      clear hc
      by_cases hyy : yj = y
      · subst hyy
        obtain ⟨t, HT⟩ : ∃ t, Hid (ti j = t) := ⟨_, rfl⟩
        have ht := HTX.out j hj
        rw [HT.out] at ht c2
        obtain ⟨g, og, cap, d1, d2⟩ := hgr.text t ht.1
        rw [ht.2] at d2
        obtain ⟨lj, HLJ⟩ : ∃ lj, Hid (ls j = lj) := ⟨_, rfl⟩
        obtain ⟨nj, HNJ⟩ : ∃ nj, Hid (ns j = nj) := ⟨_, rfl⟩
        rw [HLJ.out] at c0
        rw [HNJ.out] at d2
        have hl1 := HLS.out j hj
        rw [HLJ.out] at hl1
        have ht1 := ht.1
        have r0 : wr.cell? ⟨w.heap.size, 0, none⟩ = some (.string ⟨#[]⟩) := hrow.cell 0 (by omega)
        have r1 : wr.cell? ⟨w.heap.size, 1, none⟩ = some (.int .i64 0) := hrow.cell 1 (by omega)
        have f0 := hrow.frozen 0
        have f1 := hrow.frozen 1
        have hl := hrow.lt
        clear ht c3
        go_wp2_with fail
        go_region
        go_wp2_with fail
        have hr2 := (hrow.set 0 (.string nj)).set 1 (.int .i64 lj)
        have hb2 : Below w.heap.size w ((wr.setCell ⟨w.heap.size, 0, none⟩ (.string nj)).setCell ⟨w.heap.size, 1, none⟩ (.int .i64 lj)).drew := below_drewN ((hb.setCell (Nat.le_refl _) _).setCell (Nat.le_refl _) _) 1
        have hr3 : Row ((wr.setCell ⟨w.heap.size, 0, none⟩ (.string nj)).setCell ⟨w.heap.size, 1, none⟩ (.int .i64 lj)).drew w.heap.size 2 61 _ := hr2.drew
        generalize ((wr.setCell ⟨w.heap.size, 0, none⟩ (.string nj)).setCell ⟨w.heap.size, 1, none⟩ (.int .i64 lj)).drew = wf at hr3 hb2 ⊢
        have q0 : wf.cell? ⟨w.heap.size, 0, none⟩ = some (.string nj) := by rw [hr3.cell 0 (by omega)]; simp [upd]
        have q1 : wf.cell? ⟨w.heap.size, 1, none⟩ = some (.int .i64 lj) := by rw [hr3.cell 1 (by omega)]; simp [upd]
        clear r0 r1 f0 f1 c0 c1 c2 d1 d2
        refine bodyPost_ret (v := .tuple #[.agg #[.string nj, .int .i64 lj], .bool true]) (by simp [results, Try.results32, go_sem, q0, q1]) rfl ?_
        refine ⟨⟨some j, _, _, _, rfl, ⟨by omega, hj, ⟨HKJ.out, HYJ.out⟩, fun i _ hi c => ?_⟩, HNJ.out.symm, HLJ.out.symm, rfl⟩, hb2⟩
        by_cases e : i < lo
        · exact HNO.out i e c
        · exact HI.out.2.2.2 i (by omega) hi c.1
      · clear c0 c2
        have HNX := HCH.out.next j hj
        have HNO2 : Hid (∀ i, i < j + 1 → ¬ (ks i = p ∧ ys i = y)) := by
          intro i hi c
          by_cases e : i < lo
          · exact HNO.out i e c
          · by_cases e2 : i = j
            · rw [e2, HYJ.out] at c; exact hyy c.2
            · exact HI.out.2.2.2 i (by omega) (by omega) c.1
        cases hx : nx j with
        | none =>
          rw [hx] at c3 HNX
          simp only [enc] at c3
          have HNX2 : Hid (IsFirst (fun i => ks i = p) (j + 1) n none) := by rw [← HKJ.out]; exact HNX
          clear HNX
          go_wp2_with fail
          go_quiet (fail)
          go_wp2_with fail
          go_roundw
          case rel => exact ⟨none, j + 1, rfl, rfl, HNX2, HNO2, hgr.drewN _, hrow.drewN _, below_drewN hb _⟩
          case measure => simp [ofMeasure, intOf]; omega
        | some j2 =>
          rw [hx] at c3 HNX
          simp only [enc] at c3
          have HNX2 : Hid (IsFirst (fun i => ks i = p) (j + 1) n (some j2)) := by rw [← HKJ.out]; exact HNX
          clear HNX
          have hj2 : j + 1 ≤ j2 ∧ j2 < n := ⟨HNX2.out.1, HNX2.out.2.1⟩
          obtain ⟨M2, HM2⟩ : ∃ M2, Hid (sk + j2 = M2) := ⟨_, rfl⟩
          have hM3 : M < M2 ∧ M2 ≤ 100000 := by rw [← HM2.out, HM.out]; omega
          have hM4 : M2 < sk + n := by rw [← HM2.out]; omega
          rw [HM2.out] at c3
          go_wp2_with fail
          go_quiet (fail)
          go_wp2_with fail
          go_roundw
          case rel => exact ⟨some j2, j + 1, by show Value.int .i32 (M2 : Int) = .int .i32 ((sk + j2 : Nat) : Int); rw [HM2.out], by simp; omega, HNX2, HNO2, hgr.drewN _, hrow.drewN _, below_drewN hb _⟩
          case measure =>
            have hne : ((M2 : Int) != 0) = true := by simp; omega
            rw [hne]
            simp [ofMeasure, intOf]; omega

end Go.Proofs.Qxb6000508a
