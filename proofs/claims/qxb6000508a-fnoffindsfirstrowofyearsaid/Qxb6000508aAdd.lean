/-
  The walks over the marks: add, mark, and the shims.
-/
import Derived.Test.Qxb6000508aProg
import Derived.Test.Qxb6000508aMarks
import Derived.WalkSpells
import Derived.Deep.QuietTactic
import Derived.BigQuiet
import Derived.Deep.RegionLaw
import Derived.RegionTactic
import Derived.BigRegion
import Derived.Deep.DeepCutAuto
namespace Go.Proofs.Qxb6000508a
open Go.RowKit Go.Maps
set_option linter.unusedVariables false

theorem info54 : (Try.prog.info? 54).map (fun i => (i.zero, i.size, i.bytes)) = some (some (.agg #[.int .i32 0, .int .i16 0, .int .i32 0, .int .i32 0]), 4, 16) := by kernel_rfl
theorem info65 : (Try.prog.info? 65).map (fun i => (i.zero, i.size, i.bytes)) = some (some (.slice none 0 0), 1, 24) := by kernel_rfl

/-- 'append' onto a slice of the call's own, as one step of a region that draws. -/
theorem step_append_own {P : Program} {ops : Array Oper} {o : Oper} {a : Act} {w : World} {K : Act → World → Prop} {Q : Exit → Act → World → Prop} {E : Prop}
    (hg : o.guard = none) (s x : Operand) (t : TypeId) (hop : o.op = Op.call { callee := Callee.builtin Builtin.append, args := #[s, x], argTypes := #[t, t] })
    (base : Nat) (e : TypeId) (i : TypeInfo) (z : Value) (size bytes : Nat) (ht : P.underlying t = some (.slice e)) (hi : P.info? e = some i) (hz : i.zero = some z)
    (hsize : i.size = size) (hby : i.bytes = bytes) (hzs : z.cells.size = size) (hsz : 0 < size)
    (v : Value) (n : Nat) (xs : List Value) (hs : a.eval s = v) (hown : w.ownsRow base e size v n xs)
    (ad : Addr) (m c : Nat) (news : List Value) (hx : a.eval x = .slice (some ad) m c) (hl : news.length = m * size) (hnews : ∀ j u, news[j]? = some u → w.cell? (ad.add j) = some u) (h1 : ∀ u ∈ news, u.oneCell' = true)
    (h63 : n + m ≤ maxLen) (hbytes : (n + m) * bytes ≤ 140737488355328) (hbase : base ≤ w.heap.size)
    (h : ∀ v' w', w'.ownsRow base e size v' (n + m) (xs ++ news) → w.grownBy w' v.ownBlock → (v'.ownBlock = v.ownBlock ∨ v'.ownBlock = some w.heap.size) → K (a.put o.dst v') w') :
    if Region.wanted o (yielded ops a.tmps) = true then Oper.wp P o a w K Q else E := by
  have hw : Region.wanted o (yielded ops a.tmps) = true := by simp [Region.wanted, hg]
  rw [if_pos hw]
  obtain ⟨v', w', hr, h2, h3, _, h5⟩ := run_append_own_at (P := P) w base t o.type e i z size bytes ht hi hz hsize hby hzs hsz v n xs hown ad m c news hl hnews h1 h63 hbytes hbase
  unfold Oper.wp execOp
  simp only [hop, resolve, invoke, builtin, Sem.run_bind, Sem.run_pure, Result.andThen_ok, List.map_toArray, List.map_cons, List.map_nil, hs, hx, hr]
  exact h v' w' h2 h3 h5

theorem news_at {W : World} {x : Value} {t b : Nat} (hb : b = W.heap.size) : ∀ j u, [x][j]? = some u → (W.alloc (.cells #[x] t)).drew.cell? ((⟨b, 0, none⟩ : Addr).add j) = some u := by
  subst hb; exact cell_one_new W x t

theorem mk_chunk : ∃ ch : Array Value, ch.size = 16384 ∧ ∀ w : World, (Instr.makeSlice 65 (.int .i64 0) (.int .i64 4096)).run Try.prog w = .ok (.slice (some ⟨w.heap.size, 0, none⟩) 0 4096) (w.alloc (.cells ch 54)) := by
  obtain ⟨i, hi, hz, hs, hb⟩ := info_parts info54
  refine ⟨madeCells #[.int .i32 0, .int .i16 0, .int .i32 0, .int .i32 0] 16384, size_madeCells _ _, fun w => ?_⟩
  have hr := run_make (P := Try.prog) w 65 54 i _ Try.underlying65 hi hz .i64 .i64 0 4096 (by omega) (by omega) (by rw [hb]; omega) (by omega)
  rw [hs] at hr
  exact hr
theorem row_of_new {w : World} {ch : Array Value} {n b : Nat} {e : TypeId} (hn : ch.size = n) (hb : b = w.heap.size) : Row (w.alloc (.cells ch e)) b n e (fun t => ch.getD t undef) := by
  subst hb
  refine ⟨ch, heap_alloc_new w _, hn, fun t ht => ?_⟩
  have : t < ch.size := by omega
  simp [this]

set_option maxRecDepth 100000 in
set_option maxHeartbeats 2000000 in
theorem add_room (bg B C r N : Nat) (bf bt : Nat) (tv : Value) (g cap : Nat) (f : Nat → Mk) (blk : Nat → Nat) (m : Mk) (w : World)
    (hG : Row w bg 6 50 (gv bf (.slice (some ⟨g, 0, none⟩) C cap) N tv bt)) (hM : GM w B (.slice (some ⟨g, 0, none⟩) C cap) C r f blk) (hC : 0 < C) (hr0 : 0 < r) (hr : r < 4096) (hN : N = (C - 1) * 4096 + r) (hN2 : N ≤ 1000000)
    (hbg : ¬ InM (.slice (some ⟨g, 0, none⟩) C cap) C blk bg) :
    Calls Try.prog 28 #[.pointer (some ⟨bg, 0, none⟩), .agg #[.int .i32 m.l, .int .i16 m.y, .int .i32 m.t, .int .i32 m.x]] w fun e w' => e = .returned (.tuple #[]) ∧
      Row w' bg 6 50 (gv bf (.slice (some ⟨g, 0, none⟩) C cap) (N + 1 : Nat) tv bt) ∧ GM w' B (.slice (some ⟨g, 0, none⟩) C cap) C (r + 1) (fun i => if i = N then m else f i) blk ∧
      Turns w w' (fun b => InM (.slice (some ⟨g, 0, none⟩) C cap) C blk b ∨ b = bg) := by
  obtain ⟨i0, hi, hz0, hz1, hz2⟩ := info_parts info54
  have hbl := hG.lt
  have hd : ((N : Int) % 4096 == 0) = false := by rw [beq_eq_false_iff_ne]; omega
  have hC2 : C ≤ 1000 := by omega
  have HN : Hid (N = (C - 1) * 4096 + r) := hN
  clear hN
  have c1 : w.cell? ⟨bg, 1, none⟩ = some (.slice (some ⟨g, 0, none⟩) C cap) := hG.cell 1 (by omega)
  have c2 : w.cell? ⟨bg, 2, none⟩ = some (.int .i32 (N : Int)) := hG.cell 2 (by omega)
  have f2 := hG.frozen 2
  obtain ⟨g', cap', F, e, hgB, hcap1, hcap2, hrow, hF, hne⟩ := hM.outer hC
  simp only [Value.slice.injEq, Option.some.injEq, Addr.mk.injEq, and_true, true_and] at e
  obtain ⟨rfl, rfl⟩ := e
  have hgl := hrow.lt
  have cL : w.cell? ⟨g, C - 1, none⟩ = some (.slice (some ⟨blk (C - 1), 0, none⟩) r 4096) := by
    rw [hrow.cell _ (by omega), hF _ (by omega)]; unfold chunkv lenf; rw [if_neg (by omega)]
  have fL := hrow.frozen (C - 1)
  obtain ⟨G, hGr, hGf⟩ := hM.rows (C - 1) (by omega)
  have hbl2 := hGr.lt
  have q0 := hGr.cell (r * 4) (by omega)
  have q1 := hGr.cell (r * 4 + 1) (by omega)
  have q2 := hGr.cell (r * 4 + 2) (by omega)
  have q3 := hGr.cell (r * 4 + 3) (by omega)
  have p0 := hGr.frozen (r * 4)
  have p1 := hGr.frozen (r * 4 + 1)
  have p2 := hGr.frozen (r * 4 + 2)
  have p3 := hGr.frozen (r * 4 + 3)
  have hx1 : blk (C - 1) ≠ g := hne _ (by omega)
  have hx2 : bg ≠ g := fun e => hbg (.inl (by rw [e]; rfl))
  have hx3 : blk (C - 1) ≠ bg := fun e => hbg (.inr ⟨C - 1, by omega, e⟩)
  go_enter Try.func28, Try.ntmps28
  go_wp2_with fail
  go_quiet (fail)
  go_wp2_with fail
  go_region
  clear q0 q1 q2 q3 p0 p1 p2 p3 cL fL hd hGf hF
  go_wp2_with fail
  go_end0
  have hS : Turns w ((w.alloc (.cells #[.int .i32 m.l, .int .i16 m.y, .int .i32 m.t, .int .i32 m.x] 54)).drewN (nq + 1)) (fun b => InM (.slice (some ⟨g, 0, none⟩) C cap) C blk b ∨ b = bg) := ((Turns.refl _ _).alloc _).drewN _
  have hM1 : GM ((w.alloc (.cells #[.int .i32 m.l, .int .i16 m.y, .int .i32 m.t, .int .i32 m.x] 54)).drewN (nq + 1)) B (.slice (some ⟨g, 0, none⟩) C cap) C r f blk :=
    hM.kept (((Turns.refl w (fun _ => False)).alloc _).drewN _) (fun _ _ c => c)
  have hM2 := hM1.push hC hr m
  have hT2 := (hS.set4 (blk (C - 1)) (r * 4) (fld m 0) (fld m 1) (fld m 2) (fld m 3) (.inl (.inl (.inr ⟨C - 1, by omega, rfl⟩)))).setCell g (C - 1) (.slice (some ⟨blk (C - 1), 0, none⟩) (r + 1) 4096) (.inl (.inl (.inl rfl)))
  have hG2 := (((hG.alloc (.cells #[.int .i32 m.l, .int .i16 m.y, .int .i32 m.t, .int .i32 m.x] 54)).drewN (nq + 1)).set4_other (fun e => hx3 e.symm) (r * 4) (fld m 0) (fld m 1) (fld m 2) (fld m 3)).set_other hx2 (C - 1) (.slice (some ⟨blk (C - 1), 0, none⟩) (r + 1) 4096)
  rw [← HN.out] at hM2
  refine ⟨rfl, ?_, ?_, ?_⟩
  · exact ((hG2.set 2 _).congr (fun t _ => gv_upd2 _ _ _ _ _ _ t)).alloc _
  · exact hM2.kept (S := fun b => b = bg) (((Turns.refl _ (fun b => b = bg)).setCell bg 2 _ (.inl rfl)).alloc _) (fun b hb e => hbg (by rw [← e]; exact hb))
  · exact (hT2.setCell bg 2 _ (.inl (.inr rfl))).alloc _

set_option maxRecDepth 100000 in
set_option maxHeartbeats 2000000 in
theorem add_new (bg B C r N : Nat) (bf bt : Nat) (v tv : Value) (f : Nat → Mk) (blk : Nat → Nat) (m : Mk) (w : World)
    (hG : Row w bg 6 50 (gv bf v N tv bt)) (hM : GM w B v C r f blk) (hr : C = 0 ∨ r = 4096) (hN : N = C * 4096) (hN2 : N ≤ 1000000)
    (hbg : ¬ InM v C blk bg) (hB : B ≤ w.heap.size) :
    Calls Try.prog 28 #[.pointer (some ⟨bg, 0, none⟩), .agg #[.int .i32 m.l, .int .i16 m.y, .int .i32 m.t, .int .i32 m.x]] w fun e w' => e = .returned (.tuple #[]) ∧ ∃ v' blk',
      Row w' bg 6 50 (gv bf v' (N + 1 : Nat) tv bt) ∧ GM w' B v' (C + 1) 1 (fun i => if i = N then m else f i) blk' ∧ (∀ b, InM v' (C + 1) blk' b → InM v C blk b ∨ w.heap.size ≤ b) ∧
      Turns w w' (fun b => InM v C blk b ∨ b = bg) := by
  obtain ⟨i0, hi, hz0, hz1, hz2⟩ := info_parts info54
  obtain ⟨i1, hj, hy0, hy1, hy2⟩ := info_parts info65
  have hbl := hG.lt
  have hd : ((N : Int) % 4096 == 0) = true := by rw [beq_iff_eq]; omega
  have hC2 : C ≤ 1000 := by omega
  have HN : Hid (N = C * 4096) := hN
  clear hN
  have c1 : w.cell? ⟨bg, 1, none⟩ = some v := hG.cell 1 (by omega)
  have c2 : w.cell? ⟨bg, 2, none⟩ = some (.int .i32 (N : Int)) := hG.cell 2 (by omega)
  have f1 := hG.frozen 1
  have f2 := hG.frozen 2
  obtain ⟨ch, hch, hmk⟩ := mk_chunk
  have hb1 : bg < w.heap.size + 1 := by omega
  have hb2 : bg < w.heap.size + 1 + 1 := by omega
  have hb3 : bg < w.heap.size + 2 := by omega
  obtain ⟨wa, hwa⟩ : ∃ wa, wa = (((w.alloc (.cells #[.int .i32 m.l, .int .i16 m.y, .int .i32 m.t, .int .i32 m.x] 54)).alloc (.cells ch 54)).alloc (.cells #[.slice (some ⟨w.heap.size + 1, 0, none⟩) 0 4096] 65)).drew := ⟨_, rfl⟩
  have HT : Turns w wa (fun _ => False) := by rw [hwa]; exact (((Turns.refl _ _).alloc _).alloc _).alloc _ |>.drewN 1
  have hMa := hM.kept HT (fun _ _ c => c)
  have hza : wa.heap.size = w.heap.size + 3 := by rw [hwa]; simp
  have hbox : Row wa w.heap.size 4 54 (fld m) := by
    rw [hwa]
    refine Row.drew (Row.alloc (Row.alloc ⟨#[.int .i32 m.l, .int .i16 m.y, .int .i32 m.t, .int .i32 m.x], heap_alloc_new w _, rfl, fun t ht => ?_⟩ _) _)
    match t, ht with
    | 0, _ => rfl
    | 1, _ => rfl
    | 2, _ => rfl
    | 3, _ => rfl
  have hchk : Row wa (w.heap.size + 1) 16384 54 (fun t => ch.getD t undef) := by
    rw [hwa]
    exact Row.drew (Row.alloc (row_of_new hch (by simp)) _)
  have HAFT : Hid (∀ v' w1, w1.ownsRow B 65 1 v' (C + 1) ((List.range C).map (chunkv blk C r) ++ [.slice (some ⟨w.heap.size + 1, 0, none⟩) 0 4096]) → wa.grownBy w1 v.ownBlock → (v'.ownBlock = v.ownBlock ∨ v'.ownBlock = some wa.heap.size) →
      ∃ g1 cap1, v' = .slice (some ⟨g1, 0, none⟩) (C + 1) cap1 ∧ w1.cell? ⟨bg, 1, none⟩ = some v ∧ w1.frozen? ⟨bg, 1, none⟩ = false ∧
        Hid (GM w1 B (.slice (some ⟨g1, 0, none⟩) (C + 1) cap1) (C + 1) 0 f (fun c => if c = C then w.heap.size + 1 else blk c) ∧ Row w1 bg 6 50 (gv bf v N tv bt) ∧ Row w1 w.heap.size 4 54 (fld m) ∧
          Turns w w1 (fun b => InM v C blk b ∨ b = bg) ∧ w.heap.size + 3 ≤ w1.heap.size ∧ g1 ≠ bg ∧ g1 ≠ w.heap.size ∧ (v.ownBlock = some g1 ∨ w.heap.size ≤ g1))) := by
    intro v' w1 h1 h2 h3
    have hvl : ∀ k, v.ownBlock = some k → k < w.heap.size := fun k hk => (hM.own.lt k hk).2
    obtain ⟨g1, cap1, hv1⟩ : ∃ g1 cap1, v' = .slice (some ⟨g1, 0, none⟩) (C + 1) cap1 := by
      rcases h1.2 with ⟨_, h0⟩ | ⟨g1, cap1, _, h0, _⟩
      · omega
      · exact ⟨g1, cap1, h0⟩
    subst hv1
    have hg1 : v.ownBlock = some g1 ∨ g1 = w.heap.size + 3 := by
      rcases h3 with h3 | h3
      · exact .inl h3.symm
      · right; simp only [Value.ownBlock, Option.some.injEq] at h3; omega
    have keep : ∀ b, b < wa.heap.size → v.ownBlock ≠ some b → w1.heap[b]? = wa.heap[b]? := fun b hb hn => h2.block b hb (fun e => hn e.symm)
    have nbg : v.ownBlock ≠ some bg := fun e => hbg (.inl e)
    have nn : ∀ b, w.heap.size ≤ b → v.ownBlock ≠ some b := fun b hb e => by have := hvl b e; omega
    have hGa : Row wa bg 6 50 (gv bf v N tv bt) := HT.row hG (fun c => c)
    have hG1 : Row w1 bg 6 50 (gv bf v N tv bt) := hGa.of_block (keep bg (by omega) nbg)
    refine ⟨g1, cap1, rfl, hG1.cell 1 (by omega), hG1.frozen 1, ?_, hG1, hbox.of_block (keep _ (by omega) (nn _ (by omega))), ?_, ?_, ?_, ?_, ?_⟩
    · refine hMa.grow hr h1 (fun c hc => keep _ (hMa.lt (.inr ⟨c, hc, rfl⟩)).1 (hM.sep c hc).1) (hchk.of_block (keep _ (by omega) (nn _ (by omega)))) (fun c hc e => ?_) (fun c hc e => ?_) (fun e => ?_) (by omega)
      · have := (hM.lt (.inr ⟨c, hc, rfl⟩)).1; omega
      · simp only [Value.ownBlock, Option.some.injEq] at e
        rcases hg1 with hg1 | hg1
        · exact (hM.sep c hc).1 (by rw [hg1, e])
        · have := (hM.lt (.inr ⟨c, hc, rfl⟩)).1; omega
      · simp only [Value.ownBlock, Option.some.injEq] at e
        rcases hg1 with hg1 | hg1
        · have := hvl _ hg1; omega
        · omega
    · exact (HT.mono (fun _ c => c.elim)).trans (Turns.of_grown h2) (fun x hx => .inl (.inl (.inl hx)))
    · have := h2.size; omega
    · rcases hg1 with hg1 | hg1
      · intro e; exact nbg (by rw [← e]; exact hg1)
      · omega
    · rcases hg1 with hg1 | hg1
      · have := hvl _ hg1; omega
      · omega
    · rcases hg1 with hg1 | hg1
      · exact .inl hg1
      · right; omega
  rw [hwa] at HAFT
  have HOWN : Hid ((((w.alloc (.cells #[.int .i32 m.l, .int .i16 m.y, .int .i32 m.t, .int .i32 m.x] 54)).alloc (.cells ch 54)).alloc (.cells #[.slice (some ⟨w.heap.size + 1, 0, none⟩) 0 4096] 65)).drew.ownsRow B 65 1 v C ((List.range C).map (chunkv blk C r))) := by
    rw [← hwa]; exact hMa.own
  have HNEWS : Hid (∀ j u, ([.slice (some ⟨w.heap.size + 1, 0, none⟩) 0 4096] : List Value)[j]? = some u → (((w.alloc (.cells #[.int .i32 m.l, .int .i16 m.y, .int .i32 m.t, .int .i32 m.x] 54)).alloc (.cells ch 54)).alloc (.cells #[.slice (some ⟨w.heap.size + 1, 0, none⟩) 0 4096] 65)).drew.cell? ((⟨w.heap.size + 2, 0, none⟩ : Addr).add j) = some u) := by
    exact news_at (by simp)
  clear HT hwa hza hMa hbox hchk hch
  go_enter Try.func28, Try.ntmps28
  go_upto_if 10 with fail
  go_cut [10] (fun _ wc => ∃ g1 cap1 : Nat, Hid (GM wc B (.slice (some ⟨g1, 0, none⟩) (C + 1) cap1) (C + 1) 0 f (fun c => if c = C then w.heap.size + 1 else blk c) ∧ Row wc bg 6 50 (gv bf (.slice (some ⟨g1, 0, none⟩) (C + 1) cap1) N tv bt) ∧ Row wc w.heap.size 4 54 (fld m) ∧
    Turns w wc (fun b => InM v C blk b ∨ b = bg) ∧ w.heap.size + 3 ≤ wc.heap.size ∧ g1 ≠ bg ∧ g1 ≠ w.heap.size ∧ (v.ownBlock = some g1 ∨ w.heap.size ≤ g1)))
  case first =>
    go_wp2_with fail
    go_region_law (refine step_append_own rfl (.tmp 15) (.tmp 17) 48 rfl B 65 i1 (.slice none 0 0) 1 24 Try.underlying48 hj hy0 hy1 hy2 rfl (by decide) v C ((List.range C).map (chunkv blk C r)) (by simp [Act.eval]) HOWN.out ⟨w.heap.size + 2, 0, none⟩ 1 1 [.slice (some ⟨w.heap.size + 1, 0, none⟩) 0 4096] (by simp [Act.eval]) rfl HNEWS.out (by intro u hu; simp at hu; subst hu; rfl) (by unfold maxLen; omega) (by omega) (by simp; omega) ?_; intro v' w1 hown1 hgrow1 hloc1; obtain ⟨g1, cap1, hv1, k1, k2, HR⟩ := HAFT.out v' w1 hown1 hgrow1 hloc1; clear hown1 hgrow1 hloc1; subst hv1)
    all_goals
      go_wp2_with fail
      go_meet
      case rel =>
        obtain ⟨h1, h2, h3, h4, h5, h6, h7, h8⟩ := HR.out
        exact ⟨g1, cap1, h1.kept (S := fun b => b = bg) ((Turns.refl _ _).setCell bg 1 _ (.inl rfl)) (fun b hb e => by
            subst e
            rcases hb with hb | ⟨c, hc, hb⟩
            · exact h6 (by simpa [Value.ownBlock] using hb)
            · by_cases e : c = C
              · simp only [e, if_true] at hb; omega
              · simp only [e, if_false] at hb; exact hbg (.inr ⟨c, by omega, hb⟩)),
          (h2.set 1 _).congr (fun t _ => gv_upd1 _ _ _ _ _ _ t), h3.set_other (by omega) _ _, h4.setCell bg 1 _ (.inl (.inr rfl)), by simpa using h5, h6, h7, h8⟩
  case rest =>
    obtain ⟨g1, cap1, HC⟩ := hcut
    obtain ⟨hM1, hG1, hb1x, hT1, hz1x, hgb, hgw, hgl⟩ := HC.out
    clear c1 c2 f1 f2 hb1 hb2 hb3 hmk HAFT HOWN HNEWS hd HC
    obtain ⟨g', cap', F, e, hgB, hcap1, hcap2, hrow, hF, hne⟩ := hM1.outer (by omega)
    simp only [Value.slice.injEq, Option.some.injEq, Addr.mk.injEq, and_true, true_and] at e
    obtain ⟨rfl, rfl⟩ := e
    have hbw : bg ≠ w.heap.size := by omega
    have hbw1 : bg ≠ w.heap.size + 1 := by omega
    have hgw1 : w.heap.size + 1 ≠ g1 := by have := hne C (by omega); simpa using this
    have c1 : wc.cell? ⟨bg, 1, none⟩ = some (.slice (some ⟨g1, 0, none⟩) (C + 1) cap1) := hG1.cell 1 (by omega)
    go_wp2_with fail
    go_quiet (fail)
    obtain ⟨wd, hwd⟩ : ∃ wd, wd = wc.drewN nq := ⟨_, rfl⟩
    rw [← hwd]
    have hG2 : Row wd bg 6 50 (gv bf (.slice (some ⟨g1, 0, none⟩) (C + 1) cap1) N tv bt) := by rw [hwd]; exact hG1
    have hb2x : Row wd w.heap.size 4 54 (fld m) := by rw [hwd]; exact hb1x
    have hrow2 : Row wd g1 cap1 65 F := by rw [hwd]; exact hrow
    have hM2 : GM wd B (.slice (some ⟨g1, 0, none⟩) (C + 1) cap1) (C + 1) 0 f (fun c => if c = C then w.heap.size + 1 else blk c) := by rw [hwd]; exact hM1.kept ((Turns.refl wc (fun _ => False)).drewN nq) (fun _ _ c => c)
    have hT2 : Turns w wd (fun b => InM v C blk b ∨ b = bg) := by rw [hwd]; exact hT1.drewN nq
    have hz2x : w.heap.size + 3 ≤ wd.heap.size := by rw [hwd]; exact hz1x
    clear c1 hwd hG1 hb1x hrow hM1 hT1 hz1x
    have c2 : wd.cell? ⟨bg, 2, none⟩ = some (.int .i32 (N : Int)) := hG2.cell 2 (by omega)
    have f2 := hG2.frozen 2
    have cL : wd.cell? ⟨g1, C, none⟩ = some (.slice (some ⟨w.heap.size + 1, 0, none⟩) 0 4096) := by
      rw [hrow2.cell _ (by omega), hF _ (by omega)]; unfold chunkv lenf; rw [if_neg (by omega)]; simp
    have fL := hrow2.frozen C
    obtain ⟨G, hGr, hGf⟩ := hM2.rows C (by omega)
    rw [if_pos rfl] at hGr
    have b0 : wd.cell? ⟨w.heap.size, 0, none⟩ = some (.int .i32 m.l) := hb2x.cell 0 (by omega)
    have b1 : wd.cell? ⟨w.heap.size, 1, none⟩ = some (.int .i16 m.y) := hb2x.cell 1 (by omega)
    have b2 : wd.cell? ⟨w.heap.size, 2, none⟩ = some (.int .i32 m.t) := hb2x.cell 2 (by omega)
    have b3 : wd.cell? ⟨w.heap.size, 3, none⟩ = some (.int .i32 m.x) := hb2x.cell 3 (by omega)
    have q0 := hGr.cell 0 (by omega)
    have q1 := hGr.cell 1 (by omega)
    have q2 := hGr.cell 2 (by omega)
    have q3 := hGr.cell 3 (by omega)
    have p0 := hGr.frozen 0
    have p1 := hGr.frozen 1
    have p2 := hGr.frozen 2
    have p3 := hGr.frozen 3
    have hl1 : bg < wd.heap.size := by omega
    have hl2 : w.heap.size < wd.heap.size := by omega
    have hl3 : w.heap.size + 1 < wd.heap.size := by omega
    have hl4 : g1 < wd.heap.size := hrow2.lt
    go_wp2_with fail
    go_region
    clear q0 q1 q2 q3 p0 p1 p2 p3 cL fL hGf hF b0 b1 b2 b3
    go_wp2_with fail
    go_end0
    have hP := hM2.push (by omega) (by omega) m
    simp only [Nat.add_sub_cancel, if_true, Nat.zero_mul, Nat.zero_add, Nat.add_zero] at hP
    rw [← HN.out] at hP
    have hT3 := (hT2.set4 (w.heap.size + 1) 0 (fld m 0) (fld m 1) (fld m 2) (fld m 3) (.inr (by omega))).setCell g1 C (.slice (some ⟨w.heap.size + 1, 0, none⟩) 1 4096) (by
      rcases hgl with h | h
      · exact .inl (.inl (.inl h))
      · exact .inr h)
    have hG3 := (hG2.set4_other hbw1 0 (fld m 0) (fld m 1) (fld m 2) (fld m 3)).set_other (fun e => hgb e.symm) C (.slice (some ⟨w.heap.size + 1, 0, none⟩) 1 4096)
    refine ⟨rfl, _, _, (((hG3.set 2 _).congr (fun t _ => gv_upd2 _ _ _ _ _ _ t)).alloc _).drew, hP.kept (S := fun b => b = bg) ((((Turns.refl _ (fun b => b = bg)).setCell bg 2 _ (.inl rfl)).alloc _).drewN 1) (fun b hb e => ?_), fun b hb => ?_, ((hT3.setCell bg 2 _ (.inl (.inr rfl))).alloc _).drewN 1⟩
    · subst e
      rcases hb with hb | ⟨c, hc, hb⟩
      · exact hgb (by simpa [Value.ownBlock] using hb)
      · by_cases e : c = C
        · simp only [e, if_true] at hb; omega
        · simp only [e, if_false] at hb; exact hbg (.inr ⟨c, by omega, hb⟩)
    · rcases hb with hb | ⟨c, hc, hb⟩
      · simp only [Value.ownBlock, Option.some.injEq] at hb
        subst hb
        rcases hgl with h | h
        · exact .inl (.inl h)
        · exact .inr h
      · by_cases e : c = C
        · simp only [e, if_true] at hb; right; omega
        · simp only [e, if_false] at hb; exact .inl (.inr ⟨c, by omega, hb⟩)

end Go.Proofs.Qxb6000508a
