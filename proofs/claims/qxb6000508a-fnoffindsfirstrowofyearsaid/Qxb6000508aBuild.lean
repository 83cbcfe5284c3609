/-
  The walk of zzBuild.
-/
import Derived.Test.Qxb6000508aGr
import Derived.Test.Qxb6000508aChain
import Derived.Deep.RegionWith
namespace Go.Proofs.Qxb6000508a
open Go.RowKit Go.Maps
set_option linter.unusedVariables false

def off (sk : Nat) (fr : ByteArray → Option Nat) (p : ByteArray) : Option Nat := (fr p).map fun j => sk + j
def rowMk (sk : Nat) (ys ls : Nat → Int) (ti : Nat → Nat) (nx : Nat → Option Nat) (j : Nat) : Mk := ⟨ls j, ys j, (ti j : Int), (enc sk (nx j) : Int)⟩

/-- What zzBuild has laid after k rows. -/
structure Built (w : World) (B bg bf bt sk k : Nat) (ks ns : Nat → ByteArray) (ys ls : Nat → Int) (T : Nat) (tx : Nat → ByteArray) (ix fr la : ByteArray → Option Nat) (nx : Nat → Option Nat) (ti : Nat → Nat) (f : Nat → Mk) (S : Nat → Prop) : Prop where
  gr : Gr w B bg bf bt (sk + k) f T tx ix (off sk fr) S
  chain : Chain k ks fr la nx
  mark : ∀ j, j < k → f (sk + j) = rowMk sk ys ls ti nx j
  text : ∀ j, j < k → ix (ns j) = some (ti j)

def addF (f : Nat → Mk) (N : Nat) (m : Mk) (i : Nat) : Mk := if i = N then m else f i
def setF (f : Nat → Mk) (M : Nat) (x : Int) (i : Nat) : Mk := if i = M then { f M with x := x } else f i

theorem mark_link {sk k N M jj j : Nat} {ys ls : Nat → Int} {ti : Nat → Nat} {nx : Nat → Option Nat} {f : Nat → Mk} (h : ∀ i, i < k → f (sk + i) = rowMk sk ys ls ti nx i) (hj : jj < k) (hN : N = sk + k) (hM : M = sk + jj) (i : Nat) (hi : i < k + 1) :
    setF (addF f N ⟨ls k, ys k, (j : Int), 0⟩) M (N : Int) (sk + i) = rowMk sk ys ls (fun i => if i = k then j else ti i) (fun i => if i = jj then some k else if i = k then none else nx i) i := by
  subst hN hM
  unfold setF
  by_cases e : i = jj
  · subst e
    have e1 : addF f (sk + k) ⟨ls k, ys k, (j : Int), 0⟩ (sk + i) = f (sk + i) := by unfold addF; rw [if_neg (by omega)]
    rw [if_pos rfl, e1, h i hj]
    simp [rowMk, enc, show i ≠ k by omega]
  · rw [if_neg (by omega)]
    unfold addF
    by_cases e2 : i = k
    · subst e2
      rw [if_pos rfl]
      simp [rowMk, enc, e]
    · rw [if_neg (by omega), h i (by omega)]
      simp [rowMk, e, e2]

theorem mark_start {sk k N j : Nat} {ys ls : Nat → Int} {ti : Nat → Nat} {nx : Nat → Option Nat} {f : Nat → Mk} (h : ∀ i, i < k → f (sk + i) = rowMk sk ys ls ti nx i) (hN : N = sk + k) (i : Nat) (hi : i < k + 1) :
    addF f N ⟨ls k, ys k, (j : Int), 0⟩ (sk + i) = rowMk sk ys ls (fun i => if i = k then j else ti i) (fun i => if i = k then none else nx i) i := by
  subst hN
  unfold addF
  by_cases e2 : i = k
  · subst e2
    rw [if_pos rfl]
    simp [rowMk, enc]
  · rw [if_neg (by omega), h i (by omega)]
    simp [rowMk, e2]

theorem text_step {T : Nat} {tx : Nat → ByteArray} {ix : ByteArray → Option Nat} {ns : Nat → ByteArray} {k j T' : Nat} {tx' : Nat → ByteArray} {ix' : ByteArray → Option Nat} {ti : Nat → Nat} (hs : Step T tx ix (ns k) j T' tx' ix') (h : ∀ i, i < k → ix (ns i) = some (ti i)) (i : Nat) (hi : i < k + 1) :
    ix' (ns i) = some (if i = k then j else ti i) := by
  by_cases e : i = k
  · subst e; simp [hs.here]
  · rw [if_neg e]; exact hs.keeps (h i (by omega))

theorem off_push (sk k N : Nat) (kk : ByteArray) (la : ByteArray → Option Nat) (hN : N = sk + k) (p : ByteArray) : (if p = kk then some (.int .i32 (N : Int)) else mv (off sk la) p) = mv (off sk fun p => if p = kk then some k else la p) p := by
  subst hN
  unfold mv off
  by_cases e : p = kk
  · simp [e]
  · simp [e]

theorem off_first (sk k N : Nat) (kk : ByteArray) (fr : ByteArray → Option Nat) (hN : N = sk + k) : (fun y => if y = kk then some N else off sk fr y) = off sk fun p => if p = kk then some k else fr p := by
  subst hN
  funext p
  unfold off
  by_cases e : p = kk
  · simp [e]
  · simp [e]

set_option maxRecDepth 100000 in
set_option maxHeartbeats 2000000 in
theorem build_calls (sk n : Nat) (a1 a2 a3 a4 : Option Addr) (n1 n2 n3 n4 c1 c2 c3 c4 : Nat) (ks ns : Nat → ByteArray) (ys ls : Nat → Int) (w : World) (hsk : sk ≤ 8192) (hn : n ≤ 1024) (h1 : n ≤ n1) (h2 : n ≤ n2) (h3 : n ≤ n3) (h4 : n ≤ n4) (m1 : n1 ≤ 1048576) (m2 : n2 ≤ 1048576) (m3 : n3 ≤ 1048576) (m4 : n4 ≤ 1048576)
    (hR1 : Reads w a1 n1 (fun t => .string (ks t))) (hR2 : Reads w a2 n2 (fun t => .int .i16 (ys t))) (hR3 : Reads w a3 n3 (fun t => .string (ns t))) (hR4 : Reads w a4 n4 (fun t => .int .i32 (ls t))) (hlim : ∀ t, t < n3 → (ns t).size ≤ 1048576) :
    Calls Try.prog 25 #[.int .i64 (sk : Int), .slice a1 n1 c1, .slice a2 n2 c2, .slice a3 n3 c3, .slice a4 n4 c4, .int .i64 (n : Int)] w fun e w' => e = .returned (.pointer (some ⟨w.heap.size + 2, 0, none⟩)) ∧ Below w.heap.size w w' ∧
      ∃ T tx ix fr la nx ti f, T ≤ n ∧ Built w' w.heap.size (w.heap.size + 2) w.heap.size (w.heap.size + 1) sk n ks ns ys ls T tx ix fr la nx ti f (fun b => w.heap.size ≤ b) := by
  have HL : Hid (∀ t, t < n3 → (ns t).size ≤ 1048576) := hlim
  clear hlim
  have hmm := @run_makeMap Try.prog
  go_enter Try.func25, Try.ntmps25
  go_wp2_with fail
  refine (new_calls w).mono ?_
  rintro e w0 ⟨rfl, hG0, hF0, hS0, hb0, hz0⟩
  have hg0 : Gr w0 w.heap.size (w.heap.size + 2) w.heap.size (w.heap.size + 1) 0 (fun _ => ⟨0, 0, 0, 0⟩) 0 ks (fun _ => none) (fun _ => none) (fun b => w.heap.size ≤ b) :=
    ⟨_, 0, 0, id, _, ⟨hG0, World.ownsRow_nil _ _ 9 1, hS0, coh_nil ks, by simp [Value.ownBlock], by simp [Value.ownBlock], by omega⟩, gm_nil _ _ _ _, .inl ⟨rfl, rfl, rfl⟩, hF0, fun b c => by rcases c with c | ⟨_, c, _⟩ <;> simp [Value.ownBlock] at c, fun c => by rcases c with c | c | c <;> (first | (simp [Value.ownBlock] at c; done) | omega), fun b c => by
      rcases c with (c | ⟨_, c, _⟩) | (c | c | c) | c
      · simp [Value.ownBlock] at c
      · omega
      · simp [Value.ownBlock] at c
      · omega
      · omega
      · omega⟩
  have HZ0 : Hid (w0.heap.size = w.heap.size + 3) := hz0
  clear hG0 hF0 hS0 hz0
  go_wp2_with fail
  go_loopw [14] (fun i wr => ∃ k : Nat, k ≤ sk ∧ i = .int .i64 k ∧ Gr wr w.heap.size (w.heap.size + 2) w.heap.size (w.heap.size + 1) k (fun _ => ⟨0, 0, 0, 0⟩) 0 ks (fun _ => none) (fun _ => none) (fun b => w.heap.size ≤ b) ∧ Below w.heap.size w wr) (fun i _ => sk - (intOf i).toNat)
  case atStart => exact ⟨0, Nat.zero_le _, rfl, hg0, hb0⟩
  case round =>
    clear hg0 hb0
    obtain ⟨k, hk, rfl, hg, hb⟩ := hrel
    by_cases hlt : k < sk
    · clear hmm
      go_wp2_with fail
      refine (zzAdd_gr hg (by omega) hb.size ⟨0, 0, 0, 0⟩).mono ?_
      rintro e w1 ⟨rfl, hg1, hT1⟩
      go_wp2_with fail
      go_roundw
      case rel =>
        have := hb.size
        exact ⟨k + 1, by omega, by go_num, (hg1.mono (fun b hb' => by omega)).congr (fun i _ => by by_cases e : i = k <;> simp [e]), hb.trans (hT1.below hb.size (fun x hx => hx))⟩
      case measure => simp [intOf]; omega
    · have E : Hid (k = sk) := show k = sk by omega
      rw [E.out] at hg
      clear E
      have hgx : Gr wr w.heap.size (w.heap.size + 2) w.heap.size (w.heap.size + 1) (sk + 0) (fun _ => ⟨0, 0, 0, 0⟩) 0 ks (fun _ => none) (off sk (fun _ => none)) (fun b => w.heap.size ≤ b ∧ b ≠ wr.heap.size) := by
        obtain ⟨v, C, r, blk, tv, g1, g2, g3, g4, g5, g6, g7⟩ := hg
        refine ⟨v, C, r, blk, tv, g1, g2, g3, g4, g5, g6, fun b hb' => ⟨g7 b hb', ?_⟩⟩
        rcases hb' with c | (c | c | c) | c
        · have := (g2.lt c).1; omega
        · have := (g1.own.lt b c).2; omega
        · have := g1.row.lt; omega
        · have := g1.map.lt; omega
        · have := g4.lt; omega
      have hsz := hb.size
      go_wp2_with fail
      clear hmm
      obtain ⟨bl, Hbl⟩ : ∃ bl, Hid (wr.heap.size = bl) := ⟨_, rfl⟩
      have hblw : w.heap.size ≤ bl := by rw [← Hbl.out]; exact hsz
      obtain ⟨wl, Hwl⟩ : ∃ wl, Hid (wr.alloc (.map #[] 0) = wl) := ⟨_, rfl⟩
      have hg0 : Gr wl w.heap.size (w.heap.size + 2) w.heap.size (w.heap.size + 1) (sk + 0) (fun _ => ⟨0, 0, 0, 0⟩) 0 ks (fun _ => none) (off sk (fun _ => none)) (fun b => w.heap.size ≤ b ∧ b ≠ bl) := by
        rw [← Hwl.out, ← Hbl.out]; exact hgx.kept ((Turns.refl _ (fun _ => False)).alloc _) (fun _ _ c => c)
      have hl0 : SMap wl bl (mv (off sk (fun _ => none))) := by rw [← Hwl.out, ← Hbl.out]; exact SMap.made wr
      have hb0 : Below w.heap.size w wl := by rw [← Hwl.out]; exact hb.alloc hsz _
      rw [Hbl.out, Hwl.out]
      clear hgx hg hb hsz Hbl Hwl hk hlt
      go_loopw [16, 17, 18, 19, 20] (fun i _ _ _ _ wm => ∃ k T tx ix fr la nx ti f, k ≤ n ∧ i = .int .i64 (k : Nat) ∧ T ≤ k ∧ Built wm w.heap.size (w.heap.size + 2) w.heap.size (w.heap.size + 1) sk k ks ns ys ls T tx ix fr la nx ti f (fun b => w.heap.size ≤ b ∧ b ≠ bl) ∧ SMap wm bl (mv (off sk la)) ∧ Below w.heap.size w wm) (fun i _ _ _ _ _ => n - (intOf i).toNat)
      case atStart => exact ⟨0, 0, ks, fun _ => none, fun _ => none, fun _ => none, fun _ => none, fun _ => 0, fun _ => ⟨0, 0, 0, 0⟩, Nat.zero_le _, rfl, Nat.le_refl _, ⟨hg0, chain_nil ks, fun j hj => absurd hj (by omega), fun j hj => absurd hj (by omega)⟩, hl0, hb0⟩
      case round =>
        clear hg0 hl0 hb0
        obtain ⟨k, T, tx, ix, fr, la, nx, ti, f, hk, rfl, hTk, hB, hla, hb⟩ := hrel
        by_cases hlt : k < n
        · obtain ⟨N, HN⟩ : ∃ N, Hid (N = sk + k) := ⟨_, rfl⟩
          have hN1 : N ≤ 100000 := by have := HN.out; omega
          obtain ⟨hgr, hch, hmk, htx⟩ := hB
          have HCH : Hid (Chain k ks fr la nx) := hch
          have HMK : Hid (∀ j, j < k → f (sk + j) = rowMk sk ys ls ti nx j) := hmk
          have HTX : Hid (∀ j, j < k → ix (ns j) = some (ti j)) := htx
          clear hch hmk htx
          rw [← HN.out] at hgr
          have hbl1 := hla.lt
          have hsz := hb.size
          obtain ⟨b3, o3, rfl, hc3⟩ := (hR3.below hb).at (by omega)
          have hk3 := hc3 k (by omega)
          clear hc3
          go_wp2_with fail
          refine (zzIntern_gr hgr (ns k) (by omega) (HL.out k (by omega)) hb.size).mono ?_
          rintro e w1 ⟨j, rfl, T', tx', ix', hg1', hT1, hst⟩
          have hle := hst.le
          have HST : Hid (Step T tx ix (ns k) j T' tx' ix') := hst
          have hg1 : Gr w1 w.heap.size (w.heap.size + 2) w.heap.size (w.heap.size + 1) N f T' tx' ix' (off sk fr) (fun b => w.heap.size ≤ b ∧ b ≠ bl) := hg1'.mono (fun b c => by omega)
          have hb1 : Below w.heap.size w w1 := hb.trans (hT1.below hb.size (fun x hx => hx.1))
          have hla1 : SMap w1 bl (mv (off sk la)) := hla.turns hT1 (fun c => c.2 rfl)
          clear hst hg1' hgr hk3 hla hbl1 hsz hT1 hb
          go_wp2_with fail
          refine (zzCount_gr hg1).mono ?_
          rintro e w2 ⟨rfl, hw⟩
          obtain rfl := hw.symm
          clear hw
          have hbl1 := hla1.lt
          have hsz := hb1.size
          obtain ⟨b1, o1, rfl, hc1⟩ := (hR1.below hb1).at (by omega)
          obtain ⟨b2, o2, rfl, hc2⟩ := (hR2.below hb1).at (by omega)
          obtain ⟨b4, o4, rfl, hc4⟩ := (hR4.below hb1).at (by omega)
          have hk2 := hc2 k (by omega)
          have hk4 := hc4 k (by omega)
          clear hc1 hc2 hc4
          go_upto_region 12 with fail
          go_cut [53] (fun _ wc => Gr wc w.heap.size (w.heap.size + 2) w.heap.size (w.heap.size + 1) (N + 1) (addF f N ⟨ls k, ys k, (j : Int), 0⟩) T' tx' ix' (off sk fr) (fun b => w.heap.size ≤ b ∧ b ≠ bl) ∧ SMap wc bl (mv (off sk la)) ∧ Below w.heap.size w wc)
          case first =>
            go_wp2_with fail
            go_region_with (go_at_call 16; refine (zzAdd_gr (hg1.drewN _) (by omega) hb1.size ⟨ls k, ys k, (j : Int), 0⟩).mono ?_; rintro e w2 ⟨rfl, hg2, hT2⟩)
            all_goals
              go_wp2_with fail
              go_meet
              case rel =>
                refine ⟨hg2.mono (fun b c => ?_), (hla1.drewN _).turns hT2 (fun c => c.2 rfl), (below_drewN hb1 _).trans (hT2.below hb1.size (fun x hx => hx.1))⟩
                rcases c with c | c
                · exact c
                · have c : w1.heap.size ≤ b := c
                  omega
          case rest =>
            obtain ⟨hg2, hla2, hb2⟩ := hcut
            clear hg1 hla1 hb1 hk2 hk4 hbl1 hsz
            have hbl1 := hla2.lt
            have hsz := hb2.size
            obtain ⟨b1', o1', e1, hc1⟩ := (hR1.below hb2).at (by omega)
            simp only [Option.some.injEq, Addr.mk.injEq, and_true] at e1
            obtain ⟨rfl, rfl⟩ := e1
            have hk1 := hc1 k (by omega)
            clear hc1
            obtain ⟨kk, HKK⟩ : ∃ kk, Hid (ks k = kk) := ⟨_, rfl⟩
            rw [HKK.out] at hk1
            cases hl : la kk with
            | some jj =>
              obtain ⟨M, HM⟩ : ∃ M, Hid (M = sk + jj) := ⟨_, rfl⟩
              have HLJ : Hid (la (ks k) = some jj) := by rw [HKK.out]; exact hl
              have hjj : jj < k := by have := HCH.out.last (ks k); rw [HLJ.out] at this; exact this.1
              have hMN : M < N := by rw [HM.out, HN.out]; omega
              have HV : Hid (mv (off sk la) kk = some (.int .i32 (M : Int))) := mv_some (by unfold off; rw [hl, HM.out]; rfl)
              clear hl
              go_wp2_with (at_lookup; refine wpList_lookup_s rfl _ _ 47 true rfl 9 21 Try.underlying47 Try.underlying9 (zero21 _) hla2 kk rfl rfl (.tuple #[.int .i32 (M : Int), .bool true]) (by rw [HV.out]; rfl) ?_)
              go_wp2_with fail
              refine (setNext_gr hg2 (by omega) M (by omega) (N : Int)).mono ?_
              rintro e w3 ⟨rfl, hg3', hT3⟩
              have hg3 : Gr w3 w.heap.size (w.heap.size + 2) w.heap.size (w.heap.size + 1) (N + 1) (setF (addF f N ⟨ls k, ys k, (j : Int), 0⟩) M (N : Int)) T' tx' ix' (off sk fr) (fun b => w.heap.size ≤ b ∧ b ≠ bl) := hg3'.mono (fun b c => by omega)
              have hla3 := hla2.turns hT3 (fun c => c.2 rfl)
              have hb3 : Below w.heap.size w w3 := hb2.trans (hT3.below hb2.size (fun x hx => hx.1))
              obtain ⟨b1', o1', e1, hc1⟩ := (hR1.below hb3).at (by omega)
              simp only [Option.some.injEq, Addr.mk.injEq, and_true] at e1
              obtain ⟨rfl, rfl⟩ := e1
              have hk1' := hc1 k (by omega)
              rw [HKK.out] at hk1'
              have hbl3 := hla3.lt
              clear hc1 hk1 hg3' hT3 hg2 hla2 hb2 hbl1 hsz
              go_wp2_with (at_mapUpdate; refine wpList_mapUpdate_s rfl _ _ _ 47 rfl 9 21 Try.underlying47 Try.underlying9 hla3 kk (.int .i32 (N : Int)) rfl rfl rfl ?_)
              intro w4 hS4 hg4 hz4
              go_wp2_with fail
              go_roundw
              case rel =>
                have hT4 := Turns.of_grown hg4
                refine ⟨k + 1, T', tx', ix', fr, fun p => if p = ks k then some k else la p, fun i => if i = jj then some k else if i = k then none else nx i, fun i => if i = k then j else ti i, setF (addF f N ⟨ls k, ys k, (j : Int), 0⟩) M (N : Int), by omega, by go_num, by omega, ⟨?_, HCH.out.link HLJ.out, mark_link HMK.out hjj HN.out HM.out, text_step HST.out HTX.out⟩, hS4.congr fun p => ?_, hb3.trans (hT4.below hb3.size (fun x hx => by injection hx with hx; omega))⟩
                · have e : sk + (k + 1) = N + 1 := by rw [HN.out]; omega
                  rw [e]
                  exact hg3.kept hT4 (fun b c e => c.2 (by injection e with e; exact e.symm))
                · rw [HKK.out]; exact off_push sk k N kk la HN.out p
              case measure => simp [intOf]; omega
            | none =>
              have HLJ : Hid (la (ks k) = none) := by rw [HKK.out]; exact hl
              have HV : Hid (mv (off sk la) kk = none) := mv_none (by unfold off; rw [hl]; rfl)
              clear hl
              go_wp2_with (at_lookup; refine wpList_lookup_s rfl _ _ 47 true rfl 9 21 Try.underlying47 Try.underlying9 (zero21 _) hla2 kk rfl rfl (.tuple #[.int .i32 0, .bool false]) (by rw [HV.out]; rfl) ?_)
              go_wp2_with fail
              refine (setFirst_gr hg2 kk N).mono ?_
              rintro e w3 ⟨rfl, hg3', hT3⟩
              have hg3 : Gr w3 w.heap.size (w.heap.size + 2) w.heap.size (w.heap.size + 1) (N + 1) (addF f N ⟨ls k, ys k, (j : Int), 0⟩) T' tx' ix' (off sk fun p => if p = kk then some k else fr p) (fun b => w.heap.size ≤ b ∧ b ≠ bl) := by rw [← off_first sk k N kk fr HN.out]; exact hg3'
              have hla3 := hla2.turns hT3 (fun c => c.2 rfl)
              have hb3 : Below w.heap.size w w3 := hb2.trans (hT3.below hb2.size (fun x hx => hx.1))
              obtain ⟨b1', o1', e1, hc1⟩ := (hR1.below hb3).at (by omega)
              simp only [Option.some.injEq, Addr.mk.injEq, and_true] at e1
              obtain ⟨rfl, rfl⟩ := e1
              have hk1' := hc1 k (by omega)
              rw [HKK.out] at hk1'
              have hbl3 := hla3.lt
              clear hc1 hk1 hg3' hT3 hg2 hla2 hb2 hbl1 hsz
              go_wp2_with (at_mapUpdate; refine wpList_mapUpdate_s rfl _ _ _ 47 rfl 9 21 Try.underlying47 Try.underlying9 hla3 kk (.int .i32 (N : Int)) rfl rfl rfl ?_)
              intro w4 hS4 hg4 hz4
              go_wp2_with fail
              go_roundw
              case rel =>
                have hT4 := Turns.of_grown hg4
                refine ⟨k + 1, T', tx', ix', fun p => if p = ks k then some k else fr p, fun p => if p = ks k then some k else la p, fun i => if i = k then none else nx i, fun i => if i = k then j else ti i, addF f N ⟨ls k, ys k, (j : Int), 0⟩, by omega, by go_num, by omega, ⟨?_, HCH.out.start HLJ.out, mark_start HMK.out HN.out, text_step HST.out HTX.out⟩, hS4.congr fun p => ?_, hb3.trans (hT4.below hb3.size (fun x hx => by injection hx with hx; omega))⟩
                · have e : sk + (k + 1) = N + 1 := by rw [HN.out]; omega
                  rw [e, HKK.out]
                  exact hg3.kept hT4 (fun b c e => c.2 (by injection e with e; exact e.symm))
                · rw [HKK.out]; exact off_push sk k N kk la HN.out p
              case measure => simp [intOf]; omega
        · have E : k = n := by omega
          go_wp2_with fail
          go_ret
          subst E
          exact ⟨rfl, hb, T, tx, ix, fr, la, nx, ti, f, hTk, ⟨hB.gr.mono (fun b c => c.1), hB.chain, hB.mark, hB.text⟩⟩

end Go.Proofs.Qxb6000508a
