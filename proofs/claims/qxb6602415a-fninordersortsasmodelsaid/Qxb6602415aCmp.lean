/-
  The walk of inOrder's closure.
-/
import Derived.Test.Qxb6602415aStrs
namespace Go.Proofs.Qxb6602415a
open Go.RowKit
set_option linter.unusedVariables false

def cfk (o : Int) (x y : ByteArray) : Int := if kb o x y then -1 else if kb o y x then 1 else 0

theorem ret_int {k : IntKind} {a b : Int} (h : a = b) : Ending.returned (.int k a) = .returned (.int k b) := by rw [h]

set_option maxRecDepth 100000 in
set_option maxHeartbeats 1000000 in
theorem closure_calls (b3 b4 bm n : Nat) (o : Int) (x y : Nat) (kx ky : ByteArray) (W : World) (hx : x < n) (hy : y < n) (hn : n ≤ 1048576)
    (c3 : W.cell? ⟨b3, 0, none⟩ = some (.slice (some ⟨bm, 0, none⟩) n n)) (c4 : W.cell? ⟨b4, 0, none⟩ = some (.int .u8 o))
    (m1 : W.cell? ⟨bm, x * 6, none⟩ = some (.string kx)) (m2 : W.cell? ⟨bm, y * 6, none⟩ = some (.string ky)) :
    Calls Try.prog 25 #[.int .i64 (x : Int), .int .i64 (y : Int), .pointer (some ⟨b3, 0, none⟩), .pointer (some ⟨b4, 0, none⟩)] W fun e w' => e = .returned (.int .i64 (cfk o kx ky)) ∧ ∃ q, w' = W.drewN q := by
  go_enter Try.func25, Try.ntmps25
  go_wp2_with fail
  go_quiet (fail)
  go_wp2_with (go_at_call 26; refine (less_calls _ _ _ _).mono ?_; rintro e w' ⟨rfl, hw⟩; obtain rfl := hw.symm; clear hw)
  · rename_i h1
    go_ret
    exact ⟨ret_int (by simp [cfk, h1]), _, rfl⟩
  · rename_i h1 h2
    go_ret
    exact ⟨ret_int (by simp [cfk, h1, h2]), _, rfl⟩
  · rename_i h1 h2
    go_ret
    exact ⟨ret_int (by simp [cfk, h1, h2]), _, rfl⟩

end Go.Proofs.Qxb6602415a
