/-
  size, termAt, appendEntries.
-/
import Derived.Test.Qxb6612844aCore
set_option linter.unusedVariables false
set_option linter.unusedSimpArgs false
namespace Go.Proofs.Qxb6612844a
open Go.RowKit

set_option maxHeartbeats 800000 in
theorem size_any (w : World) (T : Nat → Int) (EA : Nat → Option Addr) (RL EC : Nat → Nat) (k : Nat) (hR : RL k ≤ 1048576) :
    Calls Try.prog 39 #[.agg (entC T EA RL EC k).toArray] w fun e w' => e = .returned (.int .i64 (32 + (RL k : Int))) ∧ Below w.heap.size w w' := by
  unfold entC
  go_enter Try.func39, Try.ntmps39
  go_wp2
  go_ret
  exact ⟨by first | rfl | go_num, (Below.refl _ _).alloc (Nat.le_refl _) _⟩

set_option maxHeartbeats 800000 in
theorem term_zero (w : World) (g : Nat) (si : Nat) (st : Int) (hc : w.cell? ⟨g, 12, none⟩ = some (.int .u64 si)) (hs : w.cell? ⟨g, 13, none⟩ = some (.int .u64 st)) :
    Calls Try.prog 52 #[.pointer (some ⟨g, 0, none⟩), .int .u64 (si : Int)] w fun e w' => e = .returned (.int .u64 st) ∧ Below w.heap.size w w' := by
  go_enter Try.func52, Try.ntmps52
  go_wp2
  go_ret
  exact ⟨rfl, Below.refl _ _⟩

theorem run_fld0 (a b c d : Value) (w : World) : (Instr.field 61 (.agg #[a, b, c, d]) 0).run Try.prog w = .ok a w := by kernel_rfl

set_option maxHeartbeats 800000 in
theorem term_succ (w : World) (g : Nat) (si n c k h : Nat) (T : Nat → Int) (EA : Nat → Option Addr) (RL EC : Nat → Nat) (hc : w.cell? ⟨g, 12, none⟩ = some (.int .u64 si)) (h16 : w.cell? ⟨g, 16, none⟩ = some (.slice (some ⟨h, 0, none⟩) n c)) (hsn : si + n < 18446744073709551615) (hn : n ≤ 65536)
    (hk : k < n) (hh : h < w.heap.size) (hent : w.rangeAt h (k * 4) (entC T EA RL EC k)) :
    Calls Try.prog 52 #[.pointer (some ⟨g, 0, none⟩), .int .u64 ((si : Int) + 1 + (k : Int))] w fun e w' => e = .returned (.int .u64 (T k)) ∧ Below w.heap.size w w' := by
  have hE := entry_any w g si n c k h T EA RL EC hc h16 hsn hn hk hh hent
  have HE : Hid (Calls Try.prog 38 #[.pointer (some ⟨g, 0, none⟩), .int .u64 ((si : Int) + 1 + (k : Int))] w fun e w' => e = .returned (.agg #[.int .u64 (T k), .slice (EA k) (RL k) (EC k), .int .u8 0, .pointer none]) ∧ Below w.heap.size w w') := hE
  clear hE h16 hent
  have hne : (((si : Int) + 1 + (k : Int)) == (si : Int)) = false := by simp; omega
  go_enter Try.func52, Try.ntmps52
  have hfl := run_fld0
  go_wp2_with (first | (go_at_call 38; refine HE.out.mono ?_; rintro e w1 ⟨rfl, hb1⟩))
  go_ret
  exact ⟨rfl, hb1⟩

end Go.Proofs.Qxb6612844a
