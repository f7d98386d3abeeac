/-
  THE LAW, where it lets its input by.
-/
import Derived.Test.Qxb6612844aWalks
set_option linter.unusedVariables false
set_option linter.unusedSimpArgs false
namespace Go.Proofs.Qxb6612844a
open Go.RowKit

set_option maxHeartbeats 8000000 in
set_option maxRecDepth 400000 in
theorem law_early (w : World) (id term role : Int) (si : Nat) (st commit to nx mx : Int) (has : Bool) (B n m nc mc : Nat) (A1 A2 : Option Addr) (T : Nat → Int) (RA : Nat → Option Addr) (RL RC : Nat → Nat) (Z : Nat → Nat → Int)
    (hn : n ≤ 9223372036854775807) (hm : m ≤ 9223372036854775807) (hRL : ∀ i, RL i ≤ 9223372036854775807) (hB : B ≤ w.heap.size) (h1 : Row w B .u64 A1 n T) (h2 : Cmds w B A2 m RA RL RC Z)
    (hsi : si < 18446744073709551616) (hco : 0 ≤ commit) (hnx : 0 ≤ nx) (hno : ¬ (n = m ∧ n ≤ 65536 ∧ si + n < 18446744073709551615 ∧ (si : Int) ≤ commit ∧ commit ≤ (si : Int) + (n : Int) ∧ (has = true → nx ≤ (si : Int) + (n : Int) + 1))) :
    Calls Try.prog 8 #[.int .u64 id, .int .u64 term, .int .i64 role, .int .u64 si, .int .u64 st, .slice A1 n nc, .slice A2 m mc, .int .u64 commit, .int .u64 to, .bool has, .int .u64 nx, .int .i64 mx] w fun e w' => e = .returned (.bool true) ∧ Below w.heap.size w w' := by
  have CB := bytes_any w B n m nc mc A1 A2 RA RL RC Z (.int .u64 id) (.int .u64 term) (.int .i64 role) (.int .u64 si) (.int .u64 st) (.int .u64 commit) (.int .u64 to) (.bool has) (.int .u64 nx) (.int .i64 mx) hn hm hRL h2
  have H1 : Hid (Row w B .u64 A1 n T) := h1
  have H2 : Hid (Cmds w B A2 m RA RL RC Z) := h2
  have HNO : Hid (¬ (n = m ∧ n ≤ 65536 ∧ si + n < 18446744073709551615 ∧ (si : Int) ≤ commit ∧ commit ≤ (si : Int) + (n : Int) ∧ (has = true → nx ≤ (si : Int) + (n : Int) + 1))) := hno
  clear h1 h2 hRL hno
  go_enter Try.func8, Try.ntmps8
  go_wp2_with fail
  refine CB.mono ?_
  rintro _ _ ⟨rfl | ⟨rfl, hF⟩, rfl⟩
  · go_wp2
    go_ret
    exact ⟨rfl, Below.refl _ _⟩
  clear CB
  have HF : Hid (Fits n m RL) := hF
  clear hF
  by_cases n1 : n ≤ 65536
  case neg =>
    go_wp2
    go_ret
    exact ⟨rfl, Below.refl _ _⟩
  by_cases m1 : m ≤ 65536
  case neg =>
    go_wp2
    go_ret
    exact ⟨rfl, Below.refl _ _⟩
  go_wp2_with fail
  refine (logBytes_any w B n m nc mc A1 A2 RA RL RC Z n1 m1 HF.out H2.out).mono ?_
  rintro _ _ ⟨⟨t, rfl⟩, rfl⟩
  by_cases t1 : t ≤ 1048576
  case neg =>
    go_wp2
    go_ret
    exact ⟨rfl, Below.refl _ _⟩
  by_cases nm : n = m
  case neg =>
    go_wp2
    go_ret
    exact ⟨rfl, Below.refl _ _⟩
  subst nm
  by_cases s1 : si + n < 18446744073709551615
  case neg =>
    have s2 : (18446744073709551615 : Int) - (n : Int) - 1 < (si : Int) := by omega
    go_wp2
    go_ret
    exact ⟨rfl, Below.refl _ _⟩
  have s2 : (si : Int) ≤ (18446744073709551615 : Int) - (n : Int) - 1 := by omega
  by_cases c1 : (si : Int) ≤ commit
  case neg =>
    go_wp2
    go_ret
    exact ⟨rfl, Below.refl _ _⟩
  by_cases c2 : commit ≤ (si : Int) + (n : Int)
  case neg =>
    go_wp2
    go_ret
    exact ⟨rfl, Below.refl _ _⟩
  cases has with
  | false => exact absurd ⟨rfl, n1, s1, c1, c2, fun h => by cases h⟩ HNO.out
  | true =>
    by_cases x1 : nx ≤ (si : Int) + (n : Int) + 1
    · exact absurd ⟨rfl, n1, s1, c1, c2, fun _ => x1⟩ HNO.out
    · go_wp2
      go_ret
      exact ⟨rfl, Below.refl _ _⟩

end Go.Proofs.Qxb6612844a
