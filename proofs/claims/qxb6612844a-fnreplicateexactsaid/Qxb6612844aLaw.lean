/-
  THE LAW, FnReplicateExact, at any input.
-/
import Derived.Test.Qxb6612844aEarly
import Derived.Test.Qxb6612844aNoNot
import Derived.Test.Qxb6612844aYesA
import Derived.Test.Qxb6612844aYesB
import Derived.Test.Qxb6612844aYesC
import Derived.Test.Qxb6612844aYesD
namespace Go.Proofs.Qxb6612844a
open Go.RowKit Go.Maps Go.WideMaps

theorem law_any (w : World) (id term role : Int) (si : Nat) (st commit to nx mx : Int) (has : Bool) (B n m nc mc : Nat) (A1 A2 : Option Addr) (T : Nat → Int) (RA : Nat → Option Addr) (RL RC : Nat → Nat) (Z : Nat → Nat → Int)
    (hn : n ≤ 9223372036854775807) (hm : m ≤ 9223372036854775807) (hRL : ∀ i, RL i ≤ 9223372036854775807) (hB : B ≤ w.heap.size) (h1 : Row w B .u64 A1 n T) (h2 : Cmds w B A2 m RA RL RC Z)
    (hsi : si < 18446744073709551616) (hco : 0 ≤ commit) (hnx : 0 ≤ nx) (hto : (Lit.int .u64 to).wf = true) :
    Calls Try.prog 8 #[.int .u64 id, .int .u64 term, .int .i64 role, .int .u64 si, .int .u64 st, .slice A1 n nc, .slice A2 m mc, .int .u64 commit, .int .u64 to, .bool has, .int .u64 nx, .int .i64 mx] w fun e w' => e = .returned (.bool true) ∧ Below w.heap.size w w' := by
  by_cases hc : n = m ∧ n ≤ 65536 ∧ si + n < 18446744073709551615 ∧ (si : Int) ≤ commit ∧ commit ≤ (si : Int) + (n : Int) ∧ (has = true → nx ≤ (si : Int) + (n : Int) + 1)
  · obtain ⟨rfl, n1, s1, c1, c2, x1⟩ := hc
    cases has with
    | false => exact law_no_hasnot w id term role si st commit to nx mx B n nc mc A1 A2 T RA RL RC Z hRL hB h1 h2 hnx hto n1 s1 c1 c2
    | true =>
      by_cases hno : role ≠ 2 ∨ nx ≤ si
      · exact law_no_has w id term role si st commit to nx mx B n nc mc A1 A2 T RA RL RC Z hRL hB h1 h2 hnx hto n1 s1 c1 c2 (x1 rfl) hno
      · have hx := x1 rfl
        obtain ⟨p, hp⟩ : ∃ p : Nat, nx = (si : Int) + 1 + (p : Int) := ⟨(nx - si - 1).toNat, by omega⟩
        have hr : role = 2 := by omega
        subst hr hp
        have hpn : p ≤ n := by omega
        by_cases hp0 : p = 0
        · by_cases hrem : p < n
          · exact law_yes_c w id term si st commit to mx p B n nc mc A1 A2 T RA RL RC Z hRL hB h1 h2 hpn hp0 hrem hto n1 s1 c1 c2
          · exact law_yes_d w id term si st commit to mx p B n nc mc A1 A2 T RA RL RC Z hRL hB h1 h2 hpn hp0 (show p = n by omega) hto n1 s1 c1 c2
        · by_cases hrem : p < n
          · exact law_yes_a w id term si st commit to mx p B n nc mc A1 A2 T RA RL RC Z hRL hB h1 h2 hpn hp0 hrem hto n1 s1 c1 c2
          · exact law_yes_b w id term si st commit to mx p B n nc mc A1 A2 T RA RL RC Z hRL hB h1 h2 hpn hp0 (show p = n by omega) hto n1 s1 c1 c2
  · exact law_early w id term role si st commit to nx mx has B n m nc mc A1 A2 T RA RL RC Z hn hm hRL hB h1 h2 hsi hco hnx hc

end Go.Proofs.Qxb6612844a
