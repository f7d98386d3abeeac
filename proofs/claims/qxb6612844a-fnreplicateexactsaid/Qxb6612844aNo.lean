/-
  THE LAW, where Replicate refuses.
-/
import Derived.Test.Qxb6612844aMake
import Derived.Test.Qxb6612844aNext
set_option linter.unusedVariables false
set_option linter.unusedSimpArgs false
namespace Go.Proofs.Qxb6612844a
open Go.RowKit Go.Maps Go.WideMaps

theorem Looks.below {w w' : World} {M : Value} {to nx : Int} {has : Bool} (h : Looks w M to nx has) (hb : Below w.heap.size w w') : Looks w' M to nx has := fun W hB => h W (hb.trans (hB.mono hb.size))

set_option maxHeartbeats 8000000 in
set_option maxRecDepth 400000 in
theorem law_no_has (w : World) (id term role : Int) (si : Nat) (st commit to nx mx : Int) (B n nc mc : Nat) (A1 A2 : Option Addr) (T : Nat → Int) (RA : Nat → Option Addr) (RL RC : Nat → Nat) (Z : Nat → Nat → Int)
    (hRL : ∀ i, RL i ≤ 9223372036854775807) (hB : B ≤ w.heap.size) (h1 : Row w B .u64 A1 n T) (h2 : Cmds w B A2 n RA RL RC Z)
    (hnx : 0 ≤ nx) (hto : (Lit.int .u64 to).wf = true) (n1 : n ≤ 65536) (s1 : si + n < 18446744073709551615) (c1 : (si : Int) ≤ commit) (c2 : commit ≤ (si : Int) + (n : Int)) (x1 : nx ≤ (si : Int) + (n : Int) + 1) (hno : role ≠ 2 ∨ nx ≤ si) :
    Calls Try.prog 8 #[.int .u64 id, .int .u64 term, .int .i64 role, .int .u64 si, .int .u64 st, .slice A1 n nc, .slice A2 n mc, .int .u64 commit, .int .u64 to, .bool true, .int .u64 nx, .int .i64 mx] w fun e w' => e = .returned (.bool true) ∧ Below w.heap.size w w' := by
  have CB := bytes_any w B n n nc mc A1 A2 RA RL RC Z (.int .u64 id) (.int .u64 term) (.int .i64 role) (.int .u64 si) (.int .u64 st) (.int .u64 commit) (.int .u64 to) (.bool true) (.int .u64 nx) (.int .i64 mx) (by omega) (by omega) hRL h2
  have H1 : Hid (Row w B .u64 A1 n T) := h1
  have H2 : Hid (Cmds w B A2 n RA RL RC Z) := h2
  have HTO : Hid ((Lit.int .u64 to).wf = true) := hto
  have HNO : Hid (role ≠ 2 ∨ true = false ∨ nx ≤ si) := hno.imp_right Or.inr
  have hmm := @run_makeMap Try.prog
  have q42 : ∀ (w : World) (a : Option Addr) (n c n' c' : Nat), (binOp .eql 42 (.slice a n c) (.slice none n' c')).run Try.prog w = .ok (.bool a.isNone) w := fun w a n c n' c' => Lib.run_eql_slice_nil w _ _ a n c n' c' Try.underlying42
  clear h1 h2 hRL hto
  have s2 : (si : Int) ≤ (18446744073709551615 : Int) - (n : Int) - 1 := by omega
  have HK : Hid (keyOf Try.prog 22 (.int .u64 to) = some (.int .u64 to)) := keyOf_int_mk Try.underlying22 HTO.out
  go_enter Try.func8, Try.ntmps8
  go_wp2_with fail
  refine CB.mono ?_
  rintro _ _ ⟨rfl | ⟨rfl, hF⟩, rfl⟩
  · go_wp2
    go_ret
    exact ⟨rfl, Below.refl _ _⟩
  have HF : Hid (Fits n n RL) := hF
  clear hF CB
  go_wp2_with fail
  refine (logBytes_any w B n n nc mc A1 A2 RA RL RC Z n1 n1 HF.out H2.out).mono ?_
  rintro _ _ ⟨⟨t, rfl⟩, rfl⟩
  by_cases t1 : t ≤ 1048576
  case neg =>
    go_wp2
    go_ret
    exact ⟨rfl, Below.refl _ _⟩
  go_wp2_with fail
  refine (logOf_any w B n nc mc A1 A2 T RA RL RC Z n1 (fun j hj => by have := HF.out.each hj; omega) H1.out H2.out hB).mono ?_
  rintro _ w1 ⟨rfl, hb1, EA, EC, hLog⟩
  clear hLog
  have OWN : Hid ((w1.alloc (.map #[] 0)).ownsMap Try.prog 22 self w1.heap.size 0 (.map [])) := World.ownsMap_made _ _ _ _
  have HB1 : Hid (Below w.heap.size w (w1.alloc (.map #[] 0))) := hb1.alloc hb1.size _
  have hs1 : w.heap.size ≤ w1.heap.size := hb1.size
  clear hb1
  go_wp2_with (first
    | (at_mapUpdate; refine wpList_mapUpdate_own _ rfl _ _ _ 47 rfl 22 22 law22 Try.underlying47 self w1.heap.size 0 (.map []) rfl OWN.out (by unfold maxLen; omega) _ _ _ rfl rfl HK.out (.held (.int .u64 nx)) [] rfl ?_))
  intro w2 hown2 hgrow2
  have hb2 := HB1.out.grown hgrow2 HB1.out.size (fun j hj => by cases hj; exact hs1)
  have hm2 : w1.heap.size < w2.heap.size := by have := hgrow2.size; simp at this; omega
  have LK : Hid (Looks w2 (.map (some w1.heap.size)) to nx true) := looks (has := true) (nx := nx) (by exact hown2) hm2 HTO.out
  have HB2 : Hid (Below w.heap.size w w2) := hb2
  clear hown2 hgrow2 hb2 HB1 OWN hmm
  go_wp2_with fail
  refine (core_any w2 id term role si st commit _ n n _).mono ?_
  rintro _ w3 ⟨rfl, hC3, hb3⟩
  have CR : Hid (Calls Try.prog 26 #[.pointer (some ⟨w2.heap.size, 0, none⟩), .int .u64 to, .int .i64 mx] w3 fun e w' => e = .returned (.tuple #[.agg req0, .bool false]) ∧ Below w3.heap.size w3 w') :=
    repl_no w3 w2.heap.size id term role si st _ commit _ to nx mx true hC3 (LK.out.below hb3) HNO.out
  have HB3 : Hid (Below w.heap.size w w3) := HB2.out.trans (hb3.mono HB2.out.size)
  clear hC3 hb3 HB2 LK
  go_wp2_with fail
  refine CR.out.mono ?_
  rintro _ w4 ⟨rfl, hb4⟩
  have HB4 : Hid (Below w.heap.size w w4) := HB3.out.trans (hb4.mono HB3.out.size)
  clear hb4 HB3 CR
  by_cases hr : role = 2
  · subst hr
    have hle : nx ≤ (si : Int) := by
      rcases hno with h | h
      · exact absurd rfl h
      · exact h
    go_wp2
    go_ret
    exact ⟨rfl, HB4.out.alloc HB4.out.size _⟩
  · have hr2 : (role == 2) = false := by simpa using hr
    go_wp2
    go_ret
    exact ⟨rfl, HB4.out.alloc HB4.out.size _⟩

end Go.Proofs.Qxb6612844a
