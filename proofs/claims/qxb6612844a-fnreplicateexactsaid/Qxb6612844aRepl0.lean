/-
  Replicate, refused.
-/
import Derived.Test.Qxb6612844aClone
set_option linter.unusedVariables false
set_option linter.unusedSimpArgs false
namespace Go.Proofs.Qxb6612844a
open Go.RowKit

/-- The zero request. -/
abbrev req0 : Array Value := #[.int .u64 0, .int .u64 0, .int .u64 0, .int .u64 0, .slice none 0 0, .int .u64 0]

/-- What the look-up of the next index gives, in every world that has grown out of w. -/
def Looks (w : World) (M : Value) (to nx : Int) (has : Bool) : Prop :=
  ∀ W, Below w.heap.size w W → (Instr.lookup 47 M (.int .u64 to) true).run Try.prog W = .ok (.tuple #[.int .u64 nx, .bool has]) W

theorem res_two {fn : Func} {p u : Tmp} {ty : TypeId} (h : fn.results = #[.cell p ty, .tmp u]) (tmps : Array Value) (w : World) (g : Nat) (cs : List Value) (d : TypeDesc) (x : Value)
    (hp : tmps.getD p undef = .pointer (some ⟨g, 0, none⟩)) (hx : tmps.getD u undef = x) (hc : w.rangeAt g 0 cs) (hu : Try.prog.underlying ty = some d) (hd : d.isRow = true) (hi : (Try.prog.info? ty).map (·.size) = some cs.length) :
    (results fn tmps).run Try.prog w = .ok (.tuple #[.agg cs.toArray, x]) w := by
  rw [results_cell_tmp h, hp, hx]
  simp only [asAddr, Sem.run_pure, Result.andThen, run_loadVar_mid w g 0 ty cs d hc hu hd hi]

set_option maxHeartbeats 1600000 in
theorem repl_no (w : World) (g : Nat) (id term role : Int) (si : Nat) (st : Int) (L : Value) (commit : Int) (M : Value) (to nx mx : Int) (has : Bool) (hC : Core w g id term role si st L commit M) (hL : Looks w M to nx has)
    (hno : role ≠ 2 ∨ has = false ∨ nx ≤ si) :
    Calls Try.prog 26 #[.pointer (some ⟨g, 0, none⟩), .int .u64 to, .int .i64 mx] w fun e w' => e = .returned (.tuple #[.agg req0, .bool false]) ∧ Below w.heap.size w w' := by
  have hg := hC.lt
  have hB0 : Below w.heap.size w (w.alloc (Obj.cells req0 49)) := (Below.refl _ _).alloc (Nat.le_refl _) _
  have hC0 := hC.below hB0 hg
  have hl0 := hL _ hB0
  have e3 := hC0.c3
  have e12 := hC0.c12
  have e19 := hC0.c19
  have HB : Hid (Below w.heap.size w (w.alloc (Obj.cells req0 49))) := hB0
  clear hC hL hC0 hB0
  have RG : Hid ((w.alloc (Obj.cells req0 49)).rangeAt w.heap.size 0 [.int .u64 0, .int .u64 0, .int .u64 0, .int .u64 0, .slice none 0 0, .int .u64 0]) := fun j v hv => by
    rw [cell_of_row _ _ _ req0 49 (0, 0) (heap_alloc_last w _), Nat.zero_add, ← Array.getElem?_toList]
    exact hv
  by_cases hr : role = 2
  · subst hr
    cases has with
    | false =>
      go_enter Try.func26, Try.ntmps26
      go_wp2
      exact bodyPost_ret (v := .tuple #[.agg req0, .bool false]) (res_two Try.results26 _ _ w.heap.size [.int .u64 0, .int .u64 0, .int .u64 0, .int .u64 0, .slice none 0 0, .int .u64 0] _ _ rfl rfl RG.out Try.underlying49 rfl info49) rfl ⟨rfl, HB.out⟩
    | true =>
      have hle : nx ≤ (si : Int) := by rcases hno with h | h | h; · exact absurd rfl h
                                       · cases h
                                       · exact h
      go_enter Try.func26, Try.ntmps26
      go_wp2
      exact bodyPost_ret (v := .tuple #[.agg req0, .bool false]) (res_two Try.results26 _ _ w.heap.size [.int .u64 0, .int .u64 0, .int .u64 0, .int .u64 0, .slice none 0 0, .int .u64 0] _ _ rfl rfl RG.out Try.underlying49 rfl info49) rfl ⟨rfl, HB.out⟩
  · have hr2 : (role == 2) = false := by simpa using hr
    go_enter Try.func26, Try.ntmps26
    go_wp2
    exact bodyPost_ret (v := .tuple #[.agg req0, .bool false]) (res_two Try.results26 _ _ w.heap.size [.int .u64 0, .int .u64 0, .int .u64 0, .int .u64 0, .slice none 0 0, .int .u64 0] _ _ rfl rfl RG.out Try.underlying49 rfl info49) rfl ⟨rfl, HB.out⟩

end Go.Proofs.Qxb6612844a
