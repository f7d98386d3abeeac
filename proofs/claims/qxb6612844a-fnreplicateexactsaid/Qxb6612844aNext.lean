/-
  THE MAP of the next indexes.
-/
import Derived.Test.Qxb6612844aRepl0
import Derived.Maps.OwnSet
set_option linter.unusedVariables false
set_option linter.unusedSimpArgs false
namespace Go.Proofs.Qxb6612844a
open Go.RowKit Go.Maps Go.WideMaps

def self (v : Value) : Option (DataW Value × List MemPlace) := some (.held v, [])
theorem law22 : Keyed Try.prog 22 := int_keyed Try.underlying22
theorem zero22 (w : World) : (zeroValue 22).run Try.prog w = .ok (.int .u64 0) w := by kernel_rfl

theorem owns_below {w w' : World} {B n C : Nat} {D : DataW Value} (h : w.ownsMap Try.prog 22 self B n D) (hb : Below C w w') (hB : B < C) : w'.ownsMap Try.prog 22 self B n D := by
  obtain ⟨es, clock, hb', F, hs, hD⟩ := h
  exact ⟨es, clock, (hb.block B hB).trans hb', F, hs, hD⟩

/-- The map behind the law's assignment. -/
def D1 (has : Bool) (to nx : Int) : DataW Value := if has then (DataW.map []).put (.int .u64 to) (.held (.int .u64 nx)) else .map []

theorem looks {w : World} {b n : Nat} {to nx : Int} {has : Bool} (h : w.ownsMap Try.prog 22 self b n (D1 has to nx)) (hb : b < w.heap.size) (hto : (Lit.int .u64 to).wf = true) : Looks w (.map (some b)) to (if has then nx else 0) has := fun W hB => by
  obtain ⟨v, ps, hrun, hv⟩ := (owns_below h hB hb).look_ok law22 Try.underlying47 (zero22 W) (zd := .held (.int .u64 0)) (zp := []) rfl (keyOf_int_mk Try.underlying22 hto)
  simp only [self, Option.some.injEq, Prod.mk.injEq] at hv
  have hkl : WideAt.IsKeyLit (Lit.int .u64 to) := by simp [WideAt.IsKeyLit]
  rw [hrun]
  cases has with
  | false =>
    have e1 : v = .int .u64 0 := by
      have := hv.1
      simp [D1, DataW.atKey] at this
      exact this
    rw [e1]
    simp [D1, Maps.has]
  | true =>
    have e1 : v = .int .u64 nx := by
      have := hv.1
      rw [D1, if_pos rfl, atKey_put_same isMap_empty hkl] at this
      simpa using this
    rw [e1, D1, if_pos rfl, if_pos rfl, has_put_same isMap_empty hkl]

end Go.Proofs.Qxb6612844a
