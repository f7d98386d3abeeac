/-
  appendEntries.
-/
import Derived.Test.Qxb6612844aMeth
set_option linter.unusedVariables false
set_option linter.unusedSimpArgs false
namespace Go.Proofs.Qxb6612844a
open Go.RowKit

/-- Six cells that may be written, as the walk asks it. -/
abbrev Room6 (w : World) (r : Nat) : Prop :=
  w.cell? ⟨r, 0, none⟩ = some (cellD w r 0) ∧ w.cell? ⟨r, 1, none⟩ = some (cellD w r 1) ∧ w.cell? ⟨r, 2, none⟩ = some (cellD w r 2) ∧ w.cell? ⟨r, 3, none⟩ = some (cellD w r 3) ∧ w.cell? ⟨r, 4, none⟩ = some (cellD w r 4) ∧ w.cell? ⟨r, 5, none⟩ = some (cellD w r 5) ∧
  w.frozen? ⟨r, 0, none⟩ = false ∧ w.frozen? ⟨r, 1, none⟩ = false ∧ w.frozen? ⟨r, 2, none⟩ = false ∧ w.frozen? ⟨r, 3, none⟩ = false ∧ w.frozen? ⟨r, 4, none⟩ = false ∧ w.frozen? ⟨r, 5, none⟩ = false

theorem room6 {w : World} {r : Nat} (h : w.there r 0 6) : Room6 w r :=
  have c := fun j (hj : j < 6) => cellD_of (j := j) h hj
  have f := fun j (hj : j < 6) => (h j hj).2
  ⟨by simpa using c 0 (by omega), by simpa using c 1 (by omega), by simpa using c 2 (by omega), by simpa using c 3 (by omega), by simpa using c 4 (by omega), by simpa using c 5 (by omega),
   by simpa using f 0 (by omega), by simpa using f 1 (by omega), by simpa using f 2 (by omega), by simpa using f 3 (by omega), by simpa using f 4 (by omega), by simpa using f 5 (by omega)⟩

/-- What the region of appendEntries asks of the world. -/
abbrev SA (w0 : World) (g r : Nat) (id term commit : Int) (w : World) : Prop :=
  w.cell? ⟨g, 0, none⟩ = some (.int .u64 id) ∧ w.cell? ⟨g, 1, none⟩ = some (.int .u64 term) ∧ w.cell? ⟨g, 17, none⟩ = some (.int .u64 commit) ∧ Room6 w r ∧ w.there r 0 6 ∧ Below w0.heap.size w0 w

theorem there_below {w w' : World} {b o n B : Nat} (h : w.there b o n) (hb : Below B w w') (hB : b < B) : w'.there b o n := fun j hj => by
  rw [hb.cell (p := ⟨b, o + j, none⟩) hB, hb.frozen (p := ⟨b, o + j, none⟩) hB]
  exact h j hj

/-- A world behind a store of six cells at a block's head. -/
abbrev nest6 (w : World) (r : Nat) (v0 v1 v2 v3 v4 v5 : Value) : World :=
  (((((w.setCell ⟨r, 0, none⟩ v0).setCell ⟨r, 1, none⟩ v1).setCell ⟨r, 2, none⟩ v2).setCell ⟨r, 3, none⟩ v3).setCell ⟨r, 4, none⟩ v4).setCell ⟨r, 5, none⟩ v5

theorem b6 {B r : Nat} {a w : World} (h : Below B a w) (hr : B ≤ r) (v0 v1 v2 v3 v4 v5 : Value) : Below B a (nest6 w r v0 v1 v2 v3 v4 v5) :=
  below_setCells r hr [v0, v1, v2, v3, v4, v5] 0 h
theorem t6 {b o n : Nat} {w : World} (h : w.there b o n) (r : Nat) (v0 v1 v2 v3 v4 v5 : Value) : (nest6 w r v0 v1 v2 v3 v4 v5).there b o n :=
  World.there_setCells h r 0 [v0, v1, v2, v3, v4, v5]
theorem r6 {w : World} {r : Nat} (h : w.there r 0 6) (v0 v1 v2 v3 v4 v5 : Value) : (nest6 w r v0 v1 v2 v3 v4 v5).rangeAt r 0 [v0, v1, v2, v3, v4, v5] :=
  World.rangeAt_setCells_same w r 0 [v0, v1, v2, v3, v4, v5] h
theorem t0 {b o n : Nat} {w : World} (h : w.there b o n) : w.drew.there b o n := h
theorem r0 {b o : Nat} {w : World} {cs : List Value} (h : w.rangeAt b o cs) : w.drew.rangeAt b o cs := h

set_option maxHeartbeats 1600000 in
theorem app_any (w : World) (g : Nat) (id term commit x tv : Int) (A : Option Addr) (l c : Nat)
    (h0 : w.cell? ⟨g, 0, none⟩ = some (.int .u64 id)) (h1 : w.cell? ⟨g, 1, none⟩ = some (.int .u64 term)) (h17 : w.cell? ⟨g, 17, none⟩ = some (.int .u64 commit))
    (hT : ∀ W, Below w.heap.size w W → Calls Try.prog 52 #[.pointer (some ⟨g, 0, none⟩), .int .u64 x] W fun e w' => e = .returned (.int .u64 tv) ∧ Below W.heap.size W w') :
    Calls Try.prog 40 #[.pointer (some ⟨g, 0, none⟩), .int .u64 x, .slice A l c] w fun e w' =>
      e = .returned (.agg #[.int .u64 term, .int .u64 id, .int .u64 x, .int .u64 tv, .slice A l c, .int .u64 commit]) ∧ Below w.heap.size w w' := by
  have hg : g < w.heap.size := block_lt_of_cell h0
  have MK : Hid (∀ W, Below w.heap.size w W → W.there w.heap.size 0 6 → SA w g w.heap.size id term commit W) := fun W hb ht => ⟨(hb.cell hg).trans h0, (hb.cell hg).trans h1, (hb.cell hg).trans h17, room6 ht, ht, hb⟩
  have CT : Hid (∀ W, Below w.heap.size w W → Calls Try.prog 52 #[.pointer (some ⟨g, 0, none⟩), .int .u64 x] W fun e w' => e = .returned (.int .u64 tv) ∧ Below W.heap.size W w') := hT
  clear h0 h1 h17 hT
  go_enter Try.func40, Try.ntmps40
  go_wp2
  have hB0 : Below w.heap.size w (w.alloc (Obj.cells #[Value.int IntKind.u64 0, Value.int IntKind.u64 0, Value.int IntKind.u64 0, Value.int IntKind.u64 0, Value.slice none 0 0, Value.int IntKind.u64 0] 49)) := (Below.refl _ _).alloc (Nat.le_refl _) _
  have hT0 : (w.alloc (Obj.cells #[Value.int IntKind.u64 0, Value.int IntKind.u64 0, Value.int IntKind.u64 0, Value.int IntKind.u64 0, Value.slice none 0 0, Value.int IntKind.u64 0] 49)).there w.heap.size 0 6 := there_new _ _ _ 6 (by simp)
  have hs0 : w.heap.size < (w.alloc (Obj.cells #[Value.int IntKind.u64 0, Value.int IntKind.u64 0, Value.int IntKind.u64 0, Value.int IntKind.u64 0, Value.slice none 0 0, Value.int IntKind.u64 0] 49)).heap.size := by simp
  generalize w.alloc (Obj.cells #[Value.int IntKind.u64 0, Value.int IntKind.u64 0, Value.int IntKind.u64 0, Value.int IntKind.u64 0, Value.slice none 0 0, Value.int IntKind.u64 0] 49) = W at *
  have HB : Hid (Below w.heap.size w W) := hB0
  have HT : Hid (W.there w.heap.size 0 6) := hT0
  have hS := MK.out W hB0 hT0
  clear hB0 hT0
  go_region_held3 (SA w g w.heap.size id term commit)
    (first
      | with_reducible exact MK.out _ (b6 HB1.out (Nat.le_refl _) _ _ _ _ _ _) (t6 HT1.out _ _ _ _ _ _ _)
      | with_reducible exact MK.out _ (Below.drew (b6 HB1.out (Nat.le_refl _) _ _ _ _ _ _)) (t0 (t6 HT1.out _ _ _ _ _ _ _))
      | with_reducible exact MK.out _ HB1.out HT1.out
      | with_reducible exact MK.out _ (Below.drew HB1.out) (t0 HT1.out)
      | with_reducible exact MK.out _ HB.out HT.out
      | with_reducible exact MK.out _ (Below.drew HB.out) (t0 HT.out))
    (first
      | (go_at_call 52
         refine (CT.out _ (by first | exact HB.out | exact Below.drew HB.out)).mono ?_
         rintro e w1 ⟨rfl, hb1⟩
         have HB1 : Hid (Below w.heap.size w w1) := (Below.drew HB.out).trans (Below.mono hb1 (Nat.le_of_lt hs0))
         have HT1 : Hid (w1.there w.heap.size 0 6) := there_below (t0 HT.out) hb1 hs0
         clear hb1))
  go_wp2
  refine bodyPost_ret (v := .agg #[.int .u64 term, .int .u64 id, .int .u64 x, .int .u64 tv, .slice A l c, .int .u64 commit])
    (res_mid Try.results40 _ _ w.heap.size [.int .u64 term, .int .u64 id, .int .u64 x, .int .u64 tv, .slice A l c, .int .u64 commit] _ rfl (r6 HT1.out _ _ _ _ _ _) Try.underlying49 rfl info49) rfl ⟨rfl, ?_⟩
  exact b6 HB1.out (Nat.le_refl _) _ _ _ _ _ _

end Go.Proofs.Qxb6612844a
