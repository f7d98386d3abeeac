/-
  THE CORE: its cells, and the walks of the small methods.
-/
import Derived.Test.Qxb6612844aWalks
import Derived.Laws.ResultCell
import Derived.Deep.WholeRow
import Derived.Deep.RegionHeld3
set_option linter.unusedVariables false
set_option linter.unusedSimpArgs false
namespace Go.Proofs.Qxb6612844a
open Go.RowKit

/-- The cells of the core in block g that the road reads. -/
structure Core (w : World) (g : Nat) (id term role si st : Int) (L : Value) (commit : Int) (M : Value) : Prop where
  c0 : w.cell? ⟨g, 0, none⟩ = some (.int .u64 id)
  c1 : w.cell? ⟨g, 1, none⟩ = some (.int .u64 term)
  c3 : w.cell? ⟨g, 3, none⟩ = some (.int .i64 role)
  c12 : w.cell? ⟨g, 12, none⟩ = some (.int .u64 si)
  c13 : w.cell? ⟨g, 13, none⟩ = some (.int .u64 st)
  c16 : w.cell? ⟨g, 16, none⟩ = some L
  c17 : w.cell? ⟨g, 17, none⟩ = some (.int .u64 commit)
  c19 : w.cell? ⟨g, 19, none⟩ = some M

theorem Core.lt {w g id term role si st L commit M} (h : Core w g id term role si st L commit M) : g < w.heap.size := by
  exact block_lt_of_cell h.c0

theorem Core.below {w w' g id term role si st L commit M} {B : Nat} (h : Core w g id term role si st L commit M) (hb : Below B w w') (hB : g < B) : Core w' g id term role si st L commit M :=
  ⟨(hb.cell hB).trans h.c0, (hb.cell hB).trans h.c1, (hb.cell hB).trans h.c3, (hb.cell hB).trans h.c12, (hb.cell hB).trans h.c13, (hb.cell hB).trans h.c16, (hb.cell hB).trans h.c17, (hb.cell hB).trans h.c19⟩

set_option maxHeartbeats 400000 in
theorem first_any (w : World) (g : Nat) (si : Nat) (hc : w.cell? ⟨g, 12, none⟩ = some (.int .u64 si)) (h : si < 18446744073709551615) :
    Calls Try.prog 22 #[.pointer (some ⟨g, 0, none⟩)] w fun e w' => e = .returned (.int .u64 ((si : Int) + 1)) ∧ w = w' := by
  go_enter Try.func22, Try.ntmps22
  go_wp2
  go_ret
  exact ⟨rfl, rfl⟩

set_option maxHeartbeats 400000 in
theorem last_any (w : World) (g : Nat) (si n c : Nat) (A : Option Addr) (hc : w.cell? ⟨g, 12, none⟩ = some (.int .u64 si)) (h16 : w.cell? ⟨g, 16, none⟩ = some (.slice A n c)) (h : si + n < 18446744073709551616) (hn : n ≤ 65536) :
    Calls Try.prog 23 #[.pointer (some ⟨g, 0, none⟩)] w fun e w' => e = .returned (.int .u64 ((si : Int) + (n : Int))) ∧ Below w.heap.size w w' := by
  go_enter Try.func23, Try.ntmps23
  go_wp2
  go_quiet (fail)
  go_wp2
  go_ret
  exact ⟨rfl, below_drewN (Below.refl _ _) _⟩

/-! ### the log -/
/-- Entry j's cells. -/
def entC (T : Nat → Int) (EA : Nat → Option Addr) (RL EC : Nat → Nat) (j : Nat) : List Value := [.int .u64 (T j), .slice (EA j) (RL j) (EC j), .int .u8 0, .pointer none]

/-- n entries lie in block h; their commands read as Z's rows. All in blocks below B. -/
structure Log (w : World) (B h n : Nat) (T : Nat → Int) (EA : Nat → Option Addr) (RL EC : Nat → Nat) (Z : Nat → Nat → Int) : Prop where
  lt : h < B
  ent : ∀ j, j < n → w.rangeAt h (j * 4) (entC T EA RL EC j)
  row : ∀ j, j < n → Row w B .u8 (EA j) (RL j) (Z j)

theorem Log.below {w w' : World} {B B' h n T EA RL EC Z} (L : Log w B h n T EA RL EC Z) (hb : Below B' w w') (hB : B ≤ B') : Log w' B' h n T EA RL EC Z :=
  ⟨Nat.lt_of_lt_of_le L.lt hB, fun j hj i v hv => (hb.cell (p := ⟨h, j * 4 + i, none⟩) (Nat.lt_of_lt_of_le L.lt hB)).trans (L.ent j hj i v hv), fun j hj => (((L.row j hj).mono hB)).below hb⟩

theorem info61 : (Try.prog.info? 61).map (·.size) = some 4 := by kernel_rfl
theorem info49 : (Try.prog.info? 49).map (·.size) = some 6 := by kernel_rfl

/-- What a cell holds. -/
def cellD (w : World) (b o : Nat) : Value := (w.cell? ⟨b, o, none⟩).getD undef

theorem cellD_of {w : World} {b o n : Nat} (h : w.there b o n) {j : Nat} (hj : j < n) : w.cell? ⟨b, o + j, none⟩ = some (cellD w b (o + j)) := by
  obtain ⟨v, hv⟩ := Option.isSome_iff_exists.1 (h j hj).1
  unfold cellD
  rw [hv]
  rfl

/-- Four cells that may be written, as the walk asks it. -/
abbrev Room4 (w : World) (r o : Nat) : Prop :=
  w.cell? ⟨r, o, none⟩ = some (cellD w r o) ∧ w.cell? ⟨r, o + 1, none⟩ = some (cellD w r (o + 1)) ∧ w.cell? ⟨r, o + 2, none⟩ = some (cellD w r (o + 2)) ∧ w.cell? ⟨r, o + 3, none⟩ = some (cellD w r (o + 3)) ∧
  w.frozen? ⟨r, o, none⟩ = false ∧ w.frozen? ⟨r, o + 1, none⟩ = false ∧ w.frozen? ⟨r, o + 2, none⟩ = false ∧ w.frozen? ⟨r, o + 3, none⟩ = false

theorem room4 {w : World} {r o : Nat} (h : w.there r o 4) : Room4 w r o :=
  ⟨cellD_of (j := 0) h (by omega), cellD_of (j := 1) h (by omega), cellD_of (j := 2) h (by omega), cellD_of (j := 3) h (by omega), (h 0 (by omega)).2, (h 1 (by omega)).2, (h 2 (by omega)).2, (h 3 (by omega)).2⟩

/-- What the region of Entry asks of the world. -/
abbrev SE (w0 : World) (g h si n c k r : Nat) (T : Nat → Int) (EA : Nat → Option Addr) (RL EC : Nat → Nat) (w : World) : Prop :=
  w.cell? ⟨g, 12, none⟩ = some (.int .u64 si) ∧ w.cell? ⟨g, 16, none⟩ = some (.slice (some ⟨h, 0, none⟩) n c) ∧ w.cell? ⟨h, k * 4, none⟩ = some (.int .u64 (T k)) ∧ w.cell? ⟨h, k * 4 + 1, none⟩ = some (.slice (EA k) (RL k) (EC k)) ∧
  w.cell? ⟨h, k * 4 + 2, none⟩ = some (.int .u8 0) ∧ w.cell? ⟨h, k * 4 + 3, none⟩ = some (.pointer none) ∧
  w.cell? ⟨r, 0, none⟩ = some (cellD w r 0) ∧ w.cell? ⟨r, 1, none⟩ = some (cellD w r 1) ∧ w.cell? ⟨r, 2, none⟩ = some (cellD w r 2) ∧ w.cell? ⟨r, 3, none⟩ = some (cellD w r 3) ∧
  w.frozen? ⟨r, 0, none⟩ = false ∧ w.frozen? ⟨r, 1, none⟩ = false ∧ w.frozen? ⟨r, 2, none⟩ = false ∧ w.frozen? ⟨r, 3, none⟩ = false ∧ w.there r 0 4 ∧ Below w0.heap.size w0 w

theorem SE.mk {w0 : World} {g h si n c k r : Nat} {T : Nat → Int} {EA : Nat → Option Addr} {RL EC : Nat → Nat} {w : World} (hg : g < w0.heap.size) (hh : h < w0.heap.size) (hc : w0.cell? ⟨g, 12, none⟩ = some (.int .u64 si)) (h16 : w0.cell? ⟨g, 16, none⟩ = some (.slice (some ⟨h, 0, none⟩) n c))
    (hent : w0.rangeAt h (k * 4) (entC T EA RL EC k)) (hb : Below w0.heap.size w0 w) (ht : w.there r 0 4) : SE w0 g h si n c k r T EA RL EC w :=
  have R := room4 ht
  ⟨(hb.cell hg).trans hc, (hb.cell hg).trans h16, (hb.cell hh).trans (hent 0 _ rfl), (hb.cell hh).trans (hent 1 _ rfl), (hb.cell hh).trans (hent 2 _ rfl), (hb.cell hh).trans (hent 3 _ rfl),
    R.1, R.2.1, R.2.2.1, R.2.2.2.1, R.2.2.2.2.1, R.2.2.2.2.2.1, R.2.2.2.2.2.2.1, R.2.2.2.2.2.2.2, ht, hb⟩

theorem below_setCells {B : Nat} {a : World} (b : Nat) (hb : B ≤ b) : ∀ (vs : List Value) (o : Nat) {w : World}, Below B a w → Below B a (w.setCells b o vs)
  | [], _, _, h => h
  | v :: r, o, w, h => below_setCells b hb r (o + 1) (h.setCell hb v)

theorem res_mid {fn : Func} {p : Tmp} {ty : TypeId} (h : fn.results = #[.cell p ty]) (tmps : Array Value) (w : World) (g : Nat) (cs : List Value) (d : TypeDesc)
    (hp : tmps.getD p undef = .pointer (some ⟨g, 0, none⟩)) (hc : w.rangeAt g 0 cs) (hu : Try.prog.underlying ty = some d) (hd : d.isRow = true) (hi : (Try.prog.info? ty).map (·.size) = some cs.length) :
    (results fn tmps).run Try.prog w = .ok (.agg cs.toArray) w := by
  have hp' : tmps[p]?.getD undef = .pointer (some ⟨g, 0, none⟩) := by simpa using hp
  simp [results, h, hp', asAddr, run_loadVar_mid w g 0 ty cs d hc hu hd hi]

theorem there_new (w : World) (cs : Array Value) (t : TypeId) (n : Nat) (hn : n ≤ cs.size) : (w.alloc (.cells cs t)).there w.heap.size 0 n := fun j hj => by
  have hg : (w.alloc (.cells cs t)).heap[w.heap.size]? = some (.cells cs t (0, 0)) := heap_alloc_last w _
  refine ⟨?_, frozen_of_row _ _ _ cs t hg⟩
  rw [cell_of_row _ _ _ cs t (0, 0) hg, Nat.zero_add]
  simp
  omega

theorem wrapU (x : Int) (h0 : 0 ≤ x) (h1 : x < 18446744073709551616) : IntKind.u64.wrap x = x := by
  rw [IntKind.wrap_u64]; omega

set_option maxHeartbeats 800000 in
theorem entry_any (w : World) (g : Nat) (si n c k h : Nat) (T : Nat → Int) (EA : Nat → Option Addr) (RL EC : Nat → Nat) (hc : w.cell? ⟨g, 12, none⟩ = some (.int .u64 si)) (h16 : w.cell? ⟨g, 16, none⟩ = some (.slice (some ⟨h, 0, none⟩) n c)) (hsn : si + n < 18446744073709551615) (hn : n ≤ 65536)
    (hk : k < n) (hh : h < w.heap.size) (hent : w.rangeAt h (k * 4) (entC T EA RL EC k)) :
    Calls Try.prog 38 #[.pointer (some ⟨g, 0, none⟩), .int .u64 ((si : Int) + 1 + (k : Int))] w fun e w' => e = .returned (.agg (entC T EA RL EC k).toArray) ∧ Below w.heap.size w w' := by
  have hg : g < w.heap.size := block_lt_of_cell hc
  have MK : Hid (∀ W, Below w.heap.size w W → W.there w.heap.size 0 4 → SE w g h si n c k w.heap.size T EA RL EC W) := fun W hb ht => SE.mk hg hh hc h16 hent hb ht
  clear hc h16 hent
  have k0 : (0 : Int) ≤ (k : Int) := by omega
  have k1 : (k : Int) < (n : Int) := by omega
  have wk : IntKind.u64.wrap (k : Int) = (k : Int) := wrapU _ (by omega) (by omega)
  have wk2 : IntKind.u64.wrap ((si : Int) + 1 + (k : Int) - ((si : Int) + 1)) = (k : Int) := by rw [show (si : Int) + 1 + (k : Int) - ((si : Int) + 1) = k by omega]; exact wk
  go_enter Try.func38, Try.ntmps38
  go_wp2
  have hB0 : Below w.heap.size w (w.alloc (Obj.cells #[Value.int IntKind.u64 0, Value.slice none 0 0, Value.int IntKind.u8 0, Value.pointer none] 61)) := (Below.refl _ _).alloc (Nat.le_refl _) _
  have hT0 : (w.alloc (Obj.cells #[Value.int IntKind.u64 0, Value.slice none 0 0, Value.int IntKind.u8 0, Value.pointer none] 61)).there w.heap.size 0 4 := there_new _ _ _ 4 (by simp)
  generalize w.alloc (Obj.cells #[Value.int IntKind.u64 0, Value.slice none 0 0, Value.int IntKind.u8 0, Value.pointer none] 61) = W at *
  have HB : Hid (Below w.heap.size w W) := hB0
  have HT : Hid (W.there w.heap.size 0 4) := hT0
  have hS := MK.out W hB0 hT0
  clear hB0 hT0
  go_region_held3 (SE w g h si n c k w.heap.size T EA RL EC)
    (first
      | exact MK.out _ HB.out HT.out
      | exact MK.out _ (Below.drew HB.out) HT.out
      | exact MK.out _ (Below.drew (below_setCells w.heap.size (Nat.le_refl _) [_, _, _, _] 0 HB.out)) (World.there_setCells HT.out w.heap.size 0 [_, _, _, _]))
    (first | (go_at_call 22; refine (first_any _ g si ?_ (by omega)).mono ?_; (simp [*]); rintro e w' ⟨rfl, rfl⟩))
  go_wp2
  refine bodyPost_ret (v := .agg (entC T EA RL EC k).toArray) (res_mid Try.results38 _ _ w.heap.size (entC T EA RL EC k) _ rfl (World.rangeAt_setCells_same W w.heap.size 0 (entC T EA RL EC k) HT.out) Try.underlying61 rfl info61) rfl ⟨rfl, ?_⟩
  exact Below.drew (below_setCells w.heap.size (Nat.le_refl _) [_, _, _, _] 0 HB.out)

end Go.Proofs.Qxb6612844a
