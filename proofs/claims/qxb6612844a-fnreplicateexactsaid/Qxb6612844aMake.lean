/-
  ZZnewCoreLog, zzLogOf.
-/
import Derived.Test.Qxb6612844aRepl
import Derived.Deep.Slices
set_option linter.unusedVariables false
set_option linter.unusedSimpArgs false
namespace Go.Proofs.Qxb6612844a
open Go.RowKit

set_option maxHeartbeats 1600000 in
theorem core_any (w : World) (id term role si st commit : Int) (A : Option Addr) (n c mb : Nat) :
    Calls Try.prog 20 #[.int .u64 id, .int .u64 term, .int .i64 role, .int .u64 si, .int .u64 st, .slice A n c, .int .u64 commit, .map (some mb)] w fun e w' =>
      e = .returned (.pointer (some ⟨w.heap.size, 0, none⟩)) ∧ Core w' w.heap.size id term role si st (.slice A n c) commit (.map (some mb)) ∧ Below w.heap.size w w' := by
  go_enter Try.func20, Try.ntmps20
  go_wp2
  go_ret
  refine ⟨rfl, ?_, (Below.refl _ _).alloc (Nat.le_refl _) _⟩
  constructor <;> (rw [cell_of_row _ _ _ _ _ (0, 0) (heap_alloc_last w _)]; rfl)

/-! ### zzLogOf -/
abbrev nest4 (w : World) (r o : Nat) (v0 v1 v2 v3 : Value) : World :=
  (((w.setCell ⟨r, o, none⟩ v0).setCell ⟨r, o + 1, none⟩ v1).setCell ⟨r, o + 2, none⟩ v2).setCell ⟨r, o + 3, none⟩ v3

theorem b4 {B r o : Nat} {a w : World} (h : Below B a w) (hr : B ≤ r) (v0 v1 v2 v3 : Value) : Below B a (nest4 w r o v0 v1 v2 v3) :=
  below_setCells r hr [v0, v1, v2, v3] o h
theorem t4 {b o n : Nat} {w : World} (h : w.there b o n) (r o' : Nat) (v0 v1 v2 v3 : Value) : (nest4 w r o' v0 v1 v2 v3).there b o n :=
  World.there_setCells h r o' [v0, v1, v2, v3]
theorem r4 {w : World} {r o : Nat} (h : w.there r o 4) (v0 v1 v2 v3 : Value) : (nest4 w r o v0 v1 v2 v3).rangeAt r o [v0, v1, v2, v3] :=
  World.rangeAt_setCells_same w r o [v0, v1, v2, v3] h
theorem q4 {w : World} {b' o' : Nat} {cs : List Value} (h : w.rangeAt b' o' cs) (r o : Nat) (v0 v1 v2 v3 : Value) (hap : b' ≠ r ∨ o' + cs.length ≤ o ∨ o + 4 ≤ o') : (nest4 w r o v0 v1 v2 v3).rangeAt b' o' cs :=
  World.rangeAt_setCells_apart h r o [v0, v1, v2, v3] hap

theorem Row.nest {w : World} {B k A n z} (h : Row w B k A n z) (r o : Nat) (hA : ∀ a, A = some a → r < a.block) (v0 v1 v2 v3 : Value) : Row (nest4 w r o v0 v1 v2 v3) B k A n z :=
  ⟨fun i hi => by
    obtain ⟨b, off, e, hB, hc⟩ := h.at' i hi
    refine ⟨b, off, e, hB, fun j hj => ?_⟩
    have hb : r < b := hA _ e
    exact (World.cell?_setCells_out r [v0, v1, v2, v3] o w ⟨b, off + j, none⟩ (fun hh _ => absurd hh (by show b ≠ r; omega))).trans (hc j hj)⟩

theorem there_sub {w : World} {b n o m : Nat} (h : w.there b 0 n) (ho : o + m ≤ n) : w.there b o m := fun j hj => by
  have := h (o + j) (by omega)
  rwa [Nat.zero_add] at this

/-- The log behind k rounds. -/
structure Logged (w wr : World) (n k : Nat) (T : Nat → Int) (RL : Nat → Nat) (Z : Nat → Nat → Int) : Prop where
  below : Below w.heap.size w wr
  there : wr.there w.heap.size 0 (n * 4)
  size : w.heap.size < wr.heap.size
  ent : ∀ j, j < k → ∃ A c, wr.rangeAt w.heap.size (j * 4) [.int .u64 (T j), .slice A (RL j) c, .int .u8 0, .pointer none] ∧ Row wr wr.heap.size .u8 A (RL j) (Z j) ∧ ∀ a, A = some a → w.heap.size < a.block

theorem Logged.step {w wr w1 : World} {n k : Nat} {T : Nat → Int} {RL : Nat → Nat} {Z : Nat → Nat → Int} {A : Option Addr} {c : Nat} (L : Logged w wr n k T RL Z) (hk : k < n) (hb : Below wr.heap.size wr w1)
    (hR : Row w1 w1.heap.size .u8 A (RL k) (Z k)) (hA : ∀ a, A = some a → wr.heap.size ≤ a.block) : Logged w (nest4 w1 w.heap.size (k * 4) (.int .u64 (T k)) (.slice A (RL k) c) (.int .u8 0) (.pointer none)) n (k + 1) T RL Z := by
  have hsz : w1.heap.size ≤ (nest4 w1 w.heap.size (k * 4) (.int .u64 (T k)) (.slice A (RL k) c) (.int .u8 0) (.pointer none)).heap.size := (b4 (Below.refl 0 w1) (Nat.zero_le _) _ _ _ _).size
  have ht := there_below L.there hb L.size
  refine ⟨b4 (L.below.trans (hb.mono L.below.size)) (Nat.le_refl _) _ _ _ _, t4 ht _ _ _ _ _ _, Nat.lt_of_lt_of_le (Nat.lt_of_lt_of_le L.size hb.size) hsz, fun j hj => ?_⟩
  by_cases e : j = k
  · subst e
    have hA' : ∀ a, A = some a → w.heap.size < a.block := fun a h => Nat.lt_of_lt_of_le L.size (hA a h)
    exact ⟨A, c, r4 (there_sub ht (by omega)) _ _ _ _, (hR.nest _ _ hA' _ _ _ _).mono hsz, hA'⟩
  · obtain ⟨A', c', h1, h2, h3⟩ := L.ent j (by omega)
    refine ⟨A', c', q4 (fun i v hv => (hb.cell (p := ⟨w.heap.size, j * 4 + i, none⟩) L.size).trans (h1 i v hv)) _ _ _ _ _ _ (Or.inr ?_), ?_, h3⟩
    · show j * 4 + 4 ≤ k * 4 ∨ _
      left; omega
    · exact (((h2.below hb).mono hb.size).nest _ _ h3 _ _ _ _).mono hsz

theorem Logged.done {w wr : World} {n : Nat} {T : Nat → Int} {RL : Nat → Nat} {Z : Nat → Nat → Int} (L : Logged w wr n n T RL Z) : ∃ EA EC, Log wr wr.heap.size w.heap.size n T EA RL EC Z := by
  have each : ∀ j, j < n → ∃ y : Option Addr × Nat, wr.rangeAt w.heap.size (j * 4) [.int .u64 (T j), .slice y.1 (RL j) y.2, .int .u8 0, .pointer none] ∧ Row wr wr.heap.size .u8 y.1 (RL j) (Z j) := fun j hj => by
    obtain ⟨A, c, h1, h2, _⟩ := L.ent j hj
    exact ⟨(A, c), h1, h2⟩
  obtain ⟨y, hy⟩ := Deep.choose_lt each
  exact ⟨fun j => (y j).1, fun j => (y j).2, ⟨L.size, fun j hj => (hy j hj).1, fun j hj => (hy j hj).2⟩⟩

/-- What the region of zzLogOf asks of the world. -/
abbrev SL (w0 : World) (b1 o1 b2 o2 k n r : Nat) (t : Int) (A : Option Addr) (l c : Nat) (w : World) : Prop :=
  w.cell? ⟨b1, o1 + k, none⟩ = some (.int .u64 t) ∧ w.cell? ⟨b2, o2 + k, none⟩ = some (.slice A l c) ∧ Room4 w r (k * 4) ∧ w.there r 0 (n * 4) ∧ Below w0.heap.size w0 w

/-- A made row of n entries. -/
def made4 (n : Nat) : Array Value := madeCells #[.int .u64 0, .slice none 0 0, .int .u8 0, .pointer none] (n * 4)
theorem made4_size (n : Nat) : (made4 n).size = n * 4 := size_madeCells _ _

theorem make4 (n : Nat) (hn : n ≤ 65536) (w : World) : (Instr.makeSlice 42 (.int .i64 (n : Int)) (.int .i64 (n : Int))).run Try.prog w = .ok (.slice (some ⟨w.heap.size, 0, none⟩) n n) (w.alloc (.cells (made4 n) 61)) := by
  obtain ⟨i, hi, hz, hs, hb⟩ := info61e
  have := run_make (P := Try.prog) w 42 61 i _ Try.underlying42 hi hz .i64 .i64 n n (by omega) (Int.le_refl _) (by rw [hb]; omega) (by omega)
  simp only [Int.toNat_natCast, hs] at this
  exact this

set_option maxHeartbeats 1600000 in
theorem logOf_any (w : World) (B n nc mc : Nat) (A1 A2 : Option Addr) (T : Nat → Int) (RA : Nat → Option Addr) (RL RC : Nat → Nat) (Z : Nat → Nat → Int) (hn : n ≤ 65536) (hR : ∀ j, j < n → RL j ≤ 1048576)
    (h1 : Row w B .u64 A1 n T) (h2 : Cmds w B A2 n RA RL RC Z) (hB : B ≤ w.heap.size) :
    Calls Try.prog 30 #[.slice A1 n nc, .slice A2 n mc] w fun e w' => e = .returned (.slice (some ⟨w.heap.size, 0, none⟩) n n) ∧ Below w.heap.size w w' ∧ ∃ EA EC, Log w' w'.heap.size w.heap.size n T EA RL EC Z := by
  have hmk := make4 n hn
  have H1 : Hid (Row w B .u64 A1 n T) := h1
  have H2 : Hid (Cmds w B A2 n RA RL RC Z) := h2
  have HR : Hid (∀ j, j < n → RL j ≤ 1048576) := hR
  clear h1 h2 hR
  go_enter Try.func30, Try.ntmps30
  go_wp2
  go_loopw [6] (fun i wr => ∃ k : Nat, k ≤ n ∧ i = .int .i64 k ∧ Logged w wr n k T RL Z) (fun i _ => n - (intOf i).toNat)
  case atStart => exact ⟨0, Nat.zero_le _, rfl, ⟨(Below.refl _ _).alloc (Nat.le_refl _) _, there_new _ _ _ _ (by rw [made4_size]; exact Nat.le_refl _), by simp, fun j hj => absurd hj (Nat.not_lt_zero _)⟩⟩
  case round =>
    obtain ⟨k, hk, rfl, hL⟩ := hrel
    have HL : Hid (Logged w wr n k T RL Z) := hL
    clear hL hmk
    by_cases hlt : k < n
    · obtain ⟨b1, o1, rfl, hb1, hc1⟩ := H1.out.at' k hlt
      obtain ⟨b2, o2, rfl, hb2, hc2⟩ := H2.out.at' k hlt
      have MK : Hid (∀ W, Below w.heap.size w W → W.there w.heap.size 0 (n * 4) → SL w b1 o1 b2 o2 k n w.heap.size (T k) (RA k) (RL k) (RC k) W) := fun W hb ht =>
        ⟨(hb.cell (p := ⟨b1, o1 + k, none⟩) (by show b1 < _; omega)).trans (hc1 k hlt), (hb.cell (p := ⟨b2, o2 + k, none⟩) (by show b2 < _; omega)).trans (hc2 k hlt), room4 (there_sub ht (by omega)), ht, hb⟩
      have CC : Hid (∀ W, Below w.heap.size w W → Calls Try.prog 42 #[.slice (RA k) (RL k) (RC k)] W fun e w' => ∃ A' c', e = .returned (.slice A' (RL k) c') ∧ Row w' w'.heap.size .u8 A' (RL k) (Z k) ∧ Below W.heap.size W w' ∧ ∀ a, A' = some a → W.heap.size ≤ a.block) := fun W hb =>
        clone_any W B (RL k) (RC k) (RA k) (Z k) (HR.out k hlt) (((H2.out.row k hlt)).below (hb.mono hB)) (Nat.le_trans hB hb.size)
      clear hc1 hc2
      have HB : Hid (Below w.heap.size w wr) := HL.out.below
      have HT : Hid (wr.there w.heap.size 0 (n * 4)) := HL.out.there
      have hs0 := HL.out.size
      have k0 : (0 : Int) ≤ (k : Int) := by omega
      have k1 : (k : Int) < (n : Int) := by omega
      go_wp2
      have hS := MK.out wr HB.out HT.out
      go_region_held3 (SL w b1 o1 b2 o2 k n w.heap.size (T k) (RA k) (RL k) (RC k))
        (first
          | with_reducible exact MK.out _ (b4 HB1.out (Nat.le_refl _) _ _ _ _) (t4 HT1.out _ _ _ _ _ _)
          | with_reducible exact MK.out _ (Below.drew (b4 HB1.out (Nat.le_refl _) _ _ _ _)) (t0 (t4 HT1.out _ _ _ _ _ _))
          | with_reducible exact MK.out _ HB1.out HT1.out
          | with_reducible exact MK.out _ (Below.drew HB1.out) (t0 HT1.out)
          | with_reducible exact MK.out _ HB.out HT.out
          | with_reducible exact MK.out _ (Below.drew HB.out) (t0 HT.out))
        (first
          | (go_at_call 42
             refine (CC.out _ (by first | exact HB.out | exact Below.drew HB.out)).mono ?_
             rintro _ w1 ⟨A, c, rfl, hRow, hbb, hA⟩
             have HB1 : Hid (Below w.heap.size w w1) := (Below.drew HB.out).trans (Below.mono hbb (Nat.le_of_lt hs0))
             have HT1 : Hid (w1.there w.heap.size 0 (n * 4)) := there_below (t0 HT.out) hbb hs0
             have HS : Hid (Logged w (nest4 w1 w.heap.size (k * 4) (.int .u64 (T k)) (.slice A (RL k) c) (.int .u8 0) (.pointer none)) n (k + 1) T RL Z) := HL.out.step hlt ((Below.drew (Below.refl _ wr)).trans hbb) hRow hA
             clear hbb hA hRow))
      go_wp2
      go_roundw
      case rel => exact ⟨k + 1, by omega, by go_num, HS.out⟩
      case measure => simp [intOf]; omega
    · go_wp2
      have : k = n := by omega
      subst this
      go_ret
      exact ⟨rfl, HL.out.below, HL.out.done⟩

end Go.Proofs.Qxb6612844a
