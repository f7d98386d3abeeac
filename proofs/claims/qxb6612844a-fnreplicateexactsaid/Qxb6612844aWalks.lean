/-
  THE WALKS of the law's helpers: zzSameBytes, zzCloneBytes, zzBytes, zzLogBytes.
-/
import Derived.Test.Qxb6612844aRows
import Derived.WalkKit
import Derived.WalkSpells
import Derived.WalkLawsBesides
import Derived.Laws.IdiomCopy
import Derived.Deep.OwnRows
import Derived.Deep.MidRow
import Derived.BigQuiet
set_option linter.unusedVariables false
set_option linter.unusedSimpArgs false
namespace Go.Proofs.Qxb6612844a
open Go.RowKit

/-- A slice of n numbers, all in blocks below B. -/
structure Row (w : World) (B : Nat) (k : IntKind) (A : Option Addr) (n : Nat) (z : Nat → Int) : Prop where
  at' : ∀ i, i < n → ∃ b off, A = some ⟨b, off, none⟩ ∧ b < B ∧ ∀ j, j < n → w.cell? ⟨b, off + j, none⟩ = some (.int k (z j))

/-- A slice of n slices of bytes, all in blocks below B. -/
structure Cmds (w : World) (B : Nat) (A : Option Addr) (n : Nat) (RA : Nat → Option Addr) (RL RC : Nat → Nat) (Z : Nat → Nat → Int) : Prop where
  at' : ∀ i, i < n → ∃ b off, A = some ⟨b, off, none⟩ ∧ b < B ∧ ∀ j, j < n → w.cell? ⟨b, off + j, none⟩ = some (.slice (RA j) (RL j) (RC j))
  row : ∀ j, j < n → Row w B .u8 (RA j) (RL j) (Z j)

theorem Row.below {w w' : World} {B k A n z} (h : Row w B k A n z) (hb : Below B w w') : Row w' B k A n z :=
  ⟨fun i hi => by
    obtain ⟨b, off, hA, hB, hc⟩ := h.at' i hi
    exact ⟨b, off, hA, hB, fun j hj => (hb.cell (p := ⟨b, off + j, none⟩) hB).trans (hc j hj)⟩⟩

theorem Row.mono {w : World} {B B' k A n z} (h : Row w B k A n z) (hb : B ≤ B') : Row w B' k A n z :=
  ⟨fun i hi => by
    obtain ⟨b, off, hA, hB, hc⟩ := h.at' i hi
    exact ⟨b, off, hA, by omega, hc⟩⟩

theorem Cmds.below {w w' : World} {B A n RA RL RC Z} (h : Cmds w B A n RA RL RC Z) (hb : Below B w w') : Cmds w' B A n RA RL RC Z :=
  ⟨fun i hi => by
    obtain ⟨b, off, hA, hB, hc⟩ := h.at' i hi
    exact ⟨b, off, hA, hB, fun j hj => (hb.cell (p := ⟨b, off + j, none⟩) hB).trans (hc j hj)⟩, fun j hj => (h.row j hj).below hb⟩

/-- The lengths of the first i rows, summed. -/
def Sm (RL : Nat → Nat) : Nat → Nat
  | 0 => 0
  | i + 1 => Sm RL i + RL i

set_option maxHeartbeats 400000 in
theorem same_any (w : World) (B1 B2 n c1 c2 : Nat) (A1 A2 : Option Addr) (z : Nat → Int) (hn : n ≤ 1048576) (hB1 : B1 ≤ w.heap.size) (hB2 : B2 ≤ w.heap.size) (h1 : Row w B1 .u8 A1 n z) (h2 : Row w B2 .u8 A2 n z) :
    Calls Try.prog 31 #[.slice A1 n c1, .slice A2 n c2] w fun e w' => e = .returned (.bool true) ∧ Below w.heap.size w w' := by
  have H1 : Hid (Row w B1 .u8 A1 n z) := h1
  have H2 : Hid (Row w B2 .u8 A2 n z) := h2
  clear h1 h2
  go_enter Try.func31, Try.ntmps31
  go_wp2
  go_loopw [5] (fun i wr => ∃ k : Nat, k ≤ n ∧ i = .int .i64 k ∧ Below w.heap.size w wr) (fun i _ => n - (intOf i).toNat)
  case atStart => exact ⟨0, Nat.zero_le _, rfl, Below.refl _ _⟩
  case round =>
    obtain ⟨k, hk, rfl, hbw⟩ := hrel
    have HB : Hid (Below w.heap.size w wr) := hbw
    clear hbw
    by_cases hlt : k < n
    · obtain ⟨b1, o1, rfl, hb1, hc1⟩ := H1.out.at' k hlt
      obtain ⟨b2, o2, rfl, hb2, hc2⟩ := H2.out.at' k hlt
      have e1 := (HB.out.cell (p := ⟨b1, o1 + k, none⟩) (Nat.lt_of_lt_of_le hb1 hB1)).trans (hc1 k hlt)
      have e2 := (HB.out.cell (p := ⟨b2, o2 + k, none⟩) (Nat.lt_of_lt_of_le hb2 hB2)).trans (hc2 k hlt)
      clear hc1 hc2
      go_wp2
      go_quiet (fail)
      go_wp2
      go_roundw
      case rel => exact ⟨k + 1, by omega, by go_num, below_drewN HB.out _⟩
      case measure => simp [intOf]; omega
    · go_wp2
      go_ret
      exact ⟨rfl, HB.out⟩

/-! ### zzCloneBytes -/
theorem info5 : (Try.prog.info? 5).map (fun i => (i.zero, i.size, i.bytes)) = some (some (.int .u8 0), 1, 1) := by kernel_rfl

/-- Block h, of n cells, whose first k are z's. -/
structure Copied (w wr : World) (n k : Nat) (z : Nat → Int) : Prop where
  row : wr.rowIs w.heap.size 5 n (fun j => if j < k then .int .u8 (z j) else .int .u8 0)
  below : Below w.heap.size w wr

theorem Copied.step {w wr : World} {n k : Nat} {z : Nat → Int} (h : Copied w wr n k z) : Copied w (wr.setCell ⟨w.heap.size, k, none⟩ (.int .u8 (z k))) n (k + 1) z :=
  ⟨(h.row.set k _).congr fun i hi => by
      by_cases e : i = k
      · subst e; simp
      · by_cases e2 : i < k
        · simp [e, e2, show i < k + 1 by omega]
        · simp [e, e2, show ¬ i < k + 1 by omega], h.below.setCell (Nat.le_refl _) _⟩

theorem Copied.done {w wr : World} {n : Nat} {z : Nat → Int} (h : Copied w wr n n z) : Row wr wr.heap.size .u8 (some ⟨w.heap.size, 0, none⟩) n z :=
  ⟨fun i hi => ⟨_, _, rfl, h.row.lt, fun j hj => by rw [Nat.zero_add, h.row.cell hj, if_pos hj]⟩⟩

set_option maxHeartbeats 400000 in
set_option maxRecDepth 100000 in
theorem clone_any (w : World) (B n c : Nat) (A : Option Addr) (z : Nat → Int) (hn : n ≤ 1048576) (h1 : Row w B .u8 A n z) (hB : B ≤ w.heap.size) :
    Calls Try.prog 42 #[.slice A n c] w fun e w' => ∃ A' c', e = .returned (.slice A' n c') ∧ Row w' w'.heap.size .u8 A' n z ∧ Below w.heap.size w w' ∧ ∀ a, A' = some a → w.heap.size ≤ a.block := by
  have q57 : ∀ (w : World) (a : Option Addr) (n c n' c' : Nat), (binOp .eql 57 (.slice a n c) (.slice none n' c')).run Try.prog w = .ok (.bool a.isNone) w := fun w a n c n' c' => Lib.run_eql_slice_nil w _ _ a n c n' c' Try.underlying57
  have H1 : Hid (Row w B .u8 A n z) := h1
  clear h1
  cases A with
  | none =>
    have : n = 0 := by
      rcases Nat.eq_zero_or_pos n with h | h
      · exact h
      · obtain ⟨_, _, h, _⟩ := H1.out.at' 0 h
        cases h
    subst this
    clear H1
    go_enter Try.func42, Try.ntmps42
    go_wp2
    go_ret
    exact ⟨none, 0, rfl, ⟨fun i hi => absurd hi (Nat.not_lt_zero _)⟩, Below.refl _ _, fun a h => by cases h⟩
  | some a =>
    have hmk := run_make_row' (P := Try.prog) 57 5 (.int .u8 0) 1 Try.underlying57 info5 rfl .i64 .i64 n (by omega) (by omega)
    go_enter Try.func42, Try.ntmps42
    go_wp2
    go_loopw [4] (fun i wr => ∃ k : Nat, k ≤ n ∧ i = .int .i64 k ∧ Copied w wr n k z) (fun i _ => n - (intOf i).toNat)
    case atStart => exact ⟨0, Nat.zero_le _, rfl, ⟨by simpa using World.rowIs_made w (.int .u8 0) n 5, (Below.refl _ _).alloc (Nat.le_refl _) _⟩⟩
    case round =>
      obtain ⟨k, hk, rfl, hC⟩ := hrel
      have HC : Hid (Copied w wr n k z) := hC
      clear hC hmk
      by_cases hlt : k < n
      · obtain ⟨b1, o1, e1, hb1, hc1⟩ := H1.out.at' k hlt
        cases e1
        have e1 : wr.cell? ⟨b1, o1 + k, none⟩ = some (.int .u8 (z k)) := (HC.out.below.cell (p := ⟨b1, o1 + k, none⟩) (by show b1 < _; omega)).trans (hc1 k hlt)
        have e2 : wr.cell? ⟨w.heap.size, k, none⟩ = some _ := HC.out.row.cell hlt
        have e3 := HC.out.row.frozen k
        have e5 : Hid (Copied w (wr.setCell ⟨w.heap.size, k, none⟩ (.int .u8 (z k))) n (k + 1) z) := HC.out.step
        clear hc1 q57
        go_wp2
        go_roundw
        case rel => exact ⟨k + 1, by omega, by go_num, by simpa using e5.out⟩
        case measure => simp [intOf]; omega
      · go_wp2
        have : k = n := by omega
        subst this
        go_ret
        exact ⟨_, _, rfl, HC.out.done, HC.out.below, fun a h => by cases h; exact Nat.le_refl _⟩

/-! ### zzBytes, zzLogBytes -/
/-- The bound that zzBytes tests. -/
def Fits (n m : Nat) (RL : Nat → Nat) : Prop := n + m + Sm RL m ≤ 1048576

theorem Sm_le {RL : Nat → Nat} {i : Nat} : ∀ {m : Nat}, i ≤ m → Sm RL i ≤ Sm RL m := by
  intro m h
  induction m with
  | zero => have : i = 0 := by omega
            subst this; exact Nat.le_refl _
  | succ m ih =>
    rcases Nat.lt_or_ge i (m + 1) with h1 | h1
    · exact Nat.le_trans (ih (by omega)) (Nat.le_add_right _ _)
    · have : i = m + 1 := by omega
      subst this; exact Nat.le_refl _

theorem Fits.each {n m : Nat} {RL : Nat → Nat} (h : Fits n m RL) {i : Nat} (hi : i < m) : n + m + Sm RL i + RL i ≤ 1048576 := by
  have : Sm RL i + RL i ≤ Sm RL m := Sm_le (i := i + 1) hi
  unfold Fits at h
  omega

set_option maxHeartbeats 800000 in
set_option maxRecDepth 100000 in
theorem bytes_any (w : World) (B n m nc mc : Nat) (A1 A2 : Option Addr) (RA : Nat → Option Addr) (RL RC : Nat → Nat) (Z : Nat → Nat → Int) (v0 v1 v2 v3 v4 v7 v8 v9 v10 v11 : Value)
    (hn : n ≤ 9223372036854775807) (hm : m ≤ 9223372036854775807) (hRL : ∀ i, RL i ≤ 9223372036854775807) (h : Cmds w B A2 m RA RL RC Z) :
    Calls Try.prog 28 #[v0, v1, v2, v3, v4, .slice A1 n nc, .slice A2 m mc, v7, v8, v9, v10, v11] w fun e w' => (e = .returned (.bool false) ∨ e = .returned (.bool true) ∧ Fits n m RL) ∧ w = w' := by
  have H : Hid (Cmds w B A2 m RA RL RC Z) := h
  have HR : Hid (∀ i, RL i ≤ 9223372036854775807) := hRL
  clear h hRL
  by_cases h1 : n ≤ 1048576
  · by_cases h2 : m ≤ 1048576
    · by_cases h3 : n + m ≤ 1048576
      · go_enter Try.func28, Try.ntmps28
        go_wp2
        go_loop [25, 26] (fun t i => ∃ k : Nat, k ≤ m ∧ i = .int .i64 k ∧ t = .int .i64 ((n + m + Sm RL k : Nat) : Int) ∧ n + m + Sm RL k ≤ 1048576) (fun t i => m - (intOf i).toNat)
        case atStart => exact ⟨0, Nat.zero_le _, rfl, by go_num, by simpa [Sm] using h3⟩
        case round =>
          obtain ⟨k, hk, rfl, rfl, hs⟩ := hrel
          have HS : Hid (Sm RL (k + 1) = Sm RL k + RL k) := rfl
          obtain ⟨X, hX⟩ : ∃ X, X = Sm RL k := ⟨_, rfl⟩
          rw [← hX] at hs
          rw [← hX]
          have HX : Hid (X = Sm RL k) := hX
          clear hX
          by_cases hlt : k < m
          · obtain ⟨b, off, rfl, hb, hc⟩ := H.out.at' k hlt
            have e1 := hc k hlt
            have hr := HR.out k
            clear hc
            by_cases h4 : RL k ≤ 1048576
            · by_cases h5 : n + m + X + RL k ≤ 1048576
              · go_wp2
                go_round
                case rel => exact ⟨k + 1, by omega, by go_num, by rw [HS.out, ← HX.out]; go_num, by rw [HS.out, ← HX.out]; omega⟩
                case measure => simp [intOf]; omega
              · go_wp2
                go_ret
                exact ⟨Or.inl rfl, rfl⟩
            · go_wp2
              go_ret
              exact ⟨Or.inl rfl, rfl⟩
          · go_wp2
            go_ret
            have : k = m := by omega
            subst this
            exact ⟨Or.inr ⟨rfl, by unfold Fits; rw [← HX.out]; exact hs⟩, rfl⟩
      · go_enter Try.func28, Try.ntmps28
        go_wp2
        go_ret
        exact ⟨Or.inl rfl, rfl⟩
    · go_enter Try.func28, Try.ntmps28
      go_wp2
      go_ret
      exact ⟨Or.inl rfl, rfl⟩
  · go_enter Try.func28, Try.ntmps28
    go_wp2
    go_ret
    exact ⟨Or.inl rfl, rfl⟩

set_option maxHeartbeats 800000 in
set_option maxRecDepth 100000 in
theorem logBytes_any (w : World) (B n m nc mc : Nat) (A1 A2 : Option Addr) (RA : Nat → Option Addr) (RL RC : Nat → Nat) (Z : Nat → Nat → Int)
    (hn : n ≤ 65536) (hm : m ≤ 65536) (hF : Fits n m RL) (h : Cmds w B A2 m RA RL RC Z) :
    Calls Try.prog 29 #[.slice A1 n nc, .slice A2 m mc] w fun e w' => (∃ t : Int, e = .returned (.int .i64 t)) ∧ w = w' := by
  have H : Hid (Cmds w B A2 m RA RL RC Z) := h
  have HF : Hid (Fits n m RL) := hF
  clear h hF
  by_cases h1 : 8 * n + 24 * m ≤ 1048576
  · go_enter Try.func29, Try.ntmps29
    go_wp2
    go_loop [5, 6] (fun t i => ∃ k X : Nat, k ≤ m ∧ i = .int .i64 k ∧ t = .int .i64 (X : Int) ∧ X ≤ 1048576) (fun t i => m - (intOf i).toNat)
    case atStart => exact ⟨0, 8 * n + 24 * m, Nat.zero_le _, rfl, by go_num, h1⟩
    case round =>
      obtain ⟨k, X, hk, rfl, rfl, hs⟩ := hrel
      by_cases hlt : k < m
      · obtain ⟨b, off, rfl, hb, hc⟩ := H.out.at' k hlt
        have e1 := hc k hlt
        have hr := HF.out.each hlt
        have hr2 : RL k ≤ 1048576 := by omega
        clear hc hr
        by_cases h5 : X + RL k ≤ 1048576
        · go_wp2
          go_round
          case rel => exact ⟨k + 1, X + RL k, by omega, by go_num, by go_num, by omega⟩
          case measure => simp [intOf]; omega
        · go_wp2
          go_ret
          exact ⟨⟨_, rfl⟩, rfl⟩
      · go_wp2
        go_ret
        exact ⟨⟨_, rfl⟩, rfl⟩
  · go_enter Try.func29, Try.ntmps29
    go_wp2
    go_ret
    exact ⟨⟨_, rfl⟩, rfl⟩

end Go.Proofs.Qxb6612844a
