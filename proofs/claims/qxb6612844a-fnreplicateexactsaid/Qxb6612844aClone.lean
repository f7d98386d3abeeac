/-
  slices.Clone at entries.
-/
import Derived.Test.Qxb6612844aApp
import Derived.Maps.AppendAt
set_option linter.unusedVariables false
set_option linter.unusedSimpArgs false
namespace Go.Proofs.Qxb6612844a
open Go.RowKit

theorem info61' : (Try.prog.info? 61).map (fun i => (i.zero, i.size, i.bytes)) = some (some (.agg #[.int .u64 0, .slice none 0 0, .int .u8 0, .pointer none]), 4, 48) := by kernel_rfl

theorem info61e : ∃ i, Try.prog.info? 61 = some i ∧ i.zero = some (.agg #[.int .u64 0, .slice none 0 0, .int .u8 0, .pointer none]) ∧ i.size = 4 ∧ i.bytes = 48 := by
  obtain ⟨i, hi, hz⟩ := Option.map_eq_some_iff.1 info61'
  simp only [Prod.mk.injEq] at hz
  exact ⟨i, hi, hz.1, hz.2.1, hz.2.2⟩

/-- Cell i of the entries from number 0 on. -/
def cv (T : Nat → Int) (EA : Nat → Option Addr) (RL EC : Nat → Nat) (i : Nat) : Value := (entC T EA RL EC (i / 4)).getD (i % 4) undef

theorem cv_one (T : Nat → Int) (EA : Nat → Option Addr) (RL EC : Nat → Nat) (i : Nat) : (cv T EA RL EC i).oneCell' = true := by
  unfold cv entC
  have : i % 4 < 4 := Nat.mod_lt _ (by omega)
  generalize i % 4 = r at this
  match r, this with
  | 0, _ => rfl
  | 1, _ => rfl
  | 2, _ => rfl
  | 3, _ => rfl

theorem cv_at (T : Nat → Int) (EA : Nat → Option Addr) (RL EC : Nat → Nat) (j r : Nat) (v : Value) (h : (entC T EA RL EC j)[r]? = some v) : cv T EA RL EC (j * 4 + r) = v := by
  have hr : r < 4 := (List.getElem?_eq_some_iff.1 h).1
  unfold cv
  rw [show (j * 4 + r) / 4 = j by omega, show (j * 4 + r) % 4 = r by omega, List.getD_eq_getElem?_getD, h]
  rfl

theorem cv_cell {w : World} {h n : Nat} {T : Nat → Int} {EA : Nat → Option Addr} {RL EC : Nat → Nat} (hent : ∀ j, j < n → w.rangeAt h (j * 4) (entC T EA RL EC j)) (i : Nat) (hi : i < n * 4) : w.cell? ⟨h, i, none⟩ = some (cv T EA RL EC i) := by
  have hr : i % 4 < 4 := Nat.mod_lt _ (by omega)
  have hl : i % 4 < (entC T EA RL EC (i / 4)).length := hr
  have := hent (i / 4) (by omega) (i % 4) _ (List.getElem?_eq_getElem hl)
  rw [show i / 4 * 4 + i % 4 = i by omega] at this
  rw [this]
  unfold cv
  rw [List.getD_eq_getElem?_getD, List.getElem?_eq_getElem hl]
  rfl

/-- A slice of m entries, those from number p on. -/
structure Ents (w : World) (lo B : Nat) (A : Option Addr) (m p : Nat) (T : Nat → Int) (EA : Nat → Option Addr) (RL EC : Nat → Nat) : Prop where
  at' : ∀ i, i < m → ∃ g, A = some ⟨g, 0, none⟩ ∧ lo ≤ g ∧ g < B ∧ ∀ j, j < m → w.rangeAt g (j * 4) (entC T EA RL EC (p + j))

theorem Ents.below {w w' : World} {lo B B' A m p T EA RL EC} (h : Ents w lo B A m p T EA RL EC) (hb : Below B' w w') (hB : B ≤ B') : Ents w' lo B' A m p T EA RL EC :=
  ⟨fun i hi => by
    obtain ⟨g, e, hlo, hg, hr⟩ := h.at' i hi
    exact ⟨g, e, hlo, by omega, fun j hj i v hv => (hb.cell (p := ⟨g, j * 4 + i, none⟩) (show g < B' by omega)).trans (hr j hj i v hv)⟩⟩

theorem Ents.nest {w : World} {lo B A m p T EA RL EC} (h : Ents w lo B A m p T EA RL EC) (r : Nat) (hr : r < lo) (v0 v1 v2 v3 v4 v5 : Value) : Ents (nest6 w r v0 v1 v2 v3 v4 v5) lo B A m p T EA RL EC :=
  ⟨fun i hi => by
    obtain ⟨g, e, hlo, hg, hR⟩ := h.at' i hi
    exact ⟨g, e, hlo, hg, fun j hj => World.rangeAt_setCells_apart (hR j hj) r 0 [v0, v1, v2, v3, v4, v5] (Or.inl (by omega))⟩⟩

theorem Ents.drew {w : World} {lo B A m p T EA RL EC} (h : Ents w lo B A m p T EA RL EC) : Ents w.drew lo B A m p T EA RL EC := ⟨h.at'⟩

theorem own_ents {w' : World} {base m p : Nat} {v' : Value} {T : Nat → Int} {EA : Nat → Option Addr} {RL EC : Nat → Nat} (h : w'.ownsRow base 61 4 v' (0 + m) ([] ++ (List.range (m * 4)).map fun j => cv T EA RL EC (p * 4 + j))) :
    ∃ A c, v' = .slice A m c ∧ Ents w' base w'.heap.size A m p T EA RL EC := by
  rcases h.2 with ⟨hv, h0⟩ | ⟨g, cap, cur, hv, hb, hg, hle, hcap, hcs, hxs⟩
  · have : m = 0 := by omega
    subst this
    exact ⟨none, 0, hv, ⟨fun i hi => absurd hi (Nat.not_lt_zero _)⟩⟩
  · refine ⟨_, _, by rw [hv, Nat.zero_add], ⟨fun i hi => ⟨g, rfl, hb, ?_, fun j hj r v hr => ?_⟩⟩⟩
    · rcases Nat.lt_or_ge g w'.heap.size with hlt | hge
      · exact hlt
      · rw [Array.getElem?_eq_none hge] at hg; cases hg
    · have hr4 : r < 4 := (List.getElem?_eq_some_iff.1 hr).1
      have e1 := congrArg (fun l => l[j * 4 + r]?) hxs
      simp only [List.nil_append, Nat.zero_add] at e1
      rw [List.getElem?_take, if_pos (by omega), List.getElem?_map, List.getElem?_range (by omega)] at e1
      rw [cell_of_row w' g _ cur 61 (0, 0) hg, ← Array.getElem?_toList, e1]
      simp only [Option.map_some, Option.some.injEq]
      rw [show p * 4 + (j * 4 + r) = (p + j) * 4 + r by omega]
      exact cv_at T EA RL EC (p + j) r v hr

set_option maxHeartbeats 800000 in
set_option maxRecDepth 100000 in
theorem cloneLog_any (w : World) (h n p m c : Nat) (T : Nat → Int) (EA : Nat → Option Addr) (RL EC : Nat → Nat) (hh : h < w.heap.size) (hent : ∀ j, j < n → w.rangeAt h (j * 4) (entC T EA RL EC j)) (hpm : p + m ≤ n) (hn : n ≤ 65536) :
    Calls Try.prog 41 #[.slice (some ⟨h, p * 4, none⟩) m c] w fun e w' => ∃ A c', e = .returned (.slice A m c') ∧ Ents w' w.heap.size w'.heap.size A m p T EA RL EC ∧ Below w.heap.size w w' := by
  have q42 : ∀ (w : World) (a : Option Addr) (n c n' c' : Nat), (binOp .eql 42 (.slice a n c) (.slice none n' c')).run Try.prog w = .ok (.bool a.isNone) w := fun w a n c n' c' => Lib.run_eql_slice_nil w _ _ a n c n' c' Try.underlying42
  obtain ⟨i, hi, hz, hsz, hby⟩ := info61e
  have HE : Hid (∀ W, Below w.heap.size w W → ∀ j u, ((List.range (m * 4)).map fun j => cv T EA RL EC (p * 4 + j))[j]? = some u → W.cell? ((⟨h, p * 4, none⟩ : Addr).add j) = some u) := fun W hb j u hu => by
    have hj : j < m * 4 := by simpa using (List.getElem?_eq_some_iff.1 hu).1
    rw [List.getElem?_map, List.getElem?_range hj] at hu
    simp only [Option.map_some, Option.some.injEq] at hu
    rw [Addr.add_mid, hb.cell (p := ⟨h, p * 4 + j, none⟩) hh, cv_cell hent _ (by omega), hu]
  clear hent
  go_enter Try.func41, Try.ntmps41
  have hB0 : Below w.heap.size w (w.alloc (Obj.cells #[] 61)) := (Below.refl _ _).alloc (Nat.le_refl _) _
  have HB : Hid (Below w.heap.size w (w.alloc (Obj.cells #[] 61))) := hB0
  clear hB0
  have HO : Hid ((w.alloc (Obj.cells #[] 61)).ownsRow w.heap.size 61 4 (.slice (some ⟨w.heap.size, 0, none⟩) 0 0) 0 []) := ⟨rfl, Or.inr ⟨w.heap.size, 0, #[], rfl, Nat.le_refl _, heap_alloc_last w _, Nat.le_refl _, by decide, rfl, rfl⟩⟩
  go_wp2_with (at_builtin; refine wpList_append_own_at _ rfl _ _ _ rfl w.heap.size 61 i _ 4 48 Try.underlying42 hi hz hsz hby rfl (by omega) (.slice (some ⟨w.heap.size, 0, none⟩) 0 0) 0 [] (by rfl) HO.out ⟨h, p * 4, none⟩ m c ((List.range (m * 4)).map fun j => cv T EA RL EC (p * 4 + j)) (by rfl) (by simp) (HE.out _ HB.out) (by intro u hu; obtain ⟨j, _, rfl⟩ := List.mem_map.1 hu; exact cv_one _ _ _ _ _) (by unfold maxLen; omega) (by omega) (by simp) ?_)
  intro v' w' hown hgrow _ _
  obtain ⟨A, c', rfl, hE⟩ := own_ents (p := p) (by simpa using hown)
  have R1 : Hid (Ents w' w.heap.size w'.heap.size A m p T EA RL EC) := hE
  have R2 : Hid (Below w.heap.size w w') := HB.out.grown hgrow HB.out.size (fun j hj => by cases hj; exact Nat.le_refl _)
  clear hown hgrow hE
  go_wp2
  go_ret
  exact ⟨_, _, rfl, R1.out, R2.out⟩

end Go.Proofs.Qxb6612844a
