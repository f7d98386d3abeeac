/-
  THE ROW of FnReplicateExact.
-/
import Derived.Test.Qxb6612844aLaw
import Derived.Test.Qxb6612844aClosed
import Derived.ProofKit
import Derived.OpenShut
import Derived.Deep.Matrix
set_option linter.unusedVariables false
set_option linter.unusedSimpArgs false
namespace Go.Proofs.Qxb6612844a
open Go.ChangeShapes Go.WideShapes Go.ChangeAt Go.RowKit

theorem Try.own : ownKnob Try.prog.godebug = none := by kernel_rfl
theorem Try.cells22 : Try.prog.cellsOf 22 = 1 := by kernel_rfl
theorem Try.cells57 : Try.prog.cellsOf 57 = 1 := by kernel_rfl
theorem Try.cells5 : Try.prog.cellsOf 5 = 1 := by kernel_rfl
theorem Try.laidOut : laidOutB Try.prog = true := by kernel_rfl

/-- A slice of uint64 of the input, opened as the walks ask for it. -/
theorem open_terms {H : Type} {enc : TypeId × Value → H} {W : World} {A : Option Addr} {n c : Nat} {d : DataW H} {ps : List MemPlace} (h : DataW.Trod enc Try.prog W 0 (fun _ => true) true 23 (.slice A n c) d ps) :
    n ≤ 9223372036854775807 ∧ ∃ T, Row W W.heap.size .u64 A n T := by
  obtain ⟨fuel, hf⟩ := h
  rcases open_ints Try.underlying23 Try.underlying22 Try.cells22 hf with ⟨hcs, _⟩ | ⟨a, len, cap, zs, hcs, _, hl, hm, hz, _, hcell, _⟩
  · simp [Value.cells] at hcs
    obtain ⟨rfl, rfl, rfl⟩ := hcs
    exact ⟨by omega, fun _ => 0, ⟨fun i hi => absurd hi (Nat.not_lt_zero _)⟩⟩
  · simp [Value.cells] at hcs
    obtain ⟨rfl, rfl, rfl⟩ := hcs
    simp only [if_true] at hz
    refine ⟨by unfold maxLen at hm; omega, fun j => zs.getD j 0, ⟨fun i hi => ?_⟩⟩
    obtain ⟨b, off, spot⟩ := a
    have hspot : spot = none := by simpa [Addr.add] using World.cell?_spot (hcell 0 (by omega))
    subst hspot
    have hc : ∀ j, j < n → W.cell? ⟨b, off + j, none⟩ = some (.int .u64 (zs.getD j 0)) := fun j hj => by rw [← add_plain]; exact hcell j (by omega)
    exact ⟨b, off, rfl, block_lt_of_cell (hc i hi), hc⟩

/-- A slice of slices of bytes of the input, opened as the walks ask for it. -/
theorem open_cmds {H : Type} {enc : TypeId × Value → H} {W : World} {A : Option Addr} {n c : Nat} {d : DataW H} {ps : List MemPlace} (h : DataW.Trod enc Try.prog W 0 (fun _ => true) true 53 (.slice A n c) d ps) :
    n ≤ 9223372036854775807 ∧ ∃ RA RL RC Z, (∀ i : Nat, (RL i : Nat) ≤ 9223372036854775807) ∧ Cmds W W.heap.size A n RA RL RC Z := by
  obtain ⟨fuel, hf⟩ := h
  rcases Deep.open_int_rows Try.underlying53 Try.underlying57 Try.underlying5 Try.cells57 Try.cells5 hf with ⟨hcs, _⟩ | ⟨a, len, cap, RA, L, C, Z, hcs, _, hl, hm, _, hrow⟩
  · simp [Value.cells] at hcs
    obtain ⟨rfl, rfl, rfl⟩ := hcs
    exact ⟨by omega, fun _ => none, fun _ => 0, fun _ => 0, fun _ _ => 0, fun _ => Nat.zero_le _, ⟨fun i hi => absurd hi (Nat.not_lt_zero _), fun i hi => absurd hi (Nat.not_lt_zero _)⟩⟩
  · simp [Value.cells] at hcs
    obtain ⟨rfl, rfl, rfl⟩ := hcs
    refine ⟨by unfold maxLen at hm; omega, RA, fun i => if i < n then L i else 0, C, fun i j => (Z i).getD j 0, fun i => ?_, ⟨fun i hi => ?_, fun j hj => ⟨fun i hi => ?_⟩⟩⟩
    · show (if i < n then L i else 0) ≤ _
      split
      · have := hrow i (by omega)
        have h1 := this.2.1
        have h2 := this.2.2.1
        unfold maxLen at h2
        omega
      · omega
    · obtain ⟨b, off, spot⟩ := a
      have hspot : spot = none := by simpa [Addr.add] using World.cell?_spot (hrow 0 (by omega)).1
      subst hspot
      have hc : ∀ j, j < n → W.cell? ⟨b, off + j, none⟩ = some (.slice (RA j) (if j < n then L j else 0) (C j)) := fun j hj => by rw [← add_plain, if_pos hj]; exact (hrow j (by omega)).1
      exact ⟨b, off, rfl, block_lt_of_cell (hc i hi), hc⟩
    · have hr := hrow j (by omega)
      have hi' : i < L j := by simpa [hj] using hi
      cases hA : RA j with
      | none =>
        have h0 := hr.2.2.2.2.2.1 hA
        have h1 := hr.2.1
        omega
      | some a' =>
        obtain ⟨b, off, spot⟩ := a'
        have hcell := (hr.2.2.2.2.2.2 _ hA).2
        have h1 := hr.2.1
        have hspot : spot = none := by simpa [Addr.add] using World.cell?_spot (hcell 0 (by omega))
        subst hspot
        have hc : ∀ x, x < (if j < n then L j else 0) → W.cell? ⟨b, off + x, none⟩ = some (.int .u8 ((Z j).getD x 0)) := fun x hx => by rw [← add_plain]; exact hcell x (by rw [if_pos hj] at hx; omega)
        exact ⟨b, off, rfl, block_lt_of_cell (hc i hi), hc⟩

theorem wf_u64 {x : Int} (h : (Lit.int .u64 x).wf = true) : 0 ≤ x ∧ x < 18446744073709551616 := by
  simp [Lit.wf, IntKind.min, IntKind.max, IntKind.signed, IntKind.bits] at h
  omega

set_option maxRecDepth 100000 in
set_option maxHeartbeats 1600000 in
theorem lifted (os : Os) (started : os.Started) (H : Type) (enc : TypeId × Value → H) :
    ReturnsInHanded {} Try.checked os 8 .any (Rows.fnReplicateExactSpec.pre6 enc Try.prog Try.f8 Rows.fnReplicateExactRow.domain false) (Rows.fnReplicateExactSpec.post enc Try.prog Try.f8 false true false false) := by
  refine returnsInHanded_of_change (C := Try.checked) Try.own started (by kernel_rfl) Try.func8
    (ChangeSpec.witness6 (enc := enc) (C := Try.checked) false ⟨#[], #[.int .u64 0, .int .u64 0, .int .i64 0, .int .u64 0, .int .u64 0, .slice none 0 0, .slice none 0 0, .int .u64 0, .int .u64 0, .bool false, .int .u64 0, .int .i64 0], []⟩ 8 (by kernel_rfl) (by kernel_rfl) (by kernel_rfl) (by kernel_rfl)) ?_
  intro W base args ds gs before hval0 hW _ _
  have hval : ∀ (j : Nat) t v, Try.f8.params[j]? = some t → args[j]? = some v → Value.okWide Try.prog W .any base t v := hval0
  have hW' := hW
  obtain ⟨p, q, hA0, hV, rfl, _, _⟩ := hW
  have hA : DataW.TrodAll enc Try.prog W 0 (fun _ => true) true Try.f8.params.toList args.toList ds p := hA0
  rw [Try.params8] at hA hval
  clear hA0 hval0
  obtain ⟨args⟩ := args
  obtain ⟨v0, _, d0, _, p0, _, e0, rfl, rfl, h0, hR1⟩ := trodAll_cons hA
  simp only at e0
  subst e0
  obtain ⟨v1, _, d1, _, p1, _, rfl, rfl, rfl, h1, hR2⟩ := trodAll_cons hR1
  obtain ⟨v2, _, d2, _, p2, _, rfl, rfl, rfl, h2, hR3⟩ := trodAll_cons hR2
  obtain ⟨v3, _, d3, _, p3, _, rfl, rfl, rfl, h3, hR4⟩ := trodAll_cons hR3
  obtain ⟨v4, _, d4, _, p4, _, rfl, rfl, rfl, h4, hR5⟩ := trodAll_cons hR4
  obtain ⟨v5, _, d5, _, p5, _, rfl, rfl, rfl, h5, hR6⟩ := trodAll_cons hR5
  obtain ⟨v6, _, d6, _, p6, _, rfl, rfl, rfl, h6, hR7⟩ := trodAll_cons hR6
  obtain ⟨v7, _, d7, _, p7, _, rfl, rfl, rfl, h7, hR8⟩ := trodAll_cons hR7
  obtain ⟨v8, _, d8, _, p8, _, rfl, rfl, rfl, h8, hR9⟩ := trodAll_cons hR8
  obtain ⟨v9, _, d9, _, p9, _, rfl, rfl, rfl, h9, hR10⟩ := trodAll_cons hR9
  obtain ⟨v10, _, d10, _, p10, _, rfl, rfl, rfl, h10, hR11⟩ := trodAll_cons hR10
  obtain ⟨v11, _, d11, _, p11, _, rfl, rfl, rfl, h11, hR12⟩ := trodAll_cons hR11
  obtain ⟨rfl, rfl, rfl⟩ := trodAll_nil hR12
  obtain ⟨rfl, rfl⟩ := trodVars_none hV
  obtain ⟨id, rfl, rfl, rfl, w0⟩ := open_int Try.underlying22 (hval 0 22 v0 rfl rfl) h0
  obtain ⟨term, rfl, rfl, rfl, w1⟩ := open_int Try.underlying22 (hval 1 22 v1 rfl rfl) h1
  obtain ⟨role, rfl, rfl, rfl, w2⟩ := open_int Try.underlying3 (hval 2 3 v2 rfl rfl) h2
  obtain ⟨si, rfl, rfl, rfl, w3⟩ := open_int Try.underlying22 (hval 3 22 v3 rfl rfl) h3
  obtain ⟨st, rfl, rfl, rfl, w4⟩ := open_int Try.underlying22 (hval 4 22 v4 rfl rfl) h4
  obtain ⟨commit, rfl, rfl, rfl, w7⟩ := open_int Try.underlying22 (hval 7 22 v7 rfl rfl) h7
  obtain ⟨to, rfl, rfl, rfl, w8⟩ := open_int Try.underlying22 (hval 8 22 v8 rfl rfl) h8
  obtain ⟨has, rfl, rfl, rfl⟩ := open_bool Try.underlying4 (hval 9 4 v9 rfl rfl) h9
  obtain ⟨nx, rfl, rfl, rfl, w10⟩ := open_int Try.underlying22 (hval 10 22 v10 rfl rfl) h10
  obtain ⟨mx, rfl, rfl, rfl, w11⟩ := open_int Try.underlying3 (hval 11 3 v11 rfl rfl) h11
  obtain ⟨A1, n, nc, rfl⟩ := okWide_slice Try.underlying23 (hval 5 23 v5 rfl rfl)
  obtain ⟨A2, m, mc, rfl⟩ := okWide_slice Try.underlying53 (hval 6 53 v6 rfl rfl)
  clear h0 h1 h2 h3 h4 h7 h8 h9 h10 h11 hval hA hV hR1 hR2 hR3 hR4 hR5 hR6 hR7 hR8 hR9 hR10 hR11 hR12
  simp only [List.append_nil, List.nil_append] at hW'
  have hlt5 : ∀ x ∈ p5, x.block < W.heap.size := fun x hx => by simpa using hW'.lt x (by simp [hx])
  have hlt6 : ∀ x ∈ p6, x.block < W.heap.size := fun x hx => by simpa using hW'.lt x (by simp [hx])
  obtain ⟨hn, T, hT⟩ := open_terms h5
  obtain ⟨hm, RA, RL, RC, Z, hRL, hC⟩ := open_cmds h6
  obtain ⟨s, hs⟩ : ∃ s : Nat, si = (s : Int) := ⟨si.toNat, by have := wf_u64 w3; omega⟩
  subst hs
  refine (law_any W id term role s st commit to nx mx has W.heap.size n m nc mc A1 A2 T RA RL RC Z hn hm hRL (Nat.le_refl _) hT hC (by have := wf_u64 w3; omega) (wf_u64 w7).1 (wf_u64 w10).1 w8).mono ?_
  rintro e W' ⟨rfl, hb⟩
  have g5 := Below.trod Try.laidOut (by kernel_rfl) (of_decide_eq_true (by kernel_rfl)) h5 hb hlt5
  have g6 := Below.trod Try.laidOut (by kernel_rfl) (of_decide_eq_true (by kernel_rfl)) h6 hb hlt6
  refine ⟨_, rfl, _, _, _, [], p5 ++ p6, [], hW', ?_, ?_, rfl, hb.frame _, fun h => by cases h⟩
  · exact trodAll_mk1 (shut_bool Try.underlying4 true)
  · have := trodAll_cons_mk (shut_int Try.underlying22 w0) (trodAll_cons_mk (shut_int Try.underlying22 w1) (trodAll_cons_mk (shut_int Try.underlying3 w2) (trodAll_cons_mk (shut_int Try.underlying22 w3) (trodAll_cons_mk (shut_int Try.underlying22 w4) (trodAll_cons_mk g5 (trodAll_cons_mk g6
      (trodAll_cons_mk (shut_int Try.underlying22 w7) (trodAll_cons_mk (shut_int Try.underlying22 w8) (trodAll_cons_mk (shut_bool Try.underlying4 has) (trodAll_cons_mk (shut_int Try.underlying22 w10) (trodAll_mk1 (shut_int Try.underlying3 w11))))))))))))
    simp only [List.append_nil, List.nil_append] at this
    exact this

/-- THE STATEMENT. -/
theorem proved : Rows.FnReplicateExactSaid :=
  OpenClaim.holds_of_wide 8 Try.f8 rfl rfl rfl rfl rfl rfl rfl ⟨rfl, rfl, rfl, rfl, rfl⟩ rfl rfl rfl rfl rfl (by kernel_rfl) Try.func8 crall
    (of_decide_eq_true (by kernel_rfl)) (by unfold Func.isWrapper; first | (rw [if_pos (by decide +kernel)]; kernel_rfl) | (rw [if_neg (by decide +kernel)]; exact ⟨rfl, rfl⟩))
    (fun os started H enc _ => lifted os started H enc)

#print axioms proved

end Go.Proofs.Qxb6612844a
