/-
  THE PLAIN LAW of the seat's second statement: the nearest held ancestor, found by trying every path.
-/
import Derived.Test.Qxb6612745aHeld
set_option linter.unusedVariables false
set_option linter.unusedSimpArgs false
namespace Go.Proofs.Qxb6612745a
open Go.Maps

/-- d is a directory strictly above p. -/
def Anc (d p : ByteArray) : Prop := 0 < p.size ∧ (d.size = 0 ∨ (d.size < p.size ∧ (Pl.at' p d.size).toNat = 47 ∧ p.data.toList.take d.size = d.data.toList))

theorem anc_iff (d p : ByteArray) : ancB d p = true ↔ Anc d p := by
  have e1 : ∀ s : ByteArray, (s.toList.isEmpty = true) = (s.size = 0) := fun s => propext (isEmpty_size s)
  have e2 : (p.extract 0 d.size).toList = p.data.toList.take d.size := by rw [Lib.extract_toList]; simp
  unfold ancB Anc
  simp only [Bool.and_eq_true, Bool.or_eq_true, Bool.not_eq_true', decide_eq_true_eq, e1, beq_iff_eq, e2, Lib.toList_data]
  have e3 : (List.isEmpty p.data.toList = false) ↔ 0 < p.size := by
    have := isEmpty_size p
    rw [Lib.toList_data] at this
    constructor
    · intro h
      have hne : ¬ p.size = 0 := fun e => by rw [this.2 e] at h; cases h
      omega
    · intro h
      cases hb : p.data.toList.isEmpty
      · rfl
      · have := this.1 hb; omega
  have e4 : (List.isEmpty d.data.toList = true) ↔ d.size = 0 := by
    have := isEmpty_size d
    rwa [Lib.toList_data] at this
  rw [e3, e4]

/-- Where the last slash is. -/
theorem lix_spec (s : ByteArray) : ∀ k, (Pl.lix s k = -1 ∧ ∀ j, j < k → (Pl.at' s j).toNat ≠ 47) ∨ ∃ L : Nat, Pl.lix s k = L ∧ L < k ∧ (Pl.at' s L).toNat = 47 ∧ ∀ j, L < j → j < k → (Pl.at' s j).toNat ≠ 47
  | 0 => Or.inl ⟨rfl, fun j h => absurd h (Nat.not_lt_zero j)⟩
  | k + 1 => by
    unfold Pl.lix
    by_cases h : (Pl.at' s k).toNat = 47
    · rw [if_pos h]
      exact Or.inr ⟨k, rfl, by omega, h, fun j h1 h2 => by omega⟩
    · rw [if_neg h]
      rcases lix_spec s k with ⟨e, hn⟩ | ⟨L, e, hL, hs, hn⟩
      · refine Or.inl ⟨e, fun j hj => ?_⟩
        by_cases hjk : j = k
        · rw [hjk]; exact h
        · exact hn j (by omega)
      · refine Or.inr ⟨L, e, by omega, hs, fun j h1 h2 => ?_⟩
        by_cases hjk : j = k
        · rw [hjk]; exact h
        · exact hn j h1 (by omega)

/-- The parent: nothing, where there is no slash; else the text ahead of the last. -/
theorem par_spec (p : ByteArray) : ((Pl.par p).size = 0 ∧ ∀ j, j < p.size → (Pl.at' p j).toNat ≠ 47) ∨
    ∃ L : Nat, L < p.size ∧ (Pl.at' p L).toNat = 47 ∧ (∀ j, L < j → j < p.size → (Pl.at' p j).toNat ≠ 47) ∧ (Pl.par p).data.toList = p.data.toList.take L ∧ (Pl.par p).size = L := by
  rcases lix_spec p p.size with ⟨e, hn⟩ | ⟨L, e, hL, hs, hn⟩
  · refine Or.inl ⟨?_, hn⟩
    unfold Pl.par
    rw [e, if_neg (by omega)]
    rfl
  · have hp : (Pl.par p).data.toList = p.data.toList.take L := by
      unfold Pl.par
      rw [e, if_pos (by omega), Int.toNat_natCast, ← Lib.toList_data, Lib.extract_toList]
      simp
    refine Or.inr ⟨L, hL, hs, hn, hp, ?_⟩
    rw [← len_data, hp, List.length_take, len_data]
    omega

theorem at_take (p q : ByteArray) (L i : Nat) (h : q.data.toList = p.data.toList.take L) (hi : i < L) : Pl.at' q i = Pl.at' p i := by
  unfold Pl.at'
  rw [h, List.getD_eq_getElem?_getD, List.getD_eq_getElem?_getD, List.getElem?_take, if_pos hi]

theorem size_zero_eq {a b : ByteArray} (ha : a.size = 0) (hb : b.size = 0) : a = b := by
  apply ba_ext
  have h1 : a.data.toList = [] := List.length_eq_zero_iff.1 (by rw [len_data]; exact ha)
  have h2 : b.data.toList = [] := List.length_eq_zero_iff.1 (by rw [len_data]; exact hb)
  rw [h1, h2]

theorem anc_par (p : ByteArray) (hp : 0 < p.size) : Anc (Pl.par p) p := by
  refine ⟨hp, ?_⟩
  rcases par_spec p with ⟨h0, _⟩ | ⟨L, hL, hs, _, hpar, hsz⟩
  · exact Or.inl h0
  · exact Or.inr ⟨by omega, by rw [hsz]; exact hs, by rw [hsz, hpar]⟩

theorem anc_or (d p : ByteArray) (h : Anc d p) : d = Pl.par p ∨ Anc d (Pl.par p) := by
  obtain ⟨hp, hd⟩ := h
  rcases par_spec p with ⟨h0, hn⟩ | ⟨L, hL, hs, hn, hpar, hsz⟩
  · rcases hd with hd | ⟨h1, h2, _⟩
    · exact Or.inl (size_zero_eq hd h0)
    · exact absurd h2 (hn _ h1)
  · rcases hd with hd | ⟨h1, h2, h3⟩
    · by_cases hL0 : L = 0
      · exact Or.inl (size_zero_eq hd (by omega))
      · exact Or.inr ⟨by omega, Or.inl hd⟩
    · have hle : d.size ≤ L := by
        by_cases hc : L < d.size
        · exact absurd h2 (hn _ hc h1)
        · omega
      by_cases he : d.size = L
      · refine Or.inl (ba_ext ?_)
        rw [hpar, ← he, h3]
      · refine Or.inr ⟨by omega, Or.inr ⟨by omega, ?_, ?_⟩⟩
        · rw [at_take p _ L _ hpar (by omega)]; exact h2
        · rw [hpar, List.take_take, Nat.min_eq_left hle, h3]

theorem anc_up (d p : ByteArray) (hp : 0 < p.size) (h : Anc d (Pl.par p)) : Anc d p := by
  obtain ⟨hq, hd⟩ := h
  refine ⟨hp, ?_⟩
  rcases hd with hd | ⟨h1, h2, h3⟩
  · exact Or.inl hd
  rcases par_spec p with ⟨h0, _⟩ | ⟨L, hL, hs, _, hpar, hsz⟩
  · omega
  · refine Or.inr ⟨by omega, ?_, ?_⟩
    · rw [← at_take p _ L _ hpar (by omega)]; exact h2
    · rw [hpar, List.take_take, Nat.min_eq_left (by omega)] at h3
      exact h3

theorem anc_lt (d p : ByteArray) (h : Anc d p) : d.size < p.size := by
  obtain ⟨hp, hd⟩ := h
  rcases hd with hd | ⟨h1, _⟩ <;> omega

/-- Two directories above p of one length are one. -/
theorem anc_same (a b p : ByteArray) (ha : Anc a p) (hb : Anc b p) (h : a.size = b.size) : a = b := by
  rcases ha.2 with h1 | ⟨_, _, h1⟩
  · exact size_zero_eq h1 (by omega)
  · rcases hb.2 with h2 | ⟨_, _, h2⟩
    · exact size_zero_eq (by omega) h2
    · apply ba_ext
      rw [← h1, ← h2, h]

/-- WHAT above FINDS: the longest held directory above p, or none is held. -/
theorem above_spec (hd : ByteArray → Bool) : ∀ (n : Nat) (p : ByteArray), p.size ≤ n →
    ((Pl.above hd p).2 = true ∧ hd (Pl.above hd p).1 = true ∧ Anc (Pl.above hd p).1 p ∧ ∀ d, hd d = true → Anc d p → d.size ≤ (Pl.above hd p).1.size) ∨
    ((Pl.above hd p).2 = false ∧ (Pl.above hd p).1 = ⟨#[]⟩ ∧ ∀ d, Anc d p → hd d = false)
  | 0, p, h => by
    right
    rw [Pl.above_empty hd p (by omega)]
    exact ⟨rfl, rfl, fun d ha => absurd ha.1 (by omega)⟩
  | n + 1, p, h => by
    by_cases h0 : p.size = 0
    · right
      rw [Pl.above_empty hd p h0]
      exact ⟨rfl, rfl, fun d ha => absurd ha.1 (by omega)⟩
    · have hp : 0 < p.size := by omega
      have hlt := Pl.par_size p hp
      rw [Pl.above_step hd p hp]
      by_cases hh : hd (Pl.par p) = true
      · left
        rw [if_pos hh]
        refine ⟨rfl, hh, anc_par p hp, fun d _ ha => ?_⟩
        rcases anc_or d p ha with e | ha'
        · rw [e]; exact Nat.le_refl _
        · exact Nat.le_of_lt (anc_lt _ _ ha')
      · rw [if_neg hh]
        rcases above_spec hd n (Pl.par p) (by omega) with ⟨a1, a2, a3, a4⟩ | ⟨a1, a2, a3⟩
        · left
          refine ⟨a1, a2, anc_up _ p hp a3, fun d hdd ha => ?_⟩
          rcases anc_or d p ha with e | ha'
          · rw [e] at hdd; exact absurd hdd hh
          · exact a4 d hdd ha'
        · right
          refine ⟨a1, a2, fun d ha => ?_⟩
          rcases anc_or d p ha with e | ha'
          · rw [e]; simpa using hh
          · exact a3 d ha'

/-! ### the search over every path -/
def bl (ss : List ByteArray) (p : ByteArray) : Nat → Int × Int
  | 0 => (-1, -1)
  | k + 1 => if ancB (ss.getD k ByteArray.empty) p = true ∧ (bl ss p k).2 ≤ ((ss.getD k ByteArray.empty).size : Int) then (k, (ss.getD k ByteArray.empty).size) else bl ss p k

theorem jv_at (ss : List ByteArray) (d : ByteArray) : ∀ k, 0 ≤ jv ss d k → ∃ i, i < k ∧ ss.getD i ByteArray.empty = d
  | 0, h => by simp [jv] at h
  | k + 1, h => by
    unfold jv at h
    by_cases e : ((ss.getD k ByteArray.empty).toList == d.toList) = true
    · refine ⟨k, by omega, ba_ext ?_⟩
      simpa [Lib.toList_data] using e
    · rw [if_neg e] at h
      obtain ⟨i, hi, ei⟩ := jv_at ss d k h
      exact ⟨i, by omega, ei⟩

theorem bl_inv (ss : List ByteArray) (p : ByteArray) : ∀ k,
    ((bl ss p k).1 = -1 ∧ (bl ss p k).2 = -1 ∧ ∀ i, i < k → ancB (ss.getD i ByteArray.empty) p = false) ∨
    ∃ d, ancB d p = true ∧ (bl ss p k).2 = d.size ∧ (bl ss p k).1 = jv ss d k ∧ 0 ≤ jv ss d k ∧ ∀ i, i < k → ancB (ss.getD i ByteArray.empty) p = true → (ss.getD i ByteArray.empty).size ≤ d.size
  | 0 => Or.inl ⟨rfl, rfl, fun i h => absurd h (Nat.not_lt_zero i)⟩
  | k + 1 => by
    have ih := bl_inv ss p k
    generalize hd' : ss.getD k ByteArray.empty = d'
    unfold bl
    rw [hd']
    by_cases h : ancB d' p = true ∧ (bl ss p k).2 ≤ (d'.size : Int)
    · rw [if_pos h]
      have hj : jv ss d' (k + 1) = k := by unfold jv; rw [hd', if_pos (by simp)]
      refine Or.inr ⟨d', h.1, rfl, hj.symm, by rw [hj]; omega, fun i hi ha => ?_⟩
      by_cases hik : i = k
      · rw [hik, hd']; exact Nat.le_refl _
      · rcases ih with ⟨_, _, hn⟩ | ⟨d, _, e2, _, _, hm⟩
        · have := hn i (by omega); rw [this] at ha; cases ha
        · have := hm i (by omega) ha
          have := h.2
          omega
    · rw [if_neg h]
      rcases ih with ⟨e1, e2, hn⟩ | ⟨d, ha, e2, e1, hj, hm⟩
      · have hf : ancB d' p = false := by
          cases hc : ancB d' p
          · rfl
          · exact absurd ⟨hc, by rw [e2]; omega⟩ h
        refine Or.inl ⟨e1, e2, fun i hi => ?_⟩
        by_cases hik : i = k
        · rw [hik, hd']; exact hf
        · exact hn i (by omega)
      · have hne : ¬ (d'.toList == d.toList) = true := by
          intro e
          have e' : d' = d := ba_ext (by simpa [Lib.toList_data] using e)
          exact h ⟨by rw [e']; exact ha, by rw [e2, e']; omega⟩
        have hj' : jv ss d (k + 1) = jv ss d k := by rw [jv, hd', if_neg hne]
        refine Or.inr ⟨d, ha, e2, by rw [hj']; exact e1, by rw [hj']; exact hj, fun i hi hai => ?_⟩
        by_cases hik : i = k
        · rw [hik, hd'] at hai ⊢
          by_cases hle : d'.size ≤ d.size
          · exact hle
          · exact absurd ⟨hai, by rw [e2]; omega⟩ h
        · exact hm i (by omega) hai

/-- What the call of over gives, beside what the search found. -/
structure FactsN (D : DataW Value) (p : ByteArray) (best : Int) (dir : ByteArray) (ok : Bool) (k m : Int) : Prop where
  a : Pl.above (held D) p = (dir, ok)
  t : D.atKey (keyL dir) (.held (ent 0 0)) = .held (ent k m)
  yes : 0 ≤ best → k = 3 ∧ m = best + 1
  no : ¬ 0 ≤ best → k = 0 ∧ m = 0
  ok : ok = (decide (0 < p.size) && decide (0 ≤ best))

theorem factsN_empty (ss : List ByteArray) (len : Nat) (p : ByteArray) (hp : p.size = 0) : ∃ dir ok k m, FactsN (Tr ss len) p (jv ss ⟨#[]⟩ len) dir ok k m := by
  refine ⟨⟨#[]⟩, false, _, _, Pl.above_empty _ _ hp, tr_at ss ⟨#[]⟩ len, fun h => ?_, fun h => ?_, by simp [hp]⟩
  · rw [if_pos h, if_pos h]; exact ⟨rfl, rfl⟩
  · rw [if_neg h, if_neg h]; exact ⟨rfl, rfl⟩

theorem factsN_some (ss : List ByteArray) (len : Nat) (p : ByteArray) (hp : 0 < p.size) : ∃ dir ok k m, FactsN (Tr ss len) p (bl ss p len).1 dir ok k m := by
  have hh : ∀ d, held (Tr ss len) d = decide (0 ≤ jv ss d len) := fun d => tr_has ss d len
  rcases bl_inv ss p len with ⟨e1, _, hn⟩ | ⟨d, ha, _, e1, hj, hm⟩
  · rcases above_spec (held (Tr ss len)) p.size p (Nat.le_refl _) with ⟨_, a2, a3, _⟩ | ⟨a1, a2, a3⟩
    · rw [hh] at a2
      obtain ⟨i, hi, ei⟩ := jv_at ss _ len (by simpa using a2)
      have := hn i hi
      rw [ei, (anc_iff _ _).2 a3] at this
      cases this
    · have hnone : ¬ 0 ≤ jv ss ⟨#[]⟩ len := by
        have := a3 ⟨#[]⟩ ⟨hp, Or.inl rfl⟩
        rw [hh] at this
        simpa using this
      have ta := tr_at ss ⟨#[]⟩ len
      rw [if_neg hnone, if_neg hnone] at ta
      exact ⟨⟨#[]⟩, false, 0, 0, Prod.ext a2 a1, ta, fun h => absurd h (by omega), fun _ => ⟨rfl, rfl⟩, by simp [e1]⟩
  · have hA := (anc_iff _ _).1 ha
    rcases above_spec (held (Tr ss len)) p.size p (Nat.le_refl _) with ⟨a1, a2, a3, a4⟩ | ⟨_, _, a3⟩
    · rw [hh] at a2
      obtain ⟨i, hi, ei⟩ := jv_at ss _ len (by simpa using a2)
      have l1 := hm i hi (by rw [ei]; exact (anc_iff _ _).2 a3)
      rw [ei] at l1
      have l2 := a4 d (by rw [hh]; simpa using hj) hA
      have ed : (Pl.above (held (Tr ss len)) p).1 = d := anc_same _ _ p a3 hA (by omega)
      have ta := tr_at ss d len
      rw [if_pos hj, if_pos hj] at ta
      exact ⟨d, true, 3, jv ss d len + 1, Prod.ext ed a1, ta, fun _ => ⟨rfl, by rw [e1]⟩, fun h => absurd hj (by rw [← e1]; exact h), by rw [e1]; simp [hp, hj]⟩
    · have := a3 d hA
      rw [hh] at this
      simp at this
      omega

end Go.Proofs.Qxb6612745a
