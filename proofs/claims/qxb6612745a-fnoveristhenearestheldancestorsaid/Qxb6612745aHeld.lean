/-
  THE PLAIN LAW of the seat's first statement: what the tree holds, and the path of a child.
-/
import Derived.Test.Qxb6612745aTree
set_option linter.unusedVariables false
set_option linter.unusedSimpArgs false
namespace Go.Proofs.Qxb6612745a
open Go.Maps

/-- The last of the first k paths that is s: its position; -1: none. -/
def jv (ss : List ByteArray) (s : ByteArray) : Nat → Int
  | 0 => -1
  | k + 1 => if ((ss.getD k ByteArray.empty).toList == s.toList) = true then (k : Int) else jv ss s k

theorem jv_range (ss : List ByteArray) (s : ByteArray) : ∀ k, -1 ≤ jv ss s k ∧ jv ss s k < k
  | 0 => by simp [jv]
  | k + 1 => by
    have := jv_range ss s k
    unfold jv
    split <;> omega

theorem isMap_Tr (ss : List ByteArray) : ∀ k, IsMap (Tr ss k)
  | 0 => isMap_empty
  | k + 1 => (isMap_Tr ss k).put _ _

theorem keyL_key (s : ByteArray) : WideAt.IsKeyLit (keyL s) := by simp [keyL, WideAt.IsKeyLit]

theorem keyL_ne {s t : ByteArray} (h : ¬ (s.toList == t.toList) = true) : keyL t ≠ keyL s := by
  intro e
  apply h
  simp only [keyL, Lit.string.injEq] at e
  simp only [beq_iff_eq, Lib.toList_data]
  exact e.symm

theorem keyL_eq {s t : ByteArray} (h : (s.toList == t.toList) = true) : keyL s = keyL t := by
  simp only [beq_iff_eq, Lib.toList_data] at h
  simp only [keyL, h]

theorem tr_has (ss : List ByteArray) (s : ByteArray) : ∀ k, Maps.has (Tr ss k) (keyL s) = decide (0 ≤ jv ss s k)
  | 0 => by simp [Tr, jv, Maps.has]
  | k + 1 => by
    have ih := tr_has ss s k
    unfold Tr jv
    by_cases h : ((ss.getD k ByteArray.empty).toList == s.toList) = true
    · rw [if_pos h, keyL_eq h, has_put_same (isMap_Tr ss k) (keyL_key s)]
      simp
    · rw [if_neg h, has_put_other (keyL_ne h), ih]

theorem tr_at (ss : List ByteArray) (s : ByteArray) : ∀ k, (Tr ss k).atKey (keyL s) (.held (ent 0 0)) = .held (ent (if 0 ≤ jv ss s k then 3 else 0) (if 0 ≤ jv ss s k then jv ss s k + 1 else 0))
  | 0 => by simp [Tr, jv, DataW.atKey]
  | k + 1 => by
    have ih := tr_at ss s k
    unfold Tr jv
    by_cases h : ((ss.getD k ByteArray.empty).toList == s.toList) = true
    · rw [if_pos h, keyL_eq h, atKey_put_same (isMap_Tr ss k) (keyL_key s), if_pos (by omega), if_pos (by omega)]
    · rw [if_neg h, atKey_put_other (keyL_ne h), ih]

theorem tr_flat (ss : List ByteArray) : ∀ k, Flat (Tr ss k)
  | 0 => fun kl => ⟨0, 0, rfl⟩
  | k + 1 => fun kl => by
    unfold Tr
    by_cases h : kl = keyL (ss.getD k ByteArray.empty)
    · rw [h, atKey_put_same (isMap_Tr ss k) (keyL_key _)]; exact ⟨_, _, rfl⟩
    · rw [atKey_put_other h]; exact tr_flat ss k kl

/-! ### a child's path -/
def slash : ByteArray := ⟨#[47]⟩
def child (p name : ByteArray) : ByteArray := p ++ slash ++ name

theorem child_list (p name : ByteArray) : (child p name).data.toList = p.data.toList ++ 47 :: name.data.toList := by
  unfold child slash
  rw [ByteArray.data_append, ByteArray.data_append, Array.toList_append, Array.toList_append]
  simp

theorem len_data (b : ByteArray) : b.data.toList.length = b.size := Array.length_toList

theorem child_size (p name : ByteArray) : (child p name).size = p.size + 1 + name.size := by
  rw [← len_data, child_list, List.length_append, List.length_cons, len_data, len_data]; omega

theorem at_child_slash (p name : ByteArray) : Pl.at' (child p name) p.size = 47 := by
  unfold Pl.at'
  rw [child_list, List.getD_eq_getElem?_getD, List.getElem?_append_right (by rw [len_data]; omega), len_data]
  simp

theorem at_child_name (p name : ByteArray) (i : Nat) : Pl.at' (child p name) (p.size + 1 + i) = Pl.at' name i := by
  unfold Pl.at'
  rw [child_list, List.getD_eq_getElem?_getD, List.getD_eq_getElem?_getD, List.getElem?_append_right (by rw [len_data]; omega), len_data, show p.size + 1 + i - p.size = i + 1 by omega]
  simp

theorem lix_child (p name : ByteArray) (h : ∀ i, i < name.size → (Pl.at' name i).toNat ≠ 47) : ∀ i, i ≤ name.size → Pl.lix (child p name) (p.size + 1 + i) = p.size
  | 0, _ => by
    show Pl.lix (child p name) (p.size + 1) = p.size
    rw [Pl.lix, if_pos (by rw [at_child_slash]; rfl)]
  | i + 1, hi => by
    show Pl.lix (child p name) (p.size + 1 + i + 1) = p.size
    rw [Pl.lix, if_neg (by rw [at_child_name]; exact h i (by omega))]
    exact lix_child p name h i (by omega)

theorem ba_ext {a b : ByteArray} (h : a.data.toList = b.data.toList) : a = b := by
  cases a; cases b
  simp only [Array.toList_inj] at h
  rw [h]

theorem par_child (p name : ByteArray) (h : ∀ i, i < name.size → (Pl.at' name i).toNat ≠ 47) : Pl.par (child p name) = p := by
  have e : Pl.lix (child p name) (child p name).size = p.size := by rw [child_size]; exact lix_child p name h name.size (Nat.le_refl _)
  unfold Pl.par
  rw [e, if_pos (by omega)]
  apply ba_ext
  have := Lib.extract_toList (child p name) 0 p.size
  rw [Lib.toList_data, child_list] at this
  rw [Int.toNat_natCast, this]
  simp [len_data]

/-- THE PLAIN LAW. -/
theorem child_held (hd : ByteArray → Bool) (p name : ByteArray) (h : ∀ i, i < name.size → (Pl.at' name i).toNat ≠ 47) :
    Pl.above hd (child p name) = if hd p then (p, true) else Pl.above hd p := by
  rw [Pl.above_step _ _ (by rw [child_size]; omega), par_child p name h]

end Go.Proofs.Qxb6612745a
