/-
  THE WALKS of the small functions: strings.LastIndexByte at a slash, Parent, zzProperAncestor, zzAddStrings, the bounds.
-/
import Derived.Test.Qxb6612745aRows
import Derived.Test.Qxb6612745aPlain
import Derived.WalkKit
import Derived.WalkSpells
import Derived.WalkLawsBesides
set_option linter.unusedVariables false
set_option linter.unusedSimpArgs false
namespace Go.Proofs.Qxb6612745a
open Go.RowKit

theorem ret_int {k : IntKind} {a b : Int} (h : a = b) : Ending.returned (.int k a) = .returned (.int k b) := by rw [h]

theorem at_get (s : ByteArray) (k : Nat) (h : k < s.size) : s[k] = Pl.at' s k := by
  have h' : k < s.data.toList.length := by rw [Array.length_toList]; exact h
  unfold Pl.at'
  rw [List.getD_eq_getElem?_getD, List.getElem?_eq_getElem h']
  rfl

theorem lix_hit (s : ByteArray) (k : Nat) (h : k < s.size) (e : ((s[k].toNat : Int) == 47) = true) : Pl.lix s (k + 1) = k := by
  rw [at_get] at e
  simp at e
  unfold Pl.lix
  rw [if_pos (by omega)]

theorem lix_miss (s : ByteArray) (k : Nat) (h : k < s.size) (e : ((s[k].toNat : Int) == 47) = false) : Pl.lix s (k + 1) = Pl.lix s k := by
  rw [at_get] at e
  simp at e
  rw [Pl.lix, if_neg (by omega)]

set_option maxHeartbeats 400000 in
theorem lib_any (s : ByteArray) (w : World) (hs : s.size ≤ maxLen) :
    Calls Try.prog 63 #[.string s, .int .u8 47] w fun e w' => e = .returned (.int .i64 (Pl.lix s s.size)) ∧ w = w' := by
  unfold maxLen at hs
  go_enter Try.func63, Try.ntmps63
  go_wp2
  go_loop [5] (fun i => ∃ k : Nat, k ≤ s.size ∧ i = .int .i64 ((k : Int) - 1) ∧ Pl.lix s s.size = Pl.lix s k) (fun i => (intOf i + 1).toNat)
  case atStart => exact ⟨s.size, Nat.le_refl _, rfl, rfl⟩
  case round =>
    obtain ⟨k, hk, rfl, hl⟩ := hrel
    have HL : Hid (Pl.lix s s.size = Pl.lix s k) := hl
    clear hl
    cases k with
    | zero =>
      go_wp2
      go_ret
      exact ⟨ret_int (HL.out.trans rfl).symm, rfl⟩
    | succ k =>
      go_wp2
      · go_ret
        exact ⟨ret_int ((HL.out.trans (lix_hit s k ‹_› ‹_›)).symm), rfl⟩
      · go_round
        case rel => exact ⟨k, by omega, rfl, HL.out.trans (lix_miss s k ‹_› ‹_›)⟩
        case measure => simp [intOf]

theorem ret_str {a b : ByteArray} (h : a = b) : Ending.returned (.string a) = .returned (.string b) := by rw [h]
theorem ret_bool {a b : Bool} (h : a = b) : Ending.returned (.bool a) = .returned (.bool b) := by rw [h]

set_option maxHeartbeats 400000 in
theorem last_any (s : ByteArray) (w : World) (hs : s.size ≤ maxLen) :
    Calls Try.prog 58 #[.string s, .int .u8 47] w fun e w' => e = .returned (.int .i64 (Pl.lix s s.size)) ∧ w = w' := by
  go_enter Try.func58, Try.ntmps58
  go_wp2_with (first | (go_at_call 63; refine (lib_any _ _ hs).mono ?_; rintro e w' ⟨rfl, rfl⟩))
  go_ret
  exact ⟨rfl, rfl⟩

set_option maxHeartbeats 400000 in
theorem parent_any (s : ByteArray) (w : World) (hs : s.size ≤ maxLen) :
    Calls Try.prog 52 #[.string s] w fun e w' => e = .returned (.string (Pl.par s)) ∧ w = w' := by
  have hr := Pl.lix_range s s.size
  have hp : ∀ n : Int, Pl.lix s s.size = n → Pl.par s = if 0 ≤ n then s.extract 0 n.toNat else ⟨#[]⟩ := fun n e => by unfold Pl.par; rw [e]
  generalize hn : Pl.lix s s.size = n at hr hp
  have hp' := hp n rfl
  have lb : ∀ w1, Calls Try.prog 58 #[.string s, .int .u8 47] w1 fun e w' => e = .returned (.int .i64 n) ∧ w1 = w' := by
    intro w1; have := last_any s w1 hs; rw [hn] at this; exact this
  have LB : Hid (∀ w1, Calls Try.prog 58 #[.string s, .int .u8 47] w1 fun e w' => e = .returned (.int .i64 n) ∧ w1 = w') := lb
  clear hp hn lb
  unfold maxLen at hs
  by_cases h0 : 0 ≤ n
  · rw [if_pos h0] at hp'
    have HP : Hid (Pl.par s = s.extract 0 n.toNat) := hp'
    clear hp'
    go_enter Try.func52, Try.ntmps52
    go_wp2_with (first | (go_at_call 58; refine (LB.out _).mono ?_; rintro e w' ⟨rfl, rfl⟩))
    go_ret
    exact ⟨ret_str HP.out.symm, rfl⟩
  · rw [if_neg h0] at hp'
    have HP : Hid (Pl.par s = ⟨#[]⟩) := hp'
    clear hp'
    go_enter Try.func52, Try.ntmps52
    go_wp2_with (first | (go_at_call 58; refine (LB.out _).mono ?_; rintro e w' ⟨rfl, rfl⟩))
    go_ret
    exact ⟨ret_str HP.out.symm, rfl⟩

/-- zzProperAncestor. -/
def ancB (d p : ByteArray) : Bool :=
  !p.toList.isEmpty && (d.toList.isEmpty || (decide (d.size < p.size) && (decide ((Pl.at' p d.size).toNat = 47) && ((p.extract 0 d.size).toList == d.toList))))

theorem anc_end1 (d p : ByteArray) (h : p.toList.isEmpty = true) : ancB d p = false := by simp [ancB, h]
theorem anc_end2 (d p : ByteArray) (h : p.toList.isEmpty = false) (h2 : d.toList.isEmpty = true) : ancB d p = true := by simp [ancB, h, h2]

theorem anc_end3 (d p : ByteArray) (h : p.toList.isEmpty = false) (h2 : d.toList.isEmpty = false) (hl : d.size < p.size) (h3 : p.size ≤ d.size ∨ ((p[d.size].toNat : Int) != 47) = true) : ancB d p = false := by
  rcases h3 with h3 | h3
  · omega
  · rw [at_get] at h3
    simp at h3
    have : ¬ (Pl.at' p d.size).toNat = 47 := by omega
    simp [ancB, h, h2, hl, this]
theorem anc_end4 (d p : ByteArray) (h : p.toList.isEmpty = false) (h2 : d.toList.isEmpty = false) (hl : d.size < p.size) (h3 : ¬ p.size ≤ d.size ∧ ((p[d.size].toNat : Int) != 47) = false) : ancB d p = ((p.extract 0 d.size).toList == d.toList) := by
  obtain ⟨_, h3⟩ := h3
  rw [at_get] at h3
  simp at h3
  have : (Pl.at' p d.size).toNat = 47 := by omega
  simp [ancB, h, h2, hl, this]
theorem anc_end5 (d p : ByteArray) (h2 : d.toList.isEmpty = false) (hl : ¬ d.size < p.size) : ancB d p = false := by
  simp [ancB, h2, hl]

set_option maxHeartbeats 400000 in
theorem anc_any (d p : ByteArray) (w : World) (hd : d.size ≤ maxLen) (hp : p.size ≤ maxLen) :
    Calls Try.prog 32 #[.string d, .string p] w fun e w' => e = .returned (.bool (ancB d p)) ∧ w = w' := by
  unfold maxLen at hd hp
  go_enter Try.func32, Try.ntmps32
  go_wp2
  · go_ret
    exact ⟨ret_bool (anc_end1 d p ‹_›).symm, rfl⟩
  · go_ret
    exact ⟨ret_bool (anc_end2 d p ‹_› ‹_›).symm, rfl⟩
  · go_ret
    exact ⟨ret_bool (anc_end3 d p ‹_› ‹_› ‹_› ‹_›).symm, rfl⟩
  · go_ret
    exact ⟨ret_bool (anc_end4 d p ‹_› ‹_› ‹_› ‹_›).symm, rfl⟩
  · go_ret
    exact ⟨ret_bool (anc_end5 d p ‹_› ‹_›).symm, rfl⟩

/-! ### the list of paths -/
/-- What is known of the argument 'paths': 'ss': all its strings. -/
structure Paths (w : World) (b off len : Nat) (ss : List ByteArray) : Prop where
  le : len ≤ ss.length
  reach : len * 16 ≤ 140737488351232
  blk : b < w.heap.size
  cell : ∀ j, j < ss.length → w.cell? ⟨b, off + j, none⟩ = some (.string (ss.getD j ByteArray.empty))
  size : ∀ s ∈ ss, s.size ≤ maxLen

theorem Paths.at {w : World} {b off len : Nat} {ss : List ByteArray} (h : Paths w b off len ss) (k : Nat) : (ss.getD k ByteArray.empty).size ≤ maxLen := by
  rw [List.getD_eq_getElem?_getD]
  by_cases hk : k < ss.length
  · rw [List.getElem?_eq_getElem hk]; exact h.size _ (List.getElem_mem hk)
  · rw [List.getElem?_eq_none (by omega)]; exact Nat.zero_le _

theorem Paths.below {w w' : World} {b off len : Nat} {ss : List ByteArray} (h : Paths w b off len ss) {B : Nat} (hb : Below B w w') (hB : b < B) : Paths w' b off len ss :=
  ⟨h.le, h.reach, Nat.lt_of_lt_of_le h.blk hb.size, fun j hj => (hb.cell (p := ⟨b, off + j, none⟩) hB).trans (h.cell j hj), h.size⟩

set_option maxHeartbeats 400000 in
theorem add_none (n : Int) (a : Option Addr) (cap : Nat) (w : World) :
    Calls Try.prog 29 #[.int .i64 n, .slice a 0 cap] w fun e w' => ∃ m, e = .returned (.int .i64 m) ∧ w = w' := by
  go_enter Try.func29, Try.ntmps29
  go_wp2
  refine wp_loop_rounds 1 ?_
  rw [rounds_succ]
  go_wp2
  go_ret
  exact ⟨_, rfl, rfl⟩

set_option maxHeartbeats 400000 in
theorem add_any (n : Int) (b off len cap : Nat) (ss : List ByteArray) (w : World) (hP : Paths w b off len ss) :
    Calls Try.prog 29 #[.int .i64 n, .slice (some ⟨b, off, none⟩) len cap] w fun e w' => ∃ m, e = .returned (.int .i64 m) ∧ w = w' := by
  have hr := hP.reach
  have hl := hP.le
  go_enter Try.func29, Try.ntmps29
  go_wp2
  go_loop [0, 5] (fun t i => ∃ (k : Nat) (m : Int), k ≤ len ∧ i = .int .i64 k ∧ t = .int .i64 m) (fun _ i => len - (intOf i).toNat)
  case atStart => exact ⟨0, n, Nat.zero_le _, rfl, rfl⟩
  case round =>
    obtain ⟨k, m, hk, rfl, rfl⟩ := hrel
    obtain ⟨s, hs⟩ : ∃ s, s = ss.getD k ByteArray.empty := ⟨_, rfl⟩
    have hcx : k < len → w.cell? ⟨b, off + k, none⟩ = some (.string s) := fun _ => by rw [hs]; exact hP.cell k (by omega)
    have hsz : s.size ≤ maxLen := by rw [hs]; exact hP.at k
    unfold maxLen at hsz
    clear hs hP
    go_wp2
    · go_ret
      exact ⟨⟨_, rfl⟩, rfl⟩
    · go_round
      case rel => exact ⟨k + 1, _, by omega, by go_num, rfl⟩
      case measure => simp [intOf]; omega
    · go_ret
      exact ⟨⟨_, rfl⟩, rfl⟩

/-- The call hands back a bool, whichever. -/
def IsBool (e : Ending) : Prop := ∃ x, e = .returned (.bool x)
theorem isBool_mk (x : Bool) : IsBool (.returned (.bool x)) := ⟨x, rfl⟩

set_option maxHeartbeats 400000 in
theorem bytesN_none (a : Option Addr) (cap : Nat) (p : ByteArray) (w : World) (hp : p.size ≤ maxLen) :
    Calls Try.prog 28 #[.slice a 0 cap, .string p] w fun e w' => IsBool e ∧ w = w' := by
  unfold maxLen at hp
  go_enter Try.func28, Try.ntmps28
  go_wp2
  refine wp_loop_rounds 1 ?_
  rw [rounds_succ]
  go_wp2
  all_goals (go_ret; exact ⟨isBool_mk _, rfl⟩)

set_option maxHeartbeats 400000 in
theorem bytesN_any (b off len cap : Nat) (ss : List ByteArray) (p : ByteArray) (w : World) (hP : Paths w b off len ss) (hp : p.size ≤ maxLen) :
    Calls Try.prog 28 #[.slice (some ⟨b, off, none⟩) len cap, .string p] w fun e w' => IsBool e ∧ w = w' := by
  unfold maxLen at hp
  have hr := hP.reach
  have hl := hP.le
  go_enter Try.func28, Try.ntmps28
  go_wp2
  · go_ret
    exact ⟨isBool_mk _, rfl⟩
  go_loop [5, 6] (fun t i => ∃ (k : Nat) (m : Int), k ≤ len ∧ i = .int .i64 k ∧ t = .int .i64 m) (fun _ i => len - (intOf i).toNat)
  case atStart => exact ⟨0, _, Nat.zero_le _, rfl, rfl⟩
  case round =>
    obtain ⟨k, m, hk, rfl, rfl⟩ := hrel
    obtain ⟨s, hs⟩ : ∃ s, s = ss.getD k ByteArray.empty := ⟨_, rfl⟩
    have hcx : k < len → w.cell? ⟨b, off + k, none⟩ = some (.string s) := fun _ => by rw [hs]; exact hP.cell k (by omega)
    have hsz : s.size ≤ maxLen := by rw [hs]; exact hP.at k
    unfold maxLen at hsz
    clear hs hP
    go_wp2
    all_goals first
      | (go_round
         case rel => exact ⟨k + 1, _, by omega, by go_num, rfl⟩
         case measure => simp [intOf]; omega)
      | (go_ret; exact ⟨isBool_mk _, rfl⟩)

set_option maxHeartbeats 400000 in
theorem bytesC_none (a : Option Addr) (cap : Nat) (p q : ByteArray) (w : World) (hp : p.size ≤ maxLen) (hq : q.size ≤ maxLen) :
    Calls Try.prog 34 #[.slice a 0 cap, .string p, .string q] w fun e w' => IsBool e ∧ w = w' := by
  unfold maxLen at hp hq
  go_enter Try.func34, Try.ntmps34
  go_wp2
  refine wp_loop_rounds 1 ?_
  rw [rounds_succ]
  go_wp2
  all_goals (go_ret; exact ⟨isBool_mk _, rfl⟩)

set_option maxHeartbeats 400000 in
theorem bytesC_any (b off len cap : Nat) (ss : List ByteArray) (p q : ByteArray) (w : World) (hP : Paths w b off len ss) (hp : p.size ≤ maxLen) (hq : q.size ≤ maxLen) :
    Calls Try.prog 34 #[.slice (some ⟨b, off, none⟩) len cap, .string p, .string q] w fun e w' => IsBool e ∧ w = w' := by
  unfold maxLen at hp hq
  have hr := hP.reach
  have hl := hP.le
  go_enter Try.func34, Try.ntmps34
  go_wp2
  · go_ret
    exact ⟨isBool_mk _, rfl⟩
  go_loop [7, 8] (fun t i => ∃ (k : Nat) (m : Int), k ≤ len ∧ i = .int .i64 k ∧ t = .int .i64 m) (fun _ i => len - (intOf i).toNat)
  case atStart => exact ⟨0, _, Nat.zero_le _, rfl, rfl⟩
  case round =>
    obtain ⟨k, m, hk, rfl, rfl⟩ := hrel
    obtain ⟨s, hs⟩ : ∃ s, s = ss.getD k ByteArray.empty := ⟨_, rfl⟩
    have hcx : k < len → w.cell? ⟨b, off + k, none⟩ = some (.string s) := fun _ => by rw [hs]; exact hP.cell k (by omega)
    have hsz : s.size ≤ maxLen := by rw [hs]; exact hP.at k
    unfold maxLen at hsz
    clear hs hP
    go_wp2
    all_goals first
      | (go_round
         case rel => exact ⟨k + 1, _, by omega, by go_num, rfl⟩
         case measure => simp [intOf]; omega)
      | (go_ret; exact ⟨isBool_mk _, rfl⟩)

end Go.Proofs.Qxb6612745a
