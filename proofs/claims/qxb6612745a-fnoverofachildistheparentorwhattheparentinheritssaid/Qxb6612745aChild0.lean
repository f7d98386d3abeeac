/-
  THE WALK of FnOverOfAChildIsTheParentOrWhatTheParentInherits, of a list of no paths.
-/
import Derived.Test.Qxb6612745aChild
set_option linter.unusedVariables false
set_option linter.unusedSimpArgs false
namespace Go.Proofs.Qxb6612745a
open Go.RowKit Go.Maps

set_option maxHeartbeats 2000000 in
theorem child_none (a : Option Addr) (cap : Nat) (p name : ByteArray) (w : World) (hp : p.size ≤ maxLen) (hn : name.size ≤ maxLen) :
    Calls Try.prog 10 #[.slice a 0 cap, .string p, .string name] w fun e w' => e = .returned (.bool true) ∧ Below w.heap.size w w' := by
  have gp := hp
  have gn := hn
  unfold maxLen at hp hn
  go_enter Try.func10, Try.ntmps10
  go_wp2_with (first
    | (go_at_call 34; refine (bytesC_none a cap p name _ gp gn).mono ?_; rintro e w' ⟨⟨x, rfl⟩, rfl⟩; cases x)
    | (go_at_call 29; refine (add_none _ a cap _).mono ?_; rintro e w' ⟨tot, rfl, rfl⟩))
  all_goals try (go_ret; exact ⟨rfl, Below.refl _ _⟩)
  have hps : p.size ≤ 1048576 := by omega
  have hns : name.size ≤ 1048576 := by omega
  go_loop [7] (fun i => ∃ k : Nat, k ≤ name.size ∧ i = .int .i64 k ∧ ∀ i, i < k → (Pl.at' name i).toNat ≠ 47) (fun i => name.size - (intOf i).toNat)
  case atStart => exact ⟨0, Nat.zero_le _, rfl, fun i h => absurd h (Nat.not_lt_zero i)⟩
  case round =>
    obtain ⟨k, hk, rfl, hno⟩ := hrel
    have HN : Hid (∀ i, i < k → (Pl.at' name i).toNat ≠ 47) := hno
    clear hno
    by_cases hlt : k < name.size
    · go_wp2
      · go_ret
        exact ⟨rfl, Below.refl _ _⟩
      · go_round
        case rel => exact ⟨k + 1, by omega, by go_num, name_step HN.out hlt ‹_›⟩
        case measure => simp [intOf]; omega
    · have hke : k = name.size := by omega
      obtain ⟨dir1, dir0, ok1, ok0, k1, m1, k0, m0, F⟩ := facts_mk [] 0 p name (by rw [← hke]; exact HN.out)
      clear HN hke
      go_wp2_with fail
      refine (dir_none a cap [] _).mono ?_
      rintro e w1 ⟨rfl, hown1, hb1⟩
      go_wp2_with fail
      have hqs : (child p name).size ≤ maxLen := by rw [child_size]; unfold maxLen; omega
      refine (zover_any (child p name) w.heap.size 0 (Tr [] 0) _ hown1 (tr_flat [] 0) hqs dir1 ok1 k1 m1 F.a1 F.t1).mono ?_
      rintro e w2 ⟨rfl, hb2⟩
      have hown2 := (owns_below hown1 hb2 hown1.lt).alloc (.cells (entC k1 m1) 34)
      go_wp2_with (refine st_ent _ rfl _ _ rfl w2.heap.size rfl k1 m1 rfl _ (heap_alloc_last w2 _) rfl ?_; rw [World.setRow_alloc_new])
      refine (zover_any p w.heap.size 0 (Tr [] 0) _ hown2 (tr_flat [] 0) gp dir0 ok0 k0 m0 F.a0 F.t0).mono ?_
      rintro e w3 ⟨rfl, hb3⟩
      go_wp2_with (refine st_ent _ rfl _ _ rfl w3.heap.size rfl k0 m0 rfl _ (heap_alloc_last w3 _) rfl ?_; rw [World.setRow_alloc_new])
      have hs12 := Nat.le_trans hb1.size hb2.size
      have hs3 : w2.heap.size < w3.heap.size := by have := hb3.size; simp at this; omega
      have hBel : Below w.heap.size w (w3.alloc (.cells (entC k0 m0) 34)) :=
        (((((hb1.trans (hb2.mono hb1.size)).alloc hs12 _).trans (hb3.mono (by simp; omega)))).alloc (by omega) _)
      have hh1 : (w3.alloc (.cells (entC k0 m0) 34)).heap[w2.heap.size]? = some (.cells (entC k1 m1) 34) := by
        rw [heap_alloc_old _ _ hs3]
        exact (hb3.block w2.heap.size (by simp)).trans (heap_alloc_last w2 _)
      have hh0 := heap_alloc_last w3 (.cells (entC k0 m0) 34)
      have FN := F.no
      clear F hown2 hown1 hb3 hb2 hb1 hs12 hs3
      generalize w3.alloc (.cells (entC k0 m0) 34) = W4 at hBel hh1 hh0
      generalize w2.heap.size = g1 at hh1
      generalize w3.heap.size = g0 at hh0
      have H1 : Hid (W4.heap[g1]? = some (.cells (entC k1 m1) 34)) := hh1
      have H0 : Hid (W4.heap[g0]? = some (.cells (entC k0 m0) 34)) := hh0
      clear hh1 hh0
      obtain ⟨rfl, rfl, rfl⟩ := FN (by simp [jv])
      clear FN
      refine wp_loop_rounds 1 ?_
      rw [rounds_succ]
      obtain ⟨c0, c6, c7, c8, c9⟩ := ent_cells H1.out
      obtain ⟨d0, d6, d7, d8, d9⟩ := ent_cells H0.out
      have hg0 : g0 < W4.heap.size := (Array.getElem?_eq_some_iff.1 H0.out).1
      go_wp2_with (refine ld_ent _ rfl _ rfl g1 rfl k1 m1 H1.out ?_)
      refine (bare_any k1 m1 _).mono ?_
      rintro e w5 ⟨rfl, hb5⟩
      have H05 := (hb5.block g0 hg0).trans H0.out
      go_wp2_with (refine ld_ent _ rfl _ rfl g0 rfl k1 m1 H05 ?_)
      refine (bare_any k1 m1 _).mono ?_
      rintro e w6 ⟨rfl, hb6⟩
      go_wp2
      go_ret
      exact ⟨rfl, (hBel.trans (hb5.mono hBel.size)).trans (hb6.mono (Nat.le_trans hBel.size hb5.size))⟩

end Go.Proofs.Qxb6612745a
