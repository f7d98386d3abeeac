/-
  THE WALK of FnOverOfAChildIsTheParentOrWhatTheParentInherits.
-/
import Derived.Test.Qxb6612745aHeld
set_option linter.unusedVariables false
set_option linter.unusedSimpArgs false
namespace Go.Proofs.Qxb6612745a
open Go.RowKit Go.Maps

theorem name_step {name : ByteArray} {k : Nat} (h : ∀ i, i < k → (Pl.at' name i).toNat ≠ 47) (hk : k < name.size) (e : ((name[k].toNat : Int) == 47) = false) : ∀ i, i < k + 1 → (Pl.at' name i).toNat ≠ 47 := by
  intro i hi
  by_cases h' : i < k
  · exact h i h'
  · have : i = k := by omega
    subst this
    rw [at_get] at e
    simp at e
    omega

/-- What the two calls of over give. -/
structure Facts (D : DataW Value) (J : Int) (p q : ByteArray) (dir1 dir0 : ByteArray) (ok1 ok0 : Bool) (k1 m1 k0 m0 : Int) : Prop where
  a1 : Pl.above (held D) q = (dir1, ok1)
  t1 : D.atKey (keyL dir1) (.held (ent 0 0)) = .held (ent k1 m1)
  a0 : Pl.above (held D) p = (dir0, ok0)
  t0 : D.atKey (keyL dir0) (.held (ent 0 0)) = .held (ent k0 m0)
  yes : 0 ≤ J → ok1 = true ∧ k1 = 3 ∧ m1 = J + 1
  no : ¬ 0 ≤ J → ok1 = ok0 ∧ k1 = k0 ∧ m1 = m0

theorem facts_mk (ss : List ByteArray) (len : Nat) (p name : ByteArray) (h : ∀ i, i < name.size → (Pl.at' name i).toNat ≠ 47) :
    ∃ dir1 dir0 ok1 ok0 k1 m1 k0 m0, Facts (Tr ss len) (jv ss p len) p (child p name) dir1 dir0 ok1 ok0 k1 m1 k0 m0 := by
  have hc := child_held (held (Tr ss len)) p name h
  have hh : held (Tr ss len) p = decide (0 ≤ jv ss p len) := tr_has ss p len
  obtain ⟨k0, m0, t0⟩ := tr_flat ss len (keyL (Pl.above (held (Tr ss len)) p).1)
  by_cases hj : 0 ≤ jv ss p len
  · rw [hh, if_pos (by simpa using hj)] at hc
    have ta := tr_at ss p len
    rw [if_pos hj, if_pos hj] at ta
    exact ⟨p, _, true, _, 3, jv ss p len + 1, k0, m0, hc, ta, rfl, t0, fun _ => ⟨rfl, rfl, rfl⟩, fun h => absurd hj h⟩
  · rw [hh, if_neg (by simpa using hj)] at hc
    exact ⟨_, _, _, _, k0, m0, k0, m0, hc, t0, rfl, t0, fun h => absurd h hj, fun _ => ⟨rfl, rfl, rfl⟩⟩

set_option maxHeartbeats 2000000 in
theorem child_any (b off len cap : Nat) (ss : List ByteArray) (p name : ByteArray) (w : World) (hP : Paths w b off len ss) (hp : p.size ≤ maxLen) (hn : name.size ≤ maxLen) :
    Calls Try.prog 10 #[.slice (some ⟨b, off, none⟩) len cap, .string p, .string name] w fun e w' => e = .returned (.bool true) ∧ Below w.heap.size w w' := by
  have hr := hP.reach
  have hl := hP.le
  have gp := hp
  have gn := hn
  unfold maxLen at hp hn
  go_enter Try.func10, Try.ntmps10
  go_wp2_with (first
    | (go_at_call 34; refine (bytesC_any b off len cap ss p name _ hP gp gn).mono ?_; rintro e w' ⟨⟨x, rfl⟩, rfl⟩; cases x)
    | (go_at_call 29; refine (add_any _ b off len cap ss _ hP).mono ?_; rintro e w' ⟨tot, rfl, rfl⟩))
  all_goals try (go_ret; exact ⟨rfl, Below.refl _ _⟩)
  have hlen : len ≤ 4096 := by omega
  have hps : p.size ≤ 1048576 := by omega
  have hns : name.size ≤ 1048576 := by omega
  go_loop [7] (fun i => ∃ k : Nat, k ≤ name.size ∧ i = .int .i64 k ∧ ∀ i, i < k → (Pl.at' name i).toNat ≠ 47) (fun i => name.size - (intOf i).toNat)
  case atStart => exact ⟨0, Nat.zero_le _, rfl, fun i h => absurd h (Nat.not_lt_zero i)⟩
  case round =>
    obtain ⟨k, hk, rfl, hno⟩ := hrel
    have HN : Hid (∀ i, i < k → (Pl.at' name i).toNat ≠ 47) := hno
    clear hno
    by_cases hlt : k < name.size
    · go_wp2
      · go_ret
        exact ⟨rfl, Below.refl _ _⟩
      · go_round
        case rel => exact ⟨k + 1, by omega, by go_num, name_step HN.out hlt ‹_›⟩
        case measure => simp [intOf]; omega
    · have hke : k = name.size := by omega
      obtain ⟨dir1, dir0, ok1, ok0, k1, m1, k0, m0, F⟩ := facts_mk ss len p name (by rw [← hke]; exact HN.out)
      clear HN hke
      go_wp2_with fail
      refine (dir_any b off len cap ss _ hP).mono ?_
      rintro e w1 ⟨rfl, hown1, hb1⟩
      go_wp2_with fail
      have hqs : (child p name).size ≤ maxLen := by rw [child_size]; unfold maxLen; omega
      refine (zover_any (child p name) w.heap.size len (Tr ss len) _ hown1 (tr_flat ss len) hqs dir1 ok1 k1 m1 F.a1 F.t1).mono ?_
      rintro e w2 ⟨rfl, hb2⟩
      have hown2 := (owns_below hown1 hb2 hown1.lt).alloc (.cells (entC k1 m1) 34)
      go_wp2_with (refine st_ent _ rfl _ _ rfl w2.heap.size rfl k1 m1 rfl _ (heap_alloc_last w2 _) rfl ?_; rw [World.setRow_alloc_new])
      refine (zover_any p w.heap.size len (Tr ss len) _ hown2 (tr_flat ss len) gp dir0 ok0 k0 m0 F.a0 F.t0).mono ?_
      rintro e w3 ⟨rfl, hb3⟩
      go_wp2_with (refine st_ent _ rfl _ _ rfl w3.heap.size rfl k0 m0 rfl _ (heap_alloc_last w3 _) rfl ?_; rw [World.setRow_alloc_new])
      have hs12 := Nat.le_trans hb1.size hb2.size
      have hs3 : w2.heap.size < w3.heap.size := by have := hb3.size; simp at this; omega
      have hBel : Below w.heap.size w (w3.alloc (.cells (entC k0 m0) 34)) :=
        (((((hb1.trans (hb2.mono hb1.size)).alloc hs12 _).trans (hb3.mono (by simp; omega)))).alloc (by omega) _)
      have hh1 : (w3.alloc (.cells (entC k0 m0) 34)).heap[w2.heap.size]? = some (.cells (entC k1 m1) 34) := by
        rw [heap_alloc_old _ _ hs3]
        exact (hb3.block w2.heap.size (by simp)).trans (heap_alloc_last w2 _)
      have hh0 := heap_alloc_last w3 (.cells (entC k0 m0) 34)
      have hP4 := hP.below hBel hP.blk
      have FY := F.yes
      have FN := F.no
      clear F hown2 hown1 hP hb3 hb2 hb1 hs12 hs3
      generalize w3.alloc (.cells (entC k0 m0) 34) = W4 at hBel hh1 hh0 hP4
      generalize w2.heap.size = g1 at hh1
      generalize w3.heap.size = g0 at hh0
      have hjr := jv_range ss p len
      have H1 : Hid (W4.heap[g1]? = some (.cells (entC k1 m1) 34)) := hh1
      have H0 : Hid (W4.heap[g0]? = some (.cells (entC k0 m0) 34)) := hh0
      clear hh1 hh0
      by_cases hJ : 0 ≤ jv ss p len
      · obtain ⟨rfl, rfl, rfl⟩ := FY hJ
        clear FY FN
        go_loop [14, 15] (fun j i => ∃ k : Nat, k ≤ len ∧ i = .int .i64 k ∧ j = .int .i64 (jv ss p k)) (fun _ i => len - (intOf i).toNat)
        case atStart => exact ⟨0, Nat.zero_le _, rfl, rfl⟩
        case round =>
          obtain ⟨k2, hk2, rfl, rfl⟩ := hrel
          obtain ⟨s, hs⟩ : ∃ s, s = ss.getD k2 ByteArray.empty := ⟨_, rfl⟩
          have hcx : k2 < len → W4.cell? ⟨b, off + k2, none⟩ = some (.string s) := fun _ => by rw [hs]; exact hP4.cell k2 (by omega)
          have HJ : Hid (jv ss p (k2 + 1) = if (s.toList == p.toList) = true then (k2 : Int) else jv ss p k2) := by rw [hs]; exact rfl
          clear hs hP4
          by_cases hlt2 : k2 < len
          · go_wp2
            · go_round
              case rel => exact ⟨k2 + 1, by omega, by go_num, by rw [HJ.out, if_pos ‹_›]⟩
              case measure => simp [intOf]; omega
            · go_round
              case rel => exact ⟨k2 + 1, by omega, by go_num, by rw [HJ.out, if_neg (by rw [‹(s.toList == p.toList) = false›]; simp)]⟩
              case measure => simp [intOf]; omega
          · have hke : k2 = len := by omega
            subst hke
            clear HJ hcx
            generalize jv ss p k2 = J at hJ hjr H1
            obtain ⟨c0, c6, c7, c8, c9⟩ := ent_cells H1.out
            go_wp2_with (first
              | (go_at_call 33; refine (bare_any 3 (J + 1) _).mono ?_; rintro e w5 ⟨rfl, hb5⟩)
              | (refine ld_ent _ rfl _ rfl g1 rfl 3 (J + 1) H1.out ?_))
            go_ret
            exact ⟨rfl, hBel.trans (hb5.mono hBel.size)⟩
      · obtain ⟨rfl, rfl, rfl⟩ := FN hJ
        clear FY FN
        go_loop [14, 15] (fun j i => ∃ k : Nat, k ≤ len ∧ i = .int .i64 k ∧ j = .int .i64 (jv ss p k)) (fun _ i => len - (intOf i).toNat)
        case atStart => exact ⟨0, Nat.zero_le _, rfl, rfl⟩
        case round =>
          obtain ⟨k2, hk2, rfl, rfl⟩ := hrel
          obtain ⟨s, hs⟩ : ∃ s, s = ss.getD k2 ByteArray.empty := ⟨_, rfl⟩
          have hcx : k2 < len → W4.cell? ⟨b, off + k2, none⟩ = some (.string s) := fun _ => by rw [hs]; exact hP4.cell k2 (by omega)
          have HJ : Hid (jv ss p (k2 + 1) = if (s.toList == p.toList) = true then (k2 : Int) else jv ss p k2) := by rw [hs]; exact rfl
          clear hs hP4
          by_cases hlt2 : k2 < len
          · go_wp2
            · go_round
              case rel => exact ⟨k2 + 1, by omega, by go_num, by rw [HJ.out, if_pos ‹_›]⟩
              case measure => simp [intOf]; omega
            · go_round
              case rel => exact ⟨k2 + 1, by omega, by go_num, by rw [HJ.out, if_neg (by rw [‹(s.toList == p.toList) = false›]; simp)]⟩
              case measure => simp [intOf]; omega
          · have hke : k2 = len := by omega
            subst hke
            clear HJ hcx
            generalize jv ss p k2 = J at hJ hjr
            obtain ⟨c0, c6, c7, c8, c9⟩ := ent_cells H1.out
            obtain ⟨d0, d6, d7, d8, d9⟩ := ent_cells H0.out
            have hg0 : g0 < W4.heap.size := (Array.getElem?_eq_some_iff.1 H0.out).1
            go_wp2_with (refine ld_ent _ rfl _ rfl g1 rfl k1 m1 H1.out ?_)
            refine (bare_any k1 m1 _).mono ?_
            rintro e w5 ⟨rfl, hb5⟩
            have H05 := (hb5.block g0 hg0).trans H0.out
            go_wp2_with (refine ld_ent _ rfl _ rfl g0 rfl k1 m1 H05 ?_)
            refine (bare_any k1 m1 _).mono ?_
            rintro e w6 ⟨rfl, hb6⟩
            go_wp2
            go_ret
            exact ⟨rfl, (hBel.trans (hb5.mono hBel.size)).trans (hb6.mono (Nat.le_trans hBel.size hb5.size))⟩

end Go.Proofs.Qxb6612745a
