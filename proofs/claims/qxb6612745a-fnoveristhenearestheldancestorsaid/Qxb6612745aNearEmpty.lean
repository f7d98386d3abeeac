/-
  THE WALK of FnOverIsTheNearestHeldAncestor at the empty path, and of a list of no paths.
-/
import Derived.Test.Qxb6612745aNearWalk
set_option linter.unusedVariables false
set_option linter.unusedSimpArgs false
namespace Go.Proofs.Qxb6612745a
open Go.RowKit Go.Maps

theorem jv_empty (ss : List ByteArray) (k : Nat) : jv ss ⟨#[]⟩ (k + 1) = if (ss.getD k ByteArray.empty).toList.isEmpty = true then (k : Int) else jv ss ⟨#[]⟩ k := by
  rw [jv]
  have e : ((ss.getD k ByteArray.empty).toList == (⟨#[]⟩ : ByteArray).toList) = (ss.getD k ByteArray.empty).toList.isEmpty := by
    have : (⟨#[]⟩ : ByteArray).toList = [] := by rw [Lib.toList_data]
    rw [this]
    cases (ss.getD k ByteArray.empty).toList <;> rfl
  rw [e]

set_option maxHeartbeats 2000000 in
theorem near_empty (b off len cap : Nat) (ss : List ByteArray) (p : ByteArray) (w : World) (hP : Paths w b off len ss) (hp : p.size ≤ maxLen) (hpe : p.toList.isEmpty = true) :
    Calls Try.prog 9 #[.slice (some ⟨b, off, none⟩) len cap, .string p] w fun e w' => e = .returned (.bool true) ∧ Below w.heap.size w w' := by
  have hr := hP.reach
  have hl := hP.le
  have gp := hp
  have hps : p.size = 0 := (isEmpty_size p).1 hpe
  obtain ⟨dir, ok, kd, m, F⟩ := factsN_empty ss len p hps
  unfold maxLen at hp
  go_enter Try.func9, Try.ntmps9
  go_wp2_with (first
    | (go_at_call 28; refine (bytesN_any b off len cap ss p _ hP gp).mono ?_; rintro e w' ⟨⟨x, rfl⟩, rfl⟩; cases x)
    | (go_at_call 29; refine (add_any _ b off len cap ss _ hP).mono ?_; rintro e w' ⟨tot, rfl, rfl⟩)
    | (go_at_call 30; refine (dir_any b off len cap ss _ hP).mono ?_; rintro e w1 ⟨rfl, hown1, hb1⟩))
  all_goals try (go_ret; exact ⟨rfl, Below.refl _ _⟩)
  refine (zover_any p w.heap.size len (Tr ss len) _ hown1 (tr_flat ss len) gp dir ok kd m F.a F.t).mono ?_
  rintro e w2 ⟨rfl, hb2⟩
  go_wp2_with (refine st_ent _ rfl _ _ rfl w2.heap.size rfl kd m rfl _ (heap_alloc_last w2 _) rfl ?_; rw [World.setRow_alloc_new])
  have hs12 := Nat.le_trans hb1.size hb2.size
  have hBel : Below w.heap.size w (w2.alloc (.cells (entC kd m) 34)) := (hb1.trans (hb2.mono hb1.size)).alloc hs12 _
  have hh := heap_alloc_last w2 (.cells (entC kd m) 34)
  have hP4 := hP.below hBel hP.blk
  have FF : Hid ((0 ≤ jv ss ⟨#[]⟩ len → kd = 3 ∧ m = jv ss ⟨#[]⟩ len + 1) ∧ (¬ 0 ≤ jv ss ⟨#[]⟩ len → kd = 0 ∧ m = 0) ∧ ok = (decide (0 < p.size) && decide (0 ≤ jv ss ⟨#[]⟩ len))) := ⟨F.yes, F.no, F.ok⟩
  clear F hown1 hP hb2 hb1 hs12
  generalize w2.alloc (.cells (entC kd m) 34) = W4 at hBel hh hP4
  generalize w2.heap.size = g at hh
  have H1 : Hid (W4.heap[g]? = some (.cells (entC kd m) 34)) := hh
  clear hh
  go_loop [8, 9, 10] (fun x y i => ∃ k : Nat, k ≤ len ∧ i = .int .i64 k ∧ x = .int .i64 (jv ss ⟨#[]⟩ k) ∧ y = .int .i64 (-1)) (fun _ _ i => len - (intOf i).toNat)
  case atStart => exact ⟨0, Nat.zero_le _, rfl, rfl, rfl⟩
  case round =>
    obtain ⟨k, hk, rfl, rfl, rfl⟩ := hrel
    by_cases hlt : k < len
    · obtain ⟨s, hs⟩ : ∃ s, s = ss.getD k ByteArray.empty := ⟨_, rfl⟩
      have hcx : W4.cell? ⟨b, off + k, none⟩ = some (.string s) := by rw [hs]; exact hP4.cell k (by omega)
      have HJ : Hid (jv ss ⟨#[]⟩ (k + 1) = if s.toList.isEmpty = true then (k : Int) else jv ss ⟨#[]⟩ k) := by rw [hs]; exact jv_empty ss k
      clear hs hP4
      by_cases hx : s.toList.isEmpty = true
      · have HH : Hid (jv ss ⟨#[]⟩ (k + 1) = k) := by show _ = _; rw [HJ.out, if_pos hx]
        clear HJ
        generalize jv ss ⟨#[]⟩ k = B1
        go_wp2
        go_round
        case rel => exact ⟨k + 1, by omega, by go_num, congrArg _ HH.out.symm, rfl⟩
        case measure => simp [intOf]; omega
      · have HH : Hid (jv ss ⟨#[]⟩ (k + 1) = jv ss ⟨#[]⟩ k) := by show _ = _; rw [HJ.out, if_neg hx]
        have hx' : s.toList.isEmpty = false := by simpa using hx
        clear HJ hx
        generalize jv ss ⟨#[]⟩ k = B1 at HH
        go_wp2
        go_round
        case rel => exact ⟨k + 1, by omega, by go_num, congrArg _ HH.out.symm, rfl⟩
        case measure => simp [intOf]; omega
    · have hke : k = len := by omega
      subst hke
      have hjr := jv_range ss ⟨#[]⟩ k
      obtain ⟨FY, FN, FO⟩ := FF.out
      clear FF
      generalize jv ss ⟨#[]⟩ k = J at FY FN FO hjr
      clear hP4
      by_cases hJ : 0 ≤ J
      · obtain ⟨rfl, rfl⟩ := FY hJ
        have e : ok = false := by rw [FO]; simp [hps]
        subst e
        clear FY FN FO
        obtain ⟨c0, c6, c7, c8, c9⟩ := ent_cells H1.out
        go_wp2_with (first
          | (go_at_call 33; refine (bare_any 3 (J + 1) _).mono ?_; rintro e w5 ⟨rfl, hb5⟩)
          | (refine ld_ent _ rfl _ rfl g rfl 3 (J + 1) H1.out ?_))
        go_ret
        exact ⟨rfl, hBel.trans (hb5.mono hBel.size)⟩
      · obtain ⟨rfl, rfl⟩ := FN hJ
        have e : ok = false := by rw [FO]; simp [hps]
        subst e
        clear FY FN FO
        obtain ⟨c0, c6, c7, c8, c9⟩ := ent_cells H1.out
        go_wp2_with (first
          | (go_at_call 33; refine (bare_any 0 0 _).mono ?_; rintro e w5 ⟨rfl, hb5⟩)
          | (refine ld_ent _ rfl _ rfl g rfl 0 0 H1.out ?_))
        go_ret
        exact ⟨rfl, hBel.trans (hb5.mono hBel.size)⟩

set_option maxHeartbeats 2000000 in
theorem near_none (a : Option Addr) (cap : Nat) (p : ByteArray) (w : World) (hp : p.size ≤ maxLen) :
    Calls Try.prog 9 #[.slice a 0 cap, .string p] w fun e w' => e = .returned (.bool true) ∧ Below w.heap.size w w' := by
  have gp := hp
  obtain ⟨dir, ok, F⟩ : ∃ dir ok, FactsN (Tr [] 0) p (-1) dir ok 0 0 := by
    by_cases hps : p.size = 0
    · obtain ⟨dir, ok, kd, m, F⟩ := factsN_empty [] 0 p hps
      obtain ⟨rfl, rfl⟩ := F.no (by simp [jv])
      exact ⟨dir, ok, F⟩
    · obtain ⟨dir, ok, kd, m, F⟩ := factsN_some [] 0 p (by omega)
      obtain ⟨rfl, rfl⟩ := F.no (by simp [bl])
      exact ⟨dir, ok, F⟩
  have e : ok = false := by rw [F.ok]; simp
  subst e
  unfold maxLen at hp
  go_enter Try.func9, Try.ntmps9
  go_wp2_with (first
    | (go_at_call 28; refine (bytesN_none a cap p _ gp).mono ?_; rintro e w' ⟨⟨x, rfl⟩, rfl⟩; cases x)
    | (go_at_call 29; refine (add_none _ a cap _).mono ?_; rintro e w' ⟨tot, rfl, rfl⟩)
    | (go_at_call 30; refine (dir_none a cap [] _).mono ?_; rintro e w1 ⟨rfl, hown1, hb1⟩))
  all_goals try (go_ret; exact ⟨rfl, Below.refl _ _⟩)
  refine (zover_any p w.heap.size 0 (Tr [] 0) _ hown1 (tr_flat [] 0) gp dir false 0 0 F.a F.t).mono ?_
  rintro e w2 ⟨rfl, hb2⟩
  go_wp2_with (refine st_ent _ rfl _ _ rfl w2.heap.size rfl 0 0 rfl _ (heap_alloc_last w2 _) rfl ?_; rw [World.setRow_alloc_new])
  have hs12 := Nat.le_trans hb1.size hb2.size
  have hBel : Below w.heap.size w (w2.alloc (.cells (entC 0 0) 34)) := (hb1.trans (hb2.mono hb1.size)).alloc hs12 _
  have hh := heap_alloc_last w2 (.cells (entC 0 0) 34)
  clear F hown1 hb2 hb1 hs12
  generalize w2.alloc (.cells (entC 0 0) 34) = W4 at hBel hh
  generalize w2.heap.size = g at hh
  have H1 : Hid (W4.heap[g]? = some (.cells (entC 0 0) 34)) := hh
  clear hh
  refine wp_loop_rounds 1 ?_
  rw [rounds_succ]
  obtain ⟨c0, c6, c7, c8, c9⟩ := ent_cells H1.out
  cases hpe : p.toList.isEmpty
  all_goals
    go_wp2_with (first
      | (go_at_call 33; refine (bare_any 0 0 _).mono ?_; rintro e w5 ⟨rfl, hb5⟩)
      | (refine ld_ent _ rfl _ rfl g rfl 0 0 H1.out ?_))
    go_ret
    exact ⟨rfl, hBel.trans (hb5.mono hBel.size)⟩

end Go.Proofs.Qxb6612745a
