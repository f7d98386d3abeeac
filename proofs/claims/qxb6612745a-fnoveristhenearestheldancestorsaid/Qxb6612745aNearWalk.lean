/-
  THE WALK of FnOverIsTheNearestHeldAncestor.
-/
import Derived.Test.Qxb6612745aNear
set_option linter.unusedVariables false
set_option linter.unusedSimpArgs false
namespace Go.Proofs.Qxb6612745a
open Go.RowKit Go.Maps

theorem bl_range (ss : List ByteArray) (p : ByteArray) : ∀ k, -1 ≤ (bl ss p k).1 ∧ (bl ss p k).1 < k
  | 0 => by simp [bl]
  | k + 1 => by
    have := bl_range ss p k
    unfold bl
    split
    · simp; omega
    · omega

theorem bl_hit {ss : List ByteArray} {p s : ByteArray} {k : Nat} (hs : s = ss.getD k ByteArray.empty) (ha : ancB s p = true) (hle : (bl ss p k).2 ≤ (s.size : Int)) : (bl ss p (k + 1)).1 = k ∧ (bl ss p (k + 1)).2 = s.size := by
  have e : bl ss p (k + 1) = ((k : Int), (s.size : Int)) := by rw [bl, ← hs, if_pos ⟨ha, hle⟩]
  rw [e]; exact ⟨rfl, rfl⟩
theorem bl_miss {ss : List ByteArray} {p s : ByteArray} {k : Nat} (hs : s = ss.getD k ByteArray.empty) (h : ¬ (ancB s p = true ∧ (bl ss p k).2 ≤ (s.size : Int))) : bl ss p (k + 1) = bl ss p k := by
  rw [bl, ← hs, if_neg h]

set_option maxHeartbeats 2000000 in
theorem near_any (b off len cap : Nat) (ss : List ByteArray) (p : ByteArray) (w : World) (hP : Paths w b off len ss) (hp : p.size ≤ maxLen) (hpe : p.toList.isEmpty = false) :
    Calls Try.prog 9 #[.slice (some ⟨b, off, none⟩) len cap, .string p] w fun e w' => e = .returned (.bool true) ∧ Below w.heap.size w w' := by
  have hr := hP.reach
  have hl := hP.le
  have gp := hp
  have hps : 0 < p.size := by
    have hne : ¬ p.size = 0 := fun e => by rw [(isEmpty_size p).2 e] at hpe; cases hpe
    omega
  obtain ⟨dir, ok, kd, m, F⟩ := factsN_some ss len p hps
  unfold maxLen at hp
  go_enter Try.func9, Try.ntmps9
  go_wp2_with (first
    | (go_at_call 28; refine (bytesN_any b off len cap ss p _ hP gp).mono ?_; rintro e w' ⟨⟨x, rfl⟩, rfl⟩; cases x)
    | (go_at_call 29; refine (add_any _ b off len cap ss _ hP).mono ?_; rintro e w' ⟨tot, rfl, rfl⟩)
    | (go_at_call 30; refine (dir_any b off len cap ss _ hP).mono ?_; rintro e w1 ⟨rfl, hown1, hb1⟩))
  all_goals try (go_ret; exact ⟨rfl, Below.refl _ _⟩)
  refine (zover_any p w.heap.size len (Tr ss len) _ hown1 (tr_flat ss len) gp dir ok kd m F.a F.t).mono ?_
  rintro e w2 ⟨rfl, hb2⟩
  go_wp2_with (refine st_ent _ rfl _ _ rfl w2.heap.size rfl kd m rfl _ (heap_alloc_last w2 _) rfl ?_; rw [World.setRow_alloc_new])
  have hs12 := Nat.le_trans hb1.size hb2.size
  have hBel : Below w.heap.size w (w2.alloc (.cells (entC kd m) 34)) := (hb1.trans (hb2.mono hb1.size)).alloc hs12 _
  have hh := heap_alloc_last w2 (.cells (entC kd m) 34)
  have hP4 := hP.below hBel hP.blk
  have FF : Hid ((0 ≤ (bl ss p len).1 → kd = 3 ∧ m = (bl ss p len).1 + 1) ∧ (¬ 0 ≤ (bl ss p len).1 → kd = 0 ∧ m = 0) ∧ ok = (decide (0 < p.size) && decide (0 ≤ (bl ss p len).1))) := ⟨F.yes, F.no, F.ok⟩
  clear F hown1 hP hb2 hb1 hs12
  generalize w2.alloc (.cells (entC kd m) 34) = W4 at hBel hh hP4
  generalize w2.heap.size = g at hh
  have H1 : Hid (W4.heap[g]? = some (.cells (entC kd m) 34)) := hh
  clear hh
  go_loop [8, 9, 10] (fun x y i => ∃ k : Nat, k ≤ len ∧ i = .int .i64 k ∧ x = .int .i64 (bl ss p k).1 ∧ y = .int .i64 (bl ss p k).2) (fun _ _ i => len - (intOf i).toNat)
  case atStart => exact ⟨0, Nat.zero_le _, rfl, rfl, rfl⟩
  case round =>
    obtain ⟨k, hk, rfl, rfl, rfl⟩ := hrel
    by_cases hlt : k < len
    · obtain ⟨s, hs⟩ : ∃ s, s = ss.getD k ByteArray.empty := ⟨_, rfl⟩
      have hcx : W4.cell? ⟨b, off + k, none⟩ = some (.string s) := by rw [hs]; exact hP4.cell k (by omega)
      have hsz : s.size ≤ maxLen := by rw [hs]; exact hP4.at k
      have AN : Hid (∀ w1 : World, Calls Try.prog 32 #[.string s, .string p] w1 fun e w' => e = .returned (.bool (ancB s p)) ∧ w1 = w') := fun w1 => anc_any s p w1 hsz gp
      have HS : Hid (s = ss.getD k ByteArray.empty) := hs
      clear hs hP4
      unfold maxLen at hsz
      by_cases hx : ancB s p = true
      · rw [hx] at AN
        by_cases hle : (bl ss p k).2 ≤ (s.size : Int)
        · have hh := bl_hit HS.out hx hle
          have HH : Hid ((bl ss p (k + 1)).1 = k ∧ (bl ss p (k + 1)).2 = s.size) := hh
          clear hh hx
          generalize (bl ss p k).1 = B1
          generalize (bl ss p k).2 = B2 at hle
          go_wp2_with (go_at_call 32; refine (AN.out _).mono ?_; rintro e w' ⟨rfl, rfl⟩)
          go_round
          case rel => exact ⟨k + 1, by omega, by go_num, by rw [HH.out.1], by rw [HH.out.2]⟩
          case measure => simp [intOf]; omega
        · have hm := bl_miss HS.out (fun h => hle h.2)
          have HH : Hid (bl ss p (k + 1) = bl ss p k) := hm
          clear hm hx
          have HB : Hid ((bl ss p (k + 1)).1 = (bl ss p k).1 ∧ (bl ss p (k + 1)).2 = (bl ss p k).2) := ⟨by rw [HH.out], by rw [HH.out]⟩
          clear HH
          generalize (bl ss p k).1 = B1 at HB
          generalize (bl ss p k).2 = B2 at hle HB
          go_wp2_with (go_at_call 32; refine (AN.out _).mono ?_; rintro e w' ⟨rfl, rfl⟩)
          go_round
          case rel => exact ⟨k + 1, by omega, by go_num, by rw [HB.out.1], by rw [HB.out.2]⟩
          case measure => simp [intOf]; omega
      · have hx' : ancB s p = false := by simpa using hx
        rw [hx'] at AN
        have hm := bl_miss HS.out (fun h => hx h.1)
        have HB : Hid ((bl ss p (k + 1)).1 = (bl ss p k).1 ∧ (bl ss p (k + 1)).2 = (bl ss p k).2) := ⟨by rw [hm], by rw [hm]⟩
        clear hm hx hx'
        generalize (bl ss p k).1 = B1 at HB
        generalize (bl ss p k).2 = B2 at HB
        go_wp2_with (go_at_call 32; refine (AN.out _).mono ?_; rintro e w' ⟨rfl, rfl⟩)
        go_round
        case rel => exact ⟨k + 1, by omega, by go_num, by rw [HB.out.1], by rw [HB.out.2]⟩
        case measure => simp [intOf]; omega
    · have hke : k = len := by omega
      subst hke
      have hjr := bl_range ss p k
      obtain ⟨FY, FN, FO⟩ := FF.out
      clear FF
      generalize (bl ss p k).1 = J at FY FN FO hjr
      generalize (bl ss p k).2 = J2
      clear hP4
      by_cases hJ : 0 ≤ J
      · obtain ⟨rfl, rfl⟩ := FY hJ
        have e : ok = true := by rw [FO]; simp [hps, hJ]
        subst e
        clear FY FN FO
        obtain ⟨c0, c6, c7, c8, c9⟩ := ent_cells H1.out
        go_wp2_with (first
          | (go_at_call 33; refine (bare_any 3 (J + 1) _).mono ?_; rintro e w5 ⟨rfl, hb5⟩)
          | (refine ld_ent _ rfl _ rfl g rfl 3 (J + 1) H1.out ?_))
        go_ret
        exact ⟨rfl, hBel.trans (hb5.mono hBel.size)⟩
      · obtain ⟨rfl, rfl⟩ := FN hJ
        have e : ok = false := by rw [FO]; simp [hJ]
        subst e
        clear FY FN FO
        obtain ⟨c0, c6, c7, c8, c9⟩ := ent_cells H1.out
        go_wp2_with (first
          | (go_at_call 33; refine (bare_any 0 0 _).mono ?_; rintro e w5 ⟨rfl, hb5⟩)
          | (refine ld_ent _ rfl _ rfl g rfl 0 0 H1.out ?_))
        go_ret
        exact ⟨rfl, hBel.trans (hb5.mono hBel.size)⟩

end Go.Proofs.Qxb6612745a
