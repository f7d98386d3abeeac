/-
  THE WALKS: bits.Mul at (1, n), bytes.Repeat of one blank, and the law's own helpers.
-/
import Derived.Test.Qxb6612819aRows
import Derived.WalkKit
import Derived.WalkSpells
import Derived.WalkLawsBesides
import Derived.Shelf.Bits.Mul64
import Derived.Lib.MakeNoZero
import Derived.Laws.IdiomCopy
set_option linter.unusedVariables false
set_option linter.unusedSimpArgs false
namespace Go.Proofs.Qxb6612819a
open Go.RowKit

set_option maxHeartbeats 1000000 in
theorem mul64_any (n : Nat) (hn : n ≤ 131072) (w : World) :
    Calls Try.prog 12 #[.int .u64 1, .int .u64 n] w fun e w' => e = .returned (.tuple #[.int .u64 0, .int .u64 n]) ∧ w = w' := by
  have h0 : bits .and .u64 0 4294967295 = 0 := by decide
  have h1 : bits .and .u64 1 4294967295 = 1 := by decide
  have h2 : bits .and .u64 (n : Int) 4294967295 = n := by rw [Mul64.maskN n (by omega)]; omega
  have h3 : (n : Int) / 4294967296 = 0 := by omega
  go_enter Try.func12, Try.ntmps12
  go_wp2
  go_ret2
  exact ⟨rfl, rfl⟩

set_option maxHeartbeats 1000000 in
theorem mul_any (n : Nat) (hn : n ≤ 131072) (w : World) :
    Calls Try.prog 9 #[.int .u64 1, .int .u64 n] w fun e w' => e = .returned (.tuple #[.int .u64 0, .int .u64 n]) ∧ w = w' := by
  go_enter Try.func9, Try.ntmps9
  go_wp2_with (go_at_call 12; refine (mul64_any n hn _).mono ?_; rintro e w' ⟨rfl, rfl⟩)
  go_ret2
  exact ⟨rfl, rfl⟩

/-- Block h of w, which the call has made behind w0, has n cells that may be written; the first bp of them are blanks. -/
structure Fill (w0 w : World) (h bp n : Nat) : Prop where
  new : w0.heap.size ≤ h
  below : Below w0.heap.size w0 w
  blank : ∀ j, j < bp → w.cell? ⟨h, j, none⟩ = some (.int .u8 32)
  there : ∀ j, j < n → (w.cell? ⟨h, j, none⟩).isSome = true ∧ w.frozen? ⟨h, j, none⟩ = false

theorem info5 : (Try.prog.info? 5).map (·.size) = some 1 := by kernel_rfl

theorem drewN_setCells (b q : Nat) : ∀ (vs : List Value) (o : Nat) (w : World), (w.drewN q).setCells b o vs = (w.setCells b o vs).drewN q
  | [], _, _ => rfl
  | v :: r, o, w => by
    rw [World.setCells, World.setCells]
    exact drewN_setCells b q r (o + 1) (w.setCell ⟨b, o, none⟩ v)

theorem below_setCells {B : Nat} {a : World} (b : Nat) (hb : B ≤ b) : ∀ (vs : List Value) (o : Nat) {w : World}, Below B a w → Below B a (w.setCells b o vs)
  | [], _, _, h => h
  | v :: r, o, w, h => below_setCells b hb r (o + 1) (h.setCell hb v)

/-- ONE COPY of m blanks to the place behind the blanks that are there. -/
theorem fill_step {w0 w : World} {h bp n : Nat} (F : Fill w0 w h bp n) (a : Addr) (sLen sCap dCap m : Nat) (hm : m = Nat.min sLen (n - bp)) (hbp : bp ≤ n) (hsrc : ∀ j, j < m → w.cell? (a.add j) = some (.int .u8 32)) :
    ∃ W, (∀ q ty, (Builtin.copy_ #[22, 22] ty #[.slice (some ⟨h, bp, none⟩) (n - bp) dCap, .slice (some a) sLen sCap]).run Try.prog (w.drewN q) = .ok (.int .i64 m) (W.drewN q)) ∧ Fill w0 W h (bp + m) n := by
  have hmn : m ≤ n - bp := by rw [hm]; exact Nat.min_le_right _ _
  refine ⟨w.setCells h bp (List.replicate m (.int .u8 32)), fun q ty => ?_, ⟨F.new, below_setCells h F.new _ _ F.below, fun j hj => ?_, fun j hj => ?_⟩⟩
  · have := run_copy_cells (P := Try.prog) (w.drewN q) 22 22 ty 5 h bp (n - bp) dCap a sLen sCap (List.replicate m (.int .u8 32)) Try.underlying22 info5 (by rw [List.length_replicate, hm])
      (fun j v hv => by
        have hj : j < m := by
          have := (List.getElem?_eq_some_iff.1 hv).1
          simpa using this
        have : v = .int .u8 32 := by
          rw [List.getElem?_replicate, if_pos hj] at hv
          exact (Option.some.inj hv).symm
        rw [this]
        exact hsrc j hj)
      (fun j hj => (F.there (bp + j) (by simp at hj; omega)).1) (fun j hj => (F.there (bp + j) (by simp at hj; omega)).2)
      (fun v hv => by rw [(List.mem_replicate.1 hv).2]; rfl)
    rw [this, List.length_replicate, drewN_setCells]
    rfl
  · by_cases hlt : j < bp
    · rw [World.cell?_setCells_out h _ bp w _ (fun _ _ => Or.inl hlt)]
      exact F.blank j hlt
    · have := World.cell?_setCells_in h (List.replicate m (.int .u8 32)) bp w (fun i hi => (F.there (bp + i) (by simp at hi; omega)).1) (j - bp) (by simp; omega)
      rw [show bp + (j - bp) = j by omega] at this
      rw [this]
      simp
  · refine ⟨?_, by rw [World.frozen?_setCells]; exact (F.there j hj).2⟩
    by_cases hin : bp ≤ j ∧ j < bp + m
    · have := World.cell?_setCells_in h (List.replicate m (.int .u8 32)) bp w (fun i hi => (F.there (bp + i) (by simp at hi; omega)).1) (j - bp) (by simp; omega)
      rw [show bp + (j - bp) = j by omega] at this
      rw [this]
      rfl
    · rw [World.cell?_setCells_out h _ bp w _ (fun _ _ => by simp; omega)]
      exact (F.there j hj).1

theorem addr0 (b j : Nat) : (⟨b, 0, none⟩ : Addr).add j = ⟨b, j, none⟩ := by unfold Addr.add; split <;> simp_all

theorem Fill.drewN {w0 w : World} {h bp n : Nat} (F : Fill w0 w h bp n) (q : Nat) : Fill w0 (w.drewN q) h bp n :=
  ⟨F.new, below_drewN F.below q, F.blank, F.there⟩

theorem fill_start (w : World) (cs : Array Value) (n : Nat) (hn : n ≤ cs.size) : Fill w (w.alloc (.cells cs 5)) w.heap.size 0 n := by
  refine ⟨Nat.le_refl _, (Below.refl _ _).alloc (Nat.le_refl _) _, fun j hj => absurd hj (Nat.not_lt_zero j), fun j hj => ?_⟩
  have hg : (w.alloc (.cells cs 5)).heap[w.heap.size]? = some (.cells cs 5) := by show (w.heap.push _)[w.heap.size]? = _; simp
  refine ⟨?_, frozen_of_row _ _ j cs 5 hg⟩
  rw [cell_of_row _ _ j cs 5 (0, 0) hg]
  simp
  omega

set_option maxHeartbeats 1000000 in
theorem rep_any (b cap n : Nat) (hn : n ≤ 131072) (h0 : 0 < n) (w : World) (hb : b < w.heap.size) (hc : w.cell? ⟨b, 0, none⟩ = some (.int .u8 32)) :
    Calls Try.prog 8 #[.slice (some ⟨b, 0, none⟩) 1 cap, .int .i64 n] w fun e w' => e = .returned (.slice (some ⟨w.heap.size, 0, none⟩) n n) ∧ Fill w w' w.heap.size n n := by
  have hn0 : ((n : Int) == 0) = false := by simp; omega
  obtain ⟨cs, hrunM, hle, _⟩ := Lib.run_makeNoZero (P := Try.prog) w #[3] 22 5 Try.underlying22 n (by omega)
  have hmk : (callFunc 10 #[.int .i64 n]).run Try.prog w = .ok (.value (.slice (some ⟨w.heap.size, 0, none⟩) n cs.size)) ((w.alloc (.cells cs 5)).drewN 2) := by
    rw [run_callFunc_extern Try.func10 (by kernel_rfl) (by kernel_rfl) (by kernel_rfl) (e := Extern.BytealgMakeNoZero.makeNoZero #[3] #[22]) (by kernel_rfl), hrunM]
    rfl
  have F0 := fill_start w cs n hle
  obtain ⟨W1, hcp, F1⟩ := fill_step F0 ⟨b, 0, none⟩ 1 cap n 1 (by show 1 = min 1 (n - 0); omega) (Nat.zero_le _) (fun j hj => by
    have : j = 0 := by omega
    subst this
    have hB : Below w.heap.size w (w.alloc (.cells cs 5)) := (Below.refl _ _).alloc (Nat.le_refl _) _
    exact (hB.cell (p := ⟨b, 0, none⟩) hb).trans hc)
  have hcp1 := fun ty => hcp 2 ty
  have FH : Hid (Fill w W1 w.heap.size 1 n) := F1
  clear hcp F1 F0 hrunM
  simp only [Nat.sub_zero] at hcp1
  by_cases h8 : (8192 : Int) < (n : Int)
  · skip
    go_enter Try.func8, Try.ntmps8
    go_wp2_with (go_at_call 9; refine (mul_any n hn _).mono ?_; rintro e w' ⟨rfl, rfl⟩)
    go_loopw [10] (fun t wr => ∃ bp : Nat, 1 ≤ bp ∧ bp ≤ n ∧ t = .int .i64 bp ∧ Fill w wr w.heap.size bp n) (fun t _ => n - (intOf t).toNat)
    case atStart => exact ⟨1, by omega, by omega, rfl, FH.out.drewN 2⟩
    case round =>
      obtain ⟨bp, hb1, hbn, rfl, F⟩ := hrel
      have FF : Hid (Fill w wr w.heap.size bp n) := F
      clear F hcp1 FH
      by_cases hlt : bp < n
      · by_cases h82 : bp ≤ 8192
        · skip
          obtain ⟨W, hcp, F2⟩ := fill_step FF.out ⟨w.heap.size, 0, none⟩ bp n (n - bp) _ rfl (by omega) (fun j hj => by
            have hj' : j < bp := Nat.lt_of_lt_of_le hj (Nat.min_le_left _ _)
            rw [addr0]
            exact FF.out.blank j (by omega))
          have F2' : Hid (Fill w W w.heap.size (bp + Nat.min bp (n - bp)) n) := F2
          have hm1 : 1 ≤ Nat.min bp (n - bp) := by show 1 ≤ min bp (n - bp); omega
          have hm2 : Nat.min bp (n - bp) ≤ n - bp := Nat.min_le_right _ _
          generalize Nat.min bp (n - bp) = m at hcp F2' hm1 hm2
          have hcp1 : ∀ ty, (Builtin.copy_ #[22, 22] ty #[.slice (some ⟨w.heap.size, bp, none⟩) (n - bp) (n - bp), .slice (some ⟨w.heap.size, 0, none⟩) bp n]).run Try.prog wr.drew = .ok (.int .i64 m) W.drew := fun ty => hcp 1 ty
          clear F2 hcp
          go_wp2
          go_region
          go_wp2
          go_roundw
          case rel => exact ⟨bp + m, by omega, by omega, by go_num, F2'.out.drewN 1⟩
          case measure => simp [intOf]; omega
        · skip
          obtain ⟨W, hcp, F2⟩ := fill_step FF.out ⟨w.heap.size, 0, none⟩ 8192 n (n - bp) _ rfl (by omega) (fun j hj => by
            have hj' : j < 8192 := Nat.lt_of_lt_of_le hj (Nat.min_le_left _ _)
            rw [addr0]
            exact FF.out.blank j (by omega))
          have F2' : Hid (Fill w W w.heap.size (bp + Nat.min 8192 (n - bp)) n) := F2
          have hm1 : 1 ≤ Nat.min 8192 (n - bp) := by show 1 ≤ min 8192 (n - bp); omega
          have hm2 : Nat.min 8192 (n - bp) ≤ n - bp := Nat.min_le_right _ _
          generalize Nat.min 8192 (n - bp) = m at hcp F2' hm1 hm2
          have hcp1 : ∀ ty, (Builtin.copy_ #[22, 22] ty #[.slice (some ⟨w.heap.size, bp, none⟩) (n - bp) (n - bp), .slice (some ⟨w.heap.size, 0, none⟩) 8192 n]).run Try.prog wr.drew = .ok (.int .i64 m) W.drew := fun ty => hcp 1 ty
          clear F2 hcp
          go_wp2
          go_region
          go_wp2
          go_roundw
          case rel => exact ⟨bp + m, by omega, by omega, by go_num, F2'.out.drewN 1⟩
          case measure => simp [intOf]; omega
      · go_wp2
        go_ret
        have e : bp = n := by omega
        subst e
        exact ⟨rfl, FF.out⟩
  · skip
    go_enter Try.func8, Try.ntmps8
    go_wp2_with (go_at_call 9; refine (mul_any n hn _).mono ?_; rintro e w' ⟨rfl, rfl⟩)
    go_loopw [10] (fun t wr => ∃ bp : Nat, 1 ≤ bp ∧ bp ≤ n ∧ t = .int .i64 bp ∧ Fill w wr w.heap.size bp n) (fun t _ => n - (intOf t).toNat)
    case atStart => exact ⟨1, by omega, by omega, rfl, FH.out.drewN 2⟩
    case round =>
      obtain ⟨bp, hb1, hbn, rfl, F⟩ := hrel
      have FF : Hid (Fill w wr w.heap.size bp n) := F
      clear F hcp1 FH
      by_cases hlt : bp < n
      · by_cases h82 : bp ≤ n
        · skip
          obtain ⟨W, hcp, F2⟩ := fill_step FF.out ⟨w.heap.size, 0, none⟩ bp n (n - bp) _ rfl (by omega) (fun j hj => by
            have hj' : j < bp := Nat.lt_of_lt_of_le hj (Nat.min_le_left _ _)
            rw [addr0]
            exact FF.out.blank j (by omega))
          have F2' : Hid (Fill w W w.heap.size (bp + Nat.min bp (n - bp)) n) := F2
          have hm1 : 1 ≤ Nat.min bp (n - bp) := by show 1 ≤ min bp (n - bp); omega
          have hm2 : Nat.min bp (n - bp) ≤ n - bp := Nat.min_le_right _ _
          generalize Nat.min bp (n - bp) = m at hcp F2' hm1 hm2
          have hcp1 : ∀ ty, (Builtin.copy_ #[22, 22] ty #[.slice (some ⟨w.heap.size, bp, none⟩) (n - bp) (n - bp), .slice (some ⟨w.heap.size, 0, none⟩) bp n]).run Try.prog wr.drew = .ok (.int .i64 m) W.drew := fun ty => hcp 1 ty
          clear F2 hcp
          go_wp2
          go_region
          go_wp2
          go_roundw
          case rel => exact ⟨bp + m, by omega, by omega, by go_num, F2'.out.drewN 1⟩
          case measure => simp [intOf]; omega
        · omega
      · go_wp2
        go_ret
        have e : bp = n := by omega
        subst e
        exact ⟨rfl, FF.out⟩

end Go.Proofs.Qxb6612819a
