/-
  Replicate, granted.
-/
import Derived.Test.Qxb6612844aRepl0
set_option linter.unusedVariables false
set_option linter.unusedSimpArgs false
namespace Go.Proofs.Qxb6612844a
open Go.RowKit

/-- The framed size of k entries from number p on. -/
def Sz (RL : Nat → Nat) (p : Nat) : Nat → Nat
  | 0 => 0
  | k + 1 => Sz RL p k + (32 + RL (p + k))

/-- How many entries are sent. -/
structure Cnt (RL : Nat → Nat) (n p : Nat) (mx : Int) (q : Nat) : Prop where
  le : p + q ≤ n
  one : p < n → 1 ≤ q
  fits : 2 ≤ q → (Sz RL p q : Int) ≤ mx
  full : p + q < n → mx < (Sz RL p (q + 1) : Int)

/-- The loop's state behind k rounds. -/
structure Run (w wr : World) (RL : Nat → Nat) (n p : Nat) (mx : Int) (k : Nat) : Prop where
  le : p + k ≤ n
  fits : 2 ≤ k → (Sz RL p k : Int) ≤ mx
  below : Below w.heap.size w wr
  there : wr.there w.heap.size 0 6
  size : w.heap.size < wr.heap.size

theorem Run.go {w wr w1 : World} {RL : Nat → Nat} {n p k : Nat} {mx : Int} (R : Run w wr RL n p mx k) (hb : Below wr.heap.size wr w1) : Run w w1 RL n p mx k :=
  ⟨R.le, R.fits, R.below.trans (hb.mono R.below.size), there_below R.there hb R.size, Nat.lt_of_lt_of_le R.size hb.size⟩

theorem Run.next {w wr : World} {RL : Nat → Nat} {n p k : Nat} {mx : Int} (R : Run w wr RL n p mx k) (h1 : p + k < n) (h2 : 1 ≤ k → (Sz RL p (k + 1) : Int) ≤ mx) : Run w wr RL n p mx (k + 1) :=
  ⟨by omega, fun h => h2 (by omega), R.below, R.there, R.size⟩

theorem Ents.up {w : World} {lo B B' A m p T EA RL EC} (h : Ents w lo B A m p T EA RL EC) (hB : B ≤ B') : Ents w lo B' A m p T EA RL EC :=
  ⟨fun i hi => by
    obtain ⟨g, e, hlo, hg, hr⟩ := h.at' i hi
    exact ⟨g, e, hlo, by omega, hr⟩⟩

theorem Ents.down {w : World} {lo lo' B A m p T EA RL EC} (h : Ents w lo B A m p T EA RL EC) (hB : lo' ≤ lo) : Ents w lo' B A m p T EA RL EC :=
  ⟨fun i hi => by
    obtain ⟨g, e, hlo, hg, hr⟩ := h.at' i hi
    exact ⟨g, e, by omega, hg, hr⟩⟩

/-- What the last region of Replicate asks of the world. -/
abbrev SR (w0 : World) (g r : Nat) (L : Value) (w : World) : Prop := w.cell? ⟨g, 16, none⟩ = some L ∧ Room6 w r ∧ w.there r 0 6 ∧ Below w0.heap.size w0 w

set_option maxHeartbeats 1600000 in
theorem repl_yes (w : World) (g : Nat) (id term : Int) (si n c h : Nat) (st : Int) (commit : Int) (M : Value) (to mx : Int) (p : Nat) (x tv : Int) (T : Nat → Int) (EA : Nat → Option Addr) (RL EC : Nat → Nat) (Z : Nat → Nat → Int)
    (hC : Core w g id term 2 si st (.slice (some ⟨h, 0, none⟩) n c) commit M) (hL : Looks w M to ((si : Int) + 1 + (p : Int)) true) (hLog : Log w w.heap.size h n T EA RL EC Z)
    (hp : p ≤ n) (hn : n ≤ 65536) (hsn : si + n < 18446744073709551615) (hnc : n ≤ c) (hR : ∀ j, j < n → RL j ≤ 1048576) (hSz : ∀ k, p + k ≤ n → Sz RL p k ≤ 4194304)
    (hx : x = (si : Int) + (p : Int)) (hT : ∀ W, Below w.heap.size w W → Calls Try.prog 52 #[.pointer (some ⟨g, 0, none⟩), .int .u64 x] W fun e w' => e = .returned (.int .u64 tv) ∧ Below W.heap.size W w') :
    Calls Try.prog 26 #[.pointer (some ⟨g, 0, none⟩), .int .u64 to, .int .i64 mx] w fun e w' => ∃ A q c', e = .returned (.tuple #[.agg #[.int .u64 term, .int .u64 id, .int .u64 x, .int .u64 tv, .slice A q c', .int .u64 commit], .bool true]) ∧
      Cnt RL n p mx q ∧ Ents w' w.heap.size w'.heap.size A q p T EA RL EC ∧ Below w.heap.size w w' := by
  have hg := hC.lt
  have hB0 : Below w.heap.size w (w.alloc (Obj.cells req0 49)) := (Below.refl _ _).alloc (Nat.le_refl _) _
  have hC0 := hC.below hB0 hg
  have hl0 := hL _ hB0
  have e3 := hC0.c3
  have e12 := hC0.c12
  have e19 := hC0.c19
  have HB : Hid (Below w.heap.size w (w.alloc (Obj.cells req0 49))) := hB0
  have HC : Hid (Core w g id term 2 si st (.slice (some ⟨h, 0, none⟩) n c) commit M) := hC
  have HLg : Hid (Log w w.heap.size h n T EA RL EC Z) := hLog
  have HRl : Hid (∀ j, j < n → RL j ≤ 1048576) := hR
  have HSz : Hid (∀ k, p + k ≤ n → Sz RL p k ≤ 4194304) := hSz
  have HT : Hid (∀ W, Below w.heap.size w W → Calls Try.prog 52 #[.pointer (some ⟨g, 0, none⟩), .int .u64 x] W fun e w' => e = .returned (.int .u64 tv) ∧ Below W.heap.size W w') := hT
  have HX : Hid (x = (si : Int) + (p : Int)) := hx
  have C22 : Hid (∀ W, Below w.heap.size w W → Calls Try.prog 22 #[.pointer (some ⟨g, 0, none⟩)] W fun e w' => e = .returned (.int .u64 ((si : Int) + 1)) ∧ W = w') := fun W hb => first_any W g si (hC.below hb hg).c12 (by omega)
  have C23 : Hid (∀ W, Below w.heap.size w W → Calls Try.prog 23 #[.pointer (some ⟨g, 0, none⟩)] W fun e w' => e = .returned (.int .u64 ((si : Int) + (n : Int))) ∧ Below W.heap.size W w') := fun W hb => last_any W g si n c _ (hC.below hb hg).c12 (hC.below hb hg).c16 (by omega) hn
  have C38 : Hid (∀ W, Below w.heap.size w W → ∀ e, e < n → Calls Try.prog 38 #[.pointer (some ⟨g, 0, none⟩), .int .u64 ((si : Int) + 1 + (e : Int))] W fun r w' => r = .returned (.agg (entC T EA RL EC e).toArray) ∧ Below W.heap.size W w') := fun W hb e he =>
    entry_any W g si n c e h T EA RL EC (hC.below hb hg).c12 (hC.below hb hg).c16 hsn hn he (Nat.lt_of_lt_of_le hLog.lt hb.size) ((hLog.below hb (Nat.le_refl _)).ent e he)
  have C39 : Hid (∀ W e, e < n → Calls Try.prog 39 #[.agg (entC T EA RL EC e).toArray] W fun r w' => r = .returned (.int .i64 (32 + (RL e : Int))) ∧ Below W.heap.size W w') := fun W e he => size_any W T EA RL EC e (hR e he)
  have C41 : Hid (∀ W, Below w.heap.size w W → ∀ e, p ≤ e → e ≤ n → Calls Try.prog 41 #[.slice (if c = p then some ⟨h, 0, none⟩ else some ⟨h, p * 4, none⟩) (e - p) (c - p)] W fun r w' => ∃ A c', r = .returned (.slice A (e - p) c') ∧ Ents w' W.heap.size w'.heap.size A (e - p) p T EA RL EC ∧ Below W.heap.size W w') := fun W hb e h1 h2 => by
    have hlt := Nat.lt_of_lt_of_le hLog.lt hb.size
    have hent := (hLog.below hb (Nat.le_refl _)).ent
    by_cases hcp : c = p
    · rw [if_pos hcp, show e - p = 0 by omega]
      refine (cloneLog_any W h n 0 0 (c - p) T EA RL EC hlt hent (by omega) hn).mono ?_
      rintro r w' ⟨A, c', rfl, hE, hb'⟩
      exact ⟨A, c', rfl, ⟨fun i hi => absurd hi (Nat.not_lt_zero _)⟩, hb'⟩
    · rw [if_neg hcp]
      exact cloneLog_any W h n p (e - p) (c - p) T EA RL EC hlt hent (by omega) hn
  obtain ⟨O, hO⟩ : ∃ O : Option Addr, (if c = p then some (⟨h, 0, none⟩ : Addr) else some ⟨h, p * 4, none⟩) = O := ⟨_, rfl⟩
  rw [hO] at C41
  have C40 : Hid (∀ W, Below w.heap.size w W → ∀ A l c', Calls Try.prog 40 #[.pointer (some ⟨g, 0, none⟩), .int .u64 x, .slice A l c'] W fun e w' => e = .returned (.agg #[.int .u64 term, .int .u64 id, .int .u64 x, .int .u64 tv, .slice A l c', .int .u64 commit]) ∧ Below W.heap.size W w') := fun W hb A l c' =>
    app_any W g id term commit x tv A l c' (hC.below hb hg).c0 (hC.below hb hg).c1 (hC.below hb hg).c17 (fun W' hb' => hT W' (hb.trans (hb'.mono hb.size)))
  have MK : Hid (∀ W, Below w.heap.size w W → W.there w.heap.size 0 6 → SR w g w.heap.size (.slice (some ⟨h, 0, none⟩) n c) W) := fun W hb ht => ⟨(hC.below hb hg).c16, room6 ht, ht, hb⟩
  clear hC hL hC0 hB0 hLog hR hSz hT hx HC HLg HT
  have hd : decide ((si : Int) + 1 + (p : Int) ≤ (si : Int)) = false := by simp; omega
  have hd2 : ¬ ((si : Int) + 1 + (p : Int) ≤ (si : Int)) := by omega
  go_enter Try.func26, Try.ntmps26
  go_wp2
  go_loopw [9, 10] (fun t s wr => ∃ k : Nat, t = .int .u64 ((si : Int) + 1 + ((p + k : Nat) : Int)) ∧ s = .int .i64 (Sz RL p k : Nat) ∧ Run w wr RL n p mx k) (fun t s _ => (((si : Int) + 1 + (n : Int)) - intOf t).toNat)
  case atStart => exact ⟨0, by simp, rfl, ⟨hp, by omega, HB.out, there_new _ _ _ 6 (by simp), by simp⟩⟩
  case round =>
    obtain ⟨k, rfl, rfl, hRun⟩ := hrel
    have HR : Hid (Run w wr RL n p mx k) := hRun
    have hle := hRun.le
    clear hRun hd hd2 e3 e12 e19 hl0 HB
    obtain ⟨e, he⟩ : ∃ e, e = p + k := ⟨_, rfl⟩
    obtain ⟨X, hX⟩ : ∃ X, X = Sz RL p k := ⟨_, rfl⟩
    rw [← he, ← hX]
    have HXX : Hid (X = Sz RL p k) := hX
    have hX1 : X ≤ 4194304 := by rw [hX]; exact HSz.out k (by omega)
    clear hX
    by_cases hlt : e < n
    · have hle2 : (si : Int) + 1 + (e : Int) ≤ (si : Int) + (n : Int) := by omega
      have hRe := HRl.out e hlt
      have hSS : Hid (Sz RL p (k + 1) = X + (32 + RL e)) := by rw [HXX.out, he]; exact rfl
      have hX2 : X + (32 + RL e) ≤ 4194304 := by rw [← hSS.out]; exact HSz.out (k + 1) (by omega)
      have HEE : Hid (e = p + k) := he
      by_cases hk0 : k = 0
      · have HK0 : Hid (k = 0) := hk0
        have hep : e = p := by omega
        clear he hk0
        subst hep
        go_wp2_with (first
          | (go_at_call 23; refine (C23.out _ HR.out.below).mono ?_; rintro _ w1 ⟨rfl, hb1⟩)
          | (go_at_call 38; refine (C38.out _ (HR.out.go hb1).below e hlt).mono ?_; rintro _ w2 ⟨rfl, hb2⟩)
          | (go_at_call 39; refine (C39.out _ e hlt).mono ?_; rintro _ w3 ⟨rfl, hb3⟩))
        go_roundw
        case rel => exact ⟨k + 1, by have := HEE.out; go_num, by rw [hSS.out]; go_num, (((HR.out.go hb1).go hb2).go hb3).next (by have := HEE.out; omega) (fun _ => by have := HK0.out; omega)⟩
        case measure => simp [intOf]; omega
      · have hd1 : (si : Int) + 1 + (p : Int) < (si : Int) + 1 + (e : Int) := by omega
        clear he
        by_cases hbr : (X : Int) + (32 + (RL e : Int)) ≤ mx
        · have hd2 : p < e := by omega
          go_wp2_with (first
            | (go_at_call 23; refine (C23.out _ HR.out.below).mono ?_; rintro _ w1 ⟨rfl, hb1⟩)
            | (go_at_call 38; refine (C38.out _ (HR.out.go hb1).below e hlt).mono ?_; rintro _ w2 ⟨rfl, hb2⟩)
            | (go_at_call 39; refine (C39.out _ e hlt).mono ?_; rintro _ w3 ⟨rfl, hb3⟩))
          go_roundw
          case rel => exact ⟨k + 1, by have := HEE.out; go_num, by rw [hSS.out]; go_num, (((HR.out.go hb1).go hb2).go hb3).next (by have := HEE.out; omega) (fun _ => by rw [hSS.out]; omega)⟩
          case measure => simp [intOf]; omega
        · have hd2 : p < e := by omega
          have hbr2 : mx < (X : Int) + (32 + (RL e : Int)) := by omega
          have hEE0 := HEE.out
          have hpe2 : p ≤ e := by omega
          have hen2 : e ≤ n := by omega
          have wx : IntKind.u64.wrap ((si : Int) + 1 + (p : Int) - 1) = x := by rw [HX.out]; rw [show (si : Int) + 1 + (p : Int) - 1 = (si : Int) + (p : Int) by omega]; exact wrapU _ (by omega) (by omega)
          have wp1 : IntKind.u64.wrap (p : Int) = (p : Int) := wrapU _ (by omega) (by omega)
          have we1 : IntKind.u64.wrap (e : Int) = (e : Int) := wrapU _ (by omega) (by omega)
          have wp : IntKind.u64.wrap ((si : Int) + 1 + (p : Int) - ((si : Int) + 1)) = (p : Int) := by rw [show (si : Int) + 1 + (p : Int) - ((si : Int) + 1) = p by omega]; exact wp1
          have we : IntKind.u64.wrap ((si : Int) + 1 + (e : Int) - ((si : Int) + 1)) = (e : Int) := by rw [show (si : Int) + 1 + (e : Int) - ((si : Int) + 1) = e by omega]; exact we1
          have p0 : (0 : Int) ≤ (p : Int) := by omega
          have e0 : (0 : Int) ≤ (e : Int) := by omega
          have pe : (p : Int) ≤ (e : Int) := by omega
          have ec : (e : Int) ≤ (c : Int) := by omega
          have pc : (p : Int) ≤ (c : Int) := by omega
          clear hEE0
          go_wp2_with (first
            | (go_at_call 23; refine (C23.out _ HR.out.below).mono ?_; rintro _ wa ⟨rfl, hba⟩)
            | (go_at_call 38; refine (C38.out _ (HR.out.go hba).below e hlt).mono ?_; rintro _ wb ⟨rfl, hbb⟩)
            | (go_at_call 39; refine (C39.out _ e hlt).mono ?_; rintro _ w1 ⟨rfl, hb1⟩))
          have R1 := ((HR.out.go hba).go hbb).go hb1
          have HB : Hid (Below w.heap.size w w1) := R1.below
          have HT : Hid (w1.there w.heap.size 0 6) := R1.there
          have hs0 := R1.size
          have hS := MK.out w1 HB.out HT.out
          clear R1 hb1 hba hbb
          go_region_held3 (SR w g w.heap.size (.slice (some ⟨h, 0, none⟩) n c))
            (first
              | with_reducible exact MK.out _ (b6 HB3.out (Nat.le_refl _) _ _ _ _ _ _) (t6 HT3.out _ _ _ _ _ _ _)
              | with_reducible exact MK.out _ (Below.drew (b6 HB3.out (Nat.le_refl _) _ _ _ _ _ _)) (t0 (t6 HT3.out _ _ _ _ _ _ _))
              | with_reducible exact MK.out _ HB3.out HT3.out
              | with_reducible exact MK.out _ (Below.drew HB3.out) (t0 HT3.out)
              | with_reducible exact MK.out _ HB2.out HT2.out
              | with_reducible exact MK.out _ (Below.drew HB2.out) (t0 HT2.out)
              | with_reducible exact MK.out _ HB.out HT.out
              | with_reducible exact MK.out _ (Below.drew HB.out) (t0 HT.out))
            (first
              | (go_at_call 22
                 refine (C22.out _ (by first | exact HB.out | exact Below.drew HB.out)).mono ?_
                 rintro _ _ ⟨rfl, rfl⟩)
              | (go_at_call 41
                 refine (C41.out _ (Below.drew HB.out) e hpe2 hen2).mono ?_
                 rintro _ w2 ⟨A, c', rfl, hE2, hb2⟩
                 have HB2 : Hid (Below w.heap.size w w2) := (Below.drew HB.out).trans (Below.mono hb2 (Nat.le_of_lt hs0))
                 have HT2 : Hid (w2.there w.heap.size 0 6) := there_below (t0 HT.out) hb2 hs0
                 have hs2 : w.heap.size < w2.heap.size := Nat.lt_of_lt_of_le hs0 hb2.size
                 have HE2 : Hid (Ents w2 w1.heap.size w2.heap.size A (e - p) p T EA RL EC) := hE2
                 clear hb2 hE2)
              | (go_at_call 40
                 refine (C40.out _ (by first | exact HB2.out | exact Below.drew HB2.out) A (e - p) c').mono ?_
                 rintro _ w3 ⟨rfl, hb3⟩
                 have HB3 : Hid (Below w.heap.size w w3) := HB2.out.trans (Below.mono hb3 (Nat.le_of_lt hs2))
                 have HT3 : Hid (w3.there w.heap.size 0 6) := there_below HT2.out hb3 hs2
                 have HE3 : Hid (Ents w3 w1.heap.size w3.heap.size A (e - p) p T EA RL EC) := (HE2.out.below hb3 (Nat.le_refl _)).up hb3.size
                 clear hb3))
          go_wp2
          refine bodyPost_ret (v := .tuple #[.agg #[.int .u64 term, .int .u64 id, .int .u64 x, .int .u64 tv, .slice A (e - p) c', .int .u64 commit], .bool true])
            (res_two Try.results26 _ _ w.heap.size [.int .u64 term, .int .u64 id, .int .u64 x, .int .u64 tv, .slice A (e - p) c', .int .u64 commit] _ _ rfl rfl (r6 HT3.out _ _ _ _ _ _) Try.underlying49 rfl info49) rfl
            ⟨A, e - p, c', rfl, ?_, ?_, b6 HB3.out (Nat.le_refl _) _ _ _ _ _ _⟩
          · have hEE := HEE.out
            rw [show e - p = k by omega]
            exact ⟨by omega, fun h => by omega, HR.out.fits, fun h => by rw [hSS.out]; omega⟩
          · exact (((HE3.out.nest w.heap.size hs0 _ _ _ _ _ _).down (Nat.le_of_lt hs0)).up (b6 (Below.refl 0 w3) (Nat.zero_le _) _ _ _ _ _ _).size)
    · have HEE : Hid (e = p + k) := he
      have hen : n ≤ e := by omega
      have hd1 : decide ((si : Int) + 1 + (e : Int) ≤ (si : Int) + (n : Int)) = false := by simp; omega
      have hd2 : ¬ ((si : Int) + 1 + (e : Int) ≤ (si : Int) + (n : Int)) := by omega
      have wx : IntKind.u64.wrap ((si : Int) + 1 + (p : Int) - 1) = x := by rw [HX.out]; rw [show (si : Int) + 1 + (p : Int) - 1 = (si : Int) + (p : Int) by omega]; exact wrapU _ (by omega) (by omega)
      have wp1 : IntKind.u64.wrap (p : Int) = (p : Int) := wrapU _ (by omega) (by omega)
      have we1 : IntKind.u64.wrap (e : Int) = (e : Int) := wrapU _ (by omega) (by omega)
      have wp : IntKind.u64.wrap ((si : Int) + 1 + (p : Int) - ((si : Int) + 1)) = (p : Int) := by rw [show (si : Int) + 1 + (p : Int) - ((si : Int) + 1) = p by omega]; exact wp1
      have we : IntKind.u64.wrap ((si : Int) + 1 + (e : Int) - ((si : Int) + 1)) = (e : Int) := by rw [show (si : Int) + 1 + (e : Int) - ((si : Int) + 1) = e by omega]; exact we1
      have p0 : (0 : Int) ≤ (p : Int) := by omega
      have e0 : (0 : Int) ≤ (e : Int) := by omega
      have pe : (p : Int) ≤ (e : Int) := by omega
      have ec : (e : Int) ≤ (c : Int) := by omega
      have pc : (p : Int) ≤ (c : Int) := by omega
      have hpe2 : p ≤ e := by omega
      have hen2 : e ≤ n := by omega
      clear he
      go_wp2_with (first
        | (go_at_call 23; refine (C23.out _ HR.out.below).mono ?_; rintro _ w1 ⟨rfl, hb1⟩))
      have R1 := HR.out.go hb1
      have HB : Hid (Below w.heap.size w w1) := R1.below
      have HT : Hid (w1.there w.heap.size 0 6) := R1.there
      have hs0 := R1.size
      have hS := MK.out w1 HB.out HT.out
      clear R1 hb1
      go_region_held3 (SR w g w.heap.size (.slice (some ⟨h, 0, none⟩) n c))
        (first
          | with_reducible exact MK.out _ (b6 HB3.out (Nat.le_refl _) _ _ _ _ _ _) (t6 HT3.out _ _ _ _ _ _ _)
          | with_reducible exact MK.out _ (Below.drew (b6 HB3.out (Nat.le_refl _) _ _ _ _ _ _)) (t0 (t6 HT3.out _ _ _ _ _ _ _))
          | with_reducible exact MK.out _ HB3.out HT3.out
          | with_reducible exact MK.out _ (Below.drew HB3.out) (t0 HT3.out)
          | with_reducible exact MK.out _ HB2.out HT2.out
          | with_reducible exact MK.out _ (Below.drew HB2.out) (t0 HT2.out)
          | with_reducible exact MK.out _ HB.out HT.out
          | with_reducible exact MK.out _ (Below.drew HB.out) (t0 HT.out))
        (first
          | (go_at_call 22
             refine (C22.out _ (by first | exact HB.out | exact Below.drew HB.out)).mono ?_
             rintro _ _ ⟨rfl, rfl⟩)
          | (go_at_call 41
             refine (C41.out _ (Below.drew HB.out) e hpe2 hen2).mono ?_
             rintro _ w2 ⟨A, c', rfl, hE2, hb2⟩
             have HB2 : Hid (Below w.heap.size w w2) := (Below.drew HB.out).trans (Below.mono hb2 (Nat.le_of_lt hs0))
             have HT2 : Hid (w2.there w.heap.size 0 6) := there_below (t0 HT.out) hb2 hs0
             have hs2 : w.heap.size < w2.heap.size := Nat.lt_of_lt_of_le hs0 hb2.size
             have HE2 : Hid (Ents w2 w1.heap.size w2.heap.size A (e - p) p T EA RL EC) := hE2
             clear hb2 hE2)
          | (go_at_call 40
             refine (C40.out _ (by first | exact HB2.out | exact Below.drew HB2.out) A (e - p) c').mono ?_
             rintro _ w3 ⟨rfl, hb3⟩
             have HB3 : Hid (Below w.heap.size w w3) := HB2.out.trans (Below.mono hb3 (Nat.le_of_lt hs2))
             have HT3 : Hid (w3.there w.heap.size 0 6) := there_below HT2.out hb3 hs2
             have HE3 : Hid (Ents w3 w1.heap.size w3.heap.size A (e - p) p T EA RL EC) := (HE2.out.below hb3 (Nat.le_refl _)).up hb3.size
             clear hb3))
      go_wp2
      refine bodyPost_ret (v := .tuple #[.agg #[.int .u64 term, .int .u64 id, .int .u64 x, .int .u64 tv, .slice A (e - p) c', .int .u64 commit], .bool true])
        (res_two Try.results26 _ _ w.heap.size [.int .u64 term, .int .u64 id, .int .u64 x, .int .u64 tv, .slice A (e - p) c', .int .u64 commit] _ _ rfl rfl (r6 HT3.out _ _ _ _ _ _) Try.underlying49 rfl info49) rfl
        ⟨A, e - p, c', rfl, ?_, ?_, b6 HB3.out (Nat.le_refl _) _ _ _ _ _ _⟩
      · have hEE := HEE.out
        rw [show e - p = k by omega]
        exact ⟨by omega, fun h => by omega, HR.out.fits, fun h => by omega⟩
      · exact (((HE3.out.nest w.heap.size hs0 _ _ _ _ _ _).down (Nat.le_of_lt hs0)).up (b6 (Below.refl 0 w3) (Nat.zero_le _) _ _ _ _ _ _).size)

end Go.Proofs.Qxb6612844a
