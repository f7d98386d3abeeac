/-
  THE LAW, where Replicate grants: no entries.
-/
import Derived.Test.Qxb6612844aYes
set_option linter.unusedVariables false
set_option linter.unusedSimpArgs false
namespace Go.Proofs.Qxb6612844a
open Go.RowKit Go.Maps Go.WideMaps

set_option maxHeartbeats 8000000 in
set_option maxRecDepth 400000 in
theorem law_yes_d (w : World) (id term : Int) (si : Nat) (st commit to mx : Int) (p : Nat) (B n nc mc : Nat) (A1 A2 : Option Addr) (T : Nat → Int) (RA : Nat → Option Addr) (RL RC : Nat → Nat) (Z : Nat → Nat → Int)
    (hRL : ∀ i, RL i ≤ 9223372036854775807) (hB : B ≤ w.heap.size) (h1 : Row w B .u64 A1 n T) (h2 : Cmds w B A2 n RA RL RC Z)
    (hp : p ≤ n) (hp0 : Hid (p = 0)) (hrem : Hid (p = n)) (hto : (Lit.int .u64 to).wf = true) (n1 : n ≤ 65536) (s1 : si + n < 18446744073709551615) (c1 : (si : Int) ≤ commit) (c2 : commit ≤ (si : Int) + (n : Int)) :
    Calls Try.prog 8 #[.int .u64 id, .int .u64 term, .int .i64 2, .int .u64 si, .int .u64 st, .slice A1 n nc, .slice A2 n mc, .int .u64 commit, .int .u64 to, .bool true, .int .u64 ((si : Int) + 1 + (p : Int)), .int .i64 mx] w fun e w' => e = .returned (.bool true) ∧ Below w.heap.size w w' := by
  have CB := bytes_any w B n n nc mc A1 A2 RA RL RC Z (.int .u64 id) (.int .u64 term) (.int .i64 2) (.int .u64 si) (.int .u64 st) (.int .u64 commit) (.int .u64 to) (.bool true) (.int .u64 ((si : Int) + 1 + (p : Int))) (.int .i64 mx) (by omega) (by omega) hRL h2
  have H1 : Hid (Row w B .u64 A1 n T) := h1
  have H2 : Hid (Cmds w B A2 n RA RL RC Z) := h2
  have HTO : Hid ((Lit.int .u64 to).wf = true) := hto
  have hmm := @run_makeMap Try.prog
  have q42 : ∀ (w : World) (a : Option Addr) (n c n' c' : Nat), (binOp .eql 42 (.slice a n c) (.slice none n' c')).run Try.prog w = .ok (.bool a.isNone) w := fun w a n c n' c' => Lib.run_eql_slice_nil w _ _ a n c n' c' Try.underlying42
  clear h1 h2 hRL hto
  have x1 : (si : Int) + 1 + (p : Int) ≤ (si : Int) + (n : Int) + 1 := by omega
  have s2 : (si : Int) ≤ (18446744073709551615 : Int) - (n : Int) - 1 := by omega
  have HK : Hid (keyOf Try.prog 22 (.int .u64 to) = some (.int .u64 to)) := keyOf_int_mk Try.underlying22 HTO.out
  go_enter Try.func8, Try.ntmps8
  go_wp2_with fail
  refine CB.mono ?_
  rintro _ _ ⟨rfl | ⟨rfl, hF⟩, rfl⟩
  · go_wp2
    go_ret
    exact ⟨rfl, Below.refl _ _⟩
  have HF : Hid (Fits n n RL) := hF
  clear hF CB
  go_wp2_with fail
  refine (logBytes_any w B n n nc mc A1 A2 RA RL RC Z n1 n1 HF.out H2.out).mono ?_
  rintro _ _ ⟨⟨t, rfl⟩, rfl⟩
  by_cases t1 : t ≤ 1048576
  case neg =>
    go_wp2
    go_ret
    exact ⟨rfl, Below.refl _ _⟩
  go_wp2_with fail
  refine (logOf_any w B n nc mc A1 A2 T RA RL RC Z n1 (fun j hj => by have := HF.out.each hj; omega) H1.out H2.out hB).mono ?_
  rintro _ w1 ⟨rfl, hb1, EA, EC, hLog⟩
  have HLg : Hid (Log w1 w1.heap.size w.heap.size n T EA RL EC Z) := hLog
  clear hLog
  have OWN : Hid ((w1.alloc (.map #[] 0)).ownsMap Try.prog 22 self w1.heap.size 0 (.map [])) := World.ownsMap_made _ _ _ _
  have HB1 : Hid (Below w.heap.size w (w1.alloc (.map #[] 0))) := hb1.alloc hb1.size _
  have hs1 : w.heap.size ≤ w1.heap.size := hb1.size
  clear hb1
  go_wp2_with (first
    | (at_mapUpdate; refine wpList_mapUpdate_own _ rfl _ _ _ 47 rfl 22 22 law22 Try.underlying47 self w1.heap.size 0 (.map []) rfl OWN.out (by unfold maxLen; omega) _ _ _ rfl rfl HK.out (.held (.int .u64 ((si : Int) + 1 + (p : Int)))) [] rfl ?_))
  intro w2 hown2 hgrow2
  have hb2 := HB1.out.grown hgrow2 HB1.out.size (fun j hj => by cases hj; exact hs1)
  have hm2 : w1.heap.size < w2.heap.size := by have := hgrow2.size; simp at this; omega
  have HB12 : Hid (Below w1.heap.size w1 w2) := ((Below.refl _ w1).alloc (Nat.le_refl _) _).grown hgrow2 (by simp) (fun j hj => by cases hj; exact Nat.le_refl _)
  have LK : Hid (Looks w2 (.map (some w1.heap.size)) to ((si : Int) + 1 + (p : Int)) true) := looks (has := true) (nx := (si : Int) + 1 + (p : Int)) (by exact hown2) hm2 HTO.out
  have HB2 : Hid (Below w.heap.size w w2) := hb2
  clear hown2 hgrow2 hb2 HB1 OWN hmm
  go_wp2_with fail
  refine (core_any w2 id term 2 si st commit _ n n _).mono ?_
  rintro _ w3 ⟨rfl, hC3, hb3⟩
  have L3 : Log w3 w3.heap.size w.heap.size n T EA RL EC Z := by
    have := (HLg.out.below (HB12.out.trans (hb3.mono HB12.out.size)) (Nat.le_refl _))
    exact ⟨Nat.lt_of_lt_of_le this.lt (Nat.le_trans HB12.out.size hb3.size), this.ent, fun j hj => (this.row j hj).mono (Nat.le_trans HB12.out.size hb3.size)⟩
  obtain ⟨tv, htv⟩ : ∃ tv, prevT st T p = tv := ⟨_, rfl⟩
  have HTV : Hid (prevT st T p = tv) := htv
  have CR := repl_yes w3 w2.heap.size id term si n n w.heap.size st commit _ to mx p ((si : Int) + (p : Int)) tv T EA RL EC Z hC3 (LK.out.below hb3) L3 hp n1 s1 (Nat.le_refl _) (fun j hj => by have := HF.out.each hj; omega)
    (fun k hk => by have h1 := Sz_le RL p k; have h2 := Sm_le (RL := RL) hk; have h3 := HF.out; unfold Fits at h3; omega) rfl (by rw [← htv]; exact term_prev hC3 L3 s1 n1 p hp)
  have HB3 : Hid (Below w.heap.size w w3) := HB2.out.trans (hb3.mono HB2.out.size)
  have HL3 : Hid (Log w3 w3.heap.size w.heap.size n T EA RL EC Z) := L3
  clear hC3 hb3 HB2 LK HB12 HLg L3 htv
  go_wp2_with fail
  refine CR.mono ?_
  rintro _ w4 ⟨A, q, c', rfl, hCnt, hE, hb4⟩
  have HCN : Hid (Cnt RL n p mx q) := hCnt
  have HE4 : Hid (Ents w4 w3.heap.size w4.heap.size A q p T EA RL EC) := hE
  have HB4 : Hid (Below w.heap.size w w4) := HB3.out.trans (hb4.mono HB3.out.size)
  have HL4 : Hid (Log w4 w3.heap.size w.heap.size n T EA RL EC Z) := HL3.out.below hb4 (Nat.le_refl _)
  have hs4 : w3.heap.size ≤ w4.heap.size := hb4.size
  clear hb4 HB3 CR hCnt hE HL3
  have hd1 : (si : Int) < (si : Int) + 1 + (p : Int) := by omega
  have wx : IntKind.u64.wrap ((si : Int) + 1 + (p : Int) - 1) = (si : Int) + (p : Int) := by rw [show (si : Int) + 1 + (p : Int) - 1 = (si : Int) + (p : Int) by omega]; exact wrapU _ (by omega) (by omega)
  have wx2 : (si : Int) + 1 + (p : Int) - 1 = (si : Int) + (p : Int) := by omega
  obtain ⟨w5, hw5⟩ : ∃ w5, w5 = w4.alloc (Obj.cells #[.int .u64 term, .int .u64 id, .int .u64 ((si : Int) + (p : Int)), .int .u64 tv, .slice A q c', .int .u64 commit] 49) := ⟨_, rfl⟩
  have hb5 : Below w4.heap.size w4 w5 := by rw [hw5]; exact (Below.refl _ _).alloc (Nat.le_refl _) _
  have HB5 : Hid (Below w.heap.size w w5) := HB4.out.trans (hb5.mono HB4.out.size)
  have HE5 : Hid (Ents w5 w3.heap.size w4.heap.size A q p T EA RL EC) := HE4.out.below hb5 (Nat.le_refl _)
  have HL5 : Hid (Log w5 w4.heap.size w.heap.size n T EA RL EC Z) := HL4.out.below hb5 hs4
  have hs5 : w4.heap.size < w5.heap.size := by rw [hw5]; simp
  have e53 : w5.cell? ⟨w4.heap.size, 3, none⟩ = some (.int .u64 tv) := by rw [hw5, cell_of_row _ _ _ _ _ (0, 0) (heap_alloc_last w4 _)]; rfl
  have e54 : w5.cell? ⟨w4.heap.size, 4, none⟩ = some (.slice A q c') := by rw [hw5, cell_of_row _ _ _ _ _ (0, 0) (heap_alloc_last w4 _)]; rfl
  have HW5 : Hid (w5 = w4.alloc (Obj.cells #[.int .u64 term, .int .u64 id, .int .u64 ((si : Int) + (p : Int)), .int .u64 tv, .slice A q c', .int .u64 commit] 49)) := hw5
  clear hb5 HE4 HL4 hw5
  have wb : (si : Int) + 1 + (p : Int) - (si : Int) - 1 = (p : Int) := by omega
  have hq1 := HCN.out.le
  have hq2 := HCN.out.one
  have hp0 := hp0.out
  have hpv : tv = st := by rw [← HTV.out, hp0]; simp [prevT]
  have HPV : Hid (prevT tv T p = tv) := by rw [← hpv] at HTV; exact HTV
  clear HTV
  subst hpv
  have HP0 : Hid (p = 0) := hp0
  clear e53 e54
  have q2' : Hid (p < n → 1 ≤ q) := hq2
  clear hq2
  have hrem := hrem.out
  have hqz : q = 0 := by omega
  have HQZ : Hid (q = 0) := hqz
  have HPN : Hid (p = n) := hrem
  have hse : ((si : Int) + (p : Int) == (si : Int)) = true := by simp; omega
  have hqe : ((q : Int) == 0) = true := by simp; omega
  have hrz : decide ((0 : Int) < (n : Int) - (p : Int)) = false := by simp; omega
  have hrz2 : ¬ ((0 : Int) < (n : Int) - (p : Int)) := by omega
  have hrz3 : (q : Int) ≤ (n : Int) - (p : Int) := by omega
  clear hqz hrem hp0
  go_wp2_with fail
  try simp only [hse, hqe]
  go_loopw [36, 37] (fun s i wr => ∃ k : Nat, k ≤ q ∧ s = .int .i64 (Sz RL p k : Nat) ∧ i = .int .i64 k ∧ Below w5.heap.size w5 wr) (fun s i _ => q - (intOf i).toNat)
  case atStart => exact ⟨0, Nat.zero_le _, rfl, rfl, by rw [HW5.out]; exact Below.refl _ _⟩
  case round =>
    obtain ⟨k, hk, rfl, rfl, hbr⟩ := hrel
    have HBR : Hid (Below w5.heap.size w5 wr) := hbr
    clear hbr
    by_cases hlt : k < q
    · have := HQZ.out; omega
    · have hkq : k = q := by omega
      subst hkq
      have HFi : Hid (2 ≤ k → (Sz RL p k : Int) ≤ mx) := HCN.out.fits
      have HFu : Hid (p + k < n → mx < (Sz RL p (k + 1) : Int)) := HCN.out.full
      have hSS : Hid (Sz RL p (k + 1) = Sz RL p k + (32 + RL (p + k))) := rfl
      have HXS : Hid (p + k ≤ n → Sz RL p k ≤ 3145728) := fun hk => by have h1 := Sz_le RL p k; have h2 := Sm_le (RL := RL) hk; have h3 := HF.out; unfold Fits at h3; omega
      have hX0 := HXS.out hq1
      generalize Sz RL p k = X at *
      have hBE : Below w.heap.size w wr := HB5.out.trans (HBR.out.mono HB5.out.size)
      have HBE : Hid (Below w.heap.size w wr) := hBE
      clear hBE
      have hfull : ¬ (p + k < n) := by have := HPN.out; omega
      have r1 : decide ((k : Int) < (n : Int) - (p : Int)) = false := by simp; omega
      have r2 : ¬ ((k : Int) < (n : Int) - (p : Int)) := by omega
      have g1 : decide ((2 : Int) ≤ (k : Int)) = false := by have := HQZ.out; simp; omega
      have g2 : (k : Int) < 2 := by have := HQZ.out; omega
      go_wp2
      go_ret
      exact ⟨rfl, HBE.out⟩

end Go.Proofs.Qxb6612844a
