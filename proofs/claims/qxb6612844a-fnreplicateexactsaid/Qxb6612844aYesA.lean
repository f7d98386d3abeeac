/-
  THE LAW, where Replicate grants: an entry ahead, and entries from it on.
-/
import Derived.Test.Qxb6612844aYes
set_option linter.unusedVariables false
set_option linter.unusedSimpArgs false
namespace Go.Proofs.Qxb6612844a
open Go.RowKit Go.Maps Go.WideMaps

set_option maxHeartbeats 8000000 in
set_option maxRecDepth 400000 in
theorem law_yes_a (w : World) (id term : Int) (si : Nat) (st commit to mx : Int) (p : Nat) (B n nc mc : Nat) (A1 A2 : Option Addr) (T : Nat → Int) (RA : Nat → Option Addr) (RL RC : Nat → Nat) (Z : Nat → Nat → Int)
    (hRL : ∀ i, RL i ≤ 9223372036854775807) (hB : B ≤ w.heap.size) (h1 : Row w B .u64 A1 n T) (h2 : Cmds w B A2 n RA RL RC Z)
    (hp : p ≤ n) (hp0 : p ≠ 0) (hrem : p < n) (hto : (Lit.int .u64 to).wf = true) (n1 : n ≤ 65536) (s1 : si + n < 18446744073709551615) (c1 : (si : Int) ≤ commit) (c2 : commit ≤ (si : Int) + (n : Int)) :
    Calls Try.prog 8 #[.int .u64 id, .int .u64 term, .int .i64 2, .int .u64 si, .int .u64 st, .slice A1 n nc, .slice A2 n mc, .int .u64 commit, .int .u64 to, .bool true, .int .u64 ((si : Int) + 1 + (p : Int)), .int .i64 mx] w fun e w' => e = .returned (.bool true) ∧ Below w.heap.size w w' := by
  have CB := bytes_any w B n n nc mc A1 A2 RA RL RC Z (.int .u64 id) (.int .u64 term) (.int .i64 2) (.int .u64 si) (.int .u64 st) (.int .u64 commit) (.int .u64 to) (.bool true) (.int .u64 ((si : Int) + 1 + (p : Int))) (.int .i64 mx) (by omega) (by omega) hRL h2
  have H1 : Hid (Row w B .u64 A1 n T) := h1
  have H2 : Hid (Cmds w B A2 n RA RL RC Z) := h2
  have HTO : Hid ((Lit.int .u64 to).wf = true) := hto
  have hmm := @run_makeMap Try.prog
  have q42 : ∀ (w : World) (a : Option Addr) (n c n' c' : Nat), (binOp .eql 42 (.slice a n c) (.slice none n' c')).run Try.prog w = .ok (.bool a.isNone) w := fun w a n c n' c' => Lib.run_eql_slice_nil w _ _ a n c n' c' Try.underlying42
  clear h1 h2 hRL hto
  have x1 : (si : Int) + 1 + (p : Int) ≤ (si : Int) + (n : Int) + 1 := by omega
  have s2 : (si : Int) ≤ (18446744073709551615 : Int) - (n : Int) - 1 := by omega
  have HK : Hid (keyOf Try.prog 22 (.int .u64 to) = some (.int .u64 to)) := keyOf_int_mk Try.underlying22 HTO.out
  go_enter Try.func8, Try.ntmps8
  go_wp2_with fail
  refine CB.mono ?_
  rintro _ _ ⟨rfl | ⟨rfl, hF⟩, rfl⟩
  · go_wp2
    go_ret
    exact ⟨rfl, Below.refl _ _⟩
  have HF : Hid (Fits n n RL) := hF
  clear hF CB
  go_wp2_with fail
  refine (logBytes_any w B n n nc mc A1 A2 RA RL RC Z n1 n1 HF.out H2.out).mono ?_
  rintro _ _ ⟨⟨t, rfl⟩, rfl⟩
  by_cases t1 : t ≤ 1048576
  case neg =>
    go_wp2
    go_ret
    exact ⟨rfl, Below.refl _ _⟩
  go_wp2_with fail
  refine (logOf_any w B n nc mc A1 A2 T RA RL RC Z n1 (fun j hj => by have := HF.out.each hj; omega) H1.out H2.out hB).mono ?_
  rintro _ w1 ⟨rfl, hb1, EA, EC, hLog⟩
  have HLg : Hid (Log w1 w1.heap.size w.heap.size n T EA RL EC Z) := hLog
  clear hLog
  have OWN : Hid ((w1.alloc (.map #[] 0)).ownsMap Try.prog 22 self w1.heap.size 0 (.map [])) := World.ownsMap_made _ _ _ _
  have HB1 : Hid (Below w.heap.size w (w1.alloc (.map #[] 0))) := hb1.alloc hb1.size _
  have hs1 : w.heap.size ≤ w1.heap.size := hb1.size
  clear hb1
  go_wp2_with (first
    | (at_mapUpdate; refine wpList_mapUpdate_own _ rfl _ _ _ 47 rfl 22 22 law22 Try.underlying47 self w1.heap.size 0 (.map []) rfl OWN.out (by unfold maxLen; omega) _ _ _ rfl rfl HK.out (.held (.int .u64 ((si : Int) + 1 + (p : Int)))) [] rfl ?_))
  intro w2 hown2 hgrow2
  have hb2 := HB1.out.grown hgrow2 HB1.out.size (fun j hj => by cases hj; exact hs1)
  have hm2 : w1.heap.size < w2.heap.size := by have := hgrow2.size; simp at this; omega
  have HB12 : Hid (Below w1.heap.size w1 w2) := ((Below.refl _ w1).alloc (Nat.le_refl _) _).grown hgrow2 (by simp) (fun j hj => by cases hj; exact Nat.le_refl _)
  have LK : Hid (Looks w2 (.map (some w1.heap.size)) to ((si : Int) + 1 + (p : Int)) true) := looks (has := true) (nx := (si : Int) + 1 + (p : Int)) (by exact hown2) hm2 HTO.out
  have HB2 : Hid (Below w.heap.size w w2) := hb2
  clear hown2 hgrow2 hb2 HB1 OWN hmm
  go_wp2_with fail
  refine (core_any w2 id term 2 si st commit _ n n _).mono ?_
  rintro _ w3 ⟨rfl, hC3, hb3⟩
  have L3 : Log w3 w3.heap.size w.heap.size n T EA RL EC Z := by
    have := (HLg.out.below (HB12.out.trans (hb3.mono HB12.out.size)) (Nat.le_refl _))
    exact ⟨Nat.lt_of_lt_of_le this.lt (Nat.le_trans HB12.out.size hb3.size), this.ent, fun j hj => (this.row j hj).mono (Nat.le_trans HB12.out.size hb3.size)⟩
  obtain ⟨tv, htv⟩ : ∃ tv, prevT st T p = tv := ⟨_, rfl⟩
  have HTV : Hid (prevT st T p = tv) := htv
  have CR := repl_yes w3 w2.heap.size id term si n n w.heap.size st commit _ to mx p ((si : Int) + (p : Int)) tv T EA RL EC Z hC3 (LK.out.below hb3) L3 hp n1 s1 (Nat.le_refl _) (fun j hj => by have := HF.out.each hj; omega)
    (fun k hk => by have h1 := Sz_le RL p k; have h2 := Sm_le (RL := RL) hk; have h3 := HF.out; unfold Fits at h3; omega) rfl (by rw [← htv]; exact term_prev hC3 L3 s1 n1 p hp)
  have HB3 : Hid (Below w.heap.size w w3) := HB2.out.trans (hb3.mono HB2.out.size)
  have HL3 : Hid (Log w3 w3.heap.size w.heap.size n T EA RL EC Z) := L3
  clear hC3 hb3 HB2 LK HB12 HLg L3 htv
  go_wp2_with fail
  refine CR.mono ?_
  rintro _ w4 ⟨A, q, c', rfl, hCnt, hE, hb4⟩
  have HCN : Hid (Cnt RL n p mx q) := hCnt
  have HE4 : Hid (Ents w4 w3.heap.size w4.heap.size A q p T EA RL EC) := hE
  have HB4 : Hid (Below w.heap.size w w4) := HB3.out.trans (hb4.mono HB3.out.size)
  have HL4 : Hid (Log w4 w3.heap.size w.heap.size n T EA RL EC Z) := HL3.out.below hb4 (Nat.le_refl _)
  have hs4 : w3.heap.size ≤ w4.heap.size := hb4.size
  clear hb4 HB3 CR hCnt hE HL3
  have hd1 : (si : Int) < (si : Int) + 1 + (p : Int) := by omega
  have wx : IntKind.u64.wrap ((si : Int) + 1 + (p : Int) - 1) = (si : Int) + (p : Int) := by rw [show (si : Int) + 1 + (p : Int) - 1 = (si : Int) + (p : Int) by omega]; exact wrapU _ (by omega) (by omega)
  have wx2 : (si : Int) + 1 + (p : Int) - 1 = (si : Int) + (p : Int) := by omega
  obtain ⟨w5, hw5⟩ : ∃ w5, w5 = w4.alloc (Obj.cells #[.int .u64 term, .int .u64 id, .int .u64 ((si : Int) + (p : Int)), .int .u64 tv, .slice A q c', .int .u64 commit] 49) := ⟨_, rfl⟩
  have hb5 : Below w4.heap.size w4 w5 := by rw [hw5]; exact (Below.refl _ _).alloc (Nat.le_refl _) _
  have HB5 : Hid (Below w.heap.size w w5) := HB4.out.trans (hb5.mono HB4.out.size)
  have HE5 : Hid (Ents w5 w3.heap.size w4.heap.size A q p T EA RL EC) := HE4.out.below hb5 (Nat.le_refl _)
  have HL5 : Hid (Log w5 w4.heap.size w.heap.size n T EA RL EC Z) := HL4.out.below hb5 hs4
  have hs5 : w4.heap.size < w5.heap.size := by rw [hw5]; simp
  have e53 : w5.cell? ⟨w4.heap.size, 3, none⟩ = some (.int .u64 tv) := by rw [hw5, cell_of_row _ _ _ _ _ (0, 0) (heap_alloc_last w4 _)]; rfl
  have e54 : w5.cell? ⟨w4.heap.size, 4, none⟩ = some (.slice A q c') := by rw [hw5, cell_of_row _ _ _ _ _ (0, 0) (heap_alloc_last w4 _)]; rfl
  have HW5 : Hid (w5 = w4.alloc (Obj.cells #[.int .u64 term, .int .u64 id, .int .u64 ((si : Int) + (p : Int)), .int .u64 tv, .slice A q c', .int .u64 commit] 49)) := hw5
  clear hb5 HE4 HL4 hw5
  have wb : (si : Int) + 1 + (p : Int) - (si : Int) - 1 = (p : Int) := by omega
  have hq1 := HCN.out.le
  have hq2 := HCN.out.one
  obtain ⟨p1, hp1⟩ : ∃ p1, p = p1 + 1 := ⟨p - 1, by omega⟩
  have hpv : T p1 = tv := by rw [← HTV.out, hp1]; simp [prevT]
  obtain ⟨b1, o1, rfl, hb1, hc1⟩ := H1.out.at' p1 (by omega)
  have eT : w5.cell? ⟨b1, o1 + p1, none⟩ = some (.int .u64 tv) := by rw [← hpv]; exact (HB5.out.cell (p := ⟨b1, o1 + p1, none⟩) (Nat.lt_of_lt_of_le hb1 hB)).trans (hc1 p1 (by omega))
  rw [HW5.out] at eT
  have wi : (si : Int) + (p : Int) - (si : Int) - 1 = (p1 : Int) := by omega
  have k0 : (0 : Int) ≤ (p1 : Int) := by omega
  have k1 : (p1 : Int) < (n : Int) := by omega
  have HP1 : Hid (p = p1 + 1) := hp1
  clear hp1 hc1 hpv e53 e54
  have q2' : Hid (p < n → 1 ≤ q) := hq2
  clear hq2
  have hq3 := q2'.out hrem
  have hse : ((si : Int) + (p : Int) == (si : Int)) = false := by simp; omega
  have hqe : ((q : Int) == 0) = false := by simp; omega
  go_wp2_with fail
  try simp only [hse, hqe]
  go_loopw [36, 37] (fun s i wr => ∃ k : Nat, k ≤ q ∧ s = .int .i64 (Sz RL p k : Nat) ∧ i = .int .i64 k ∧ Below w5.heap.size w5 wr) (fun s i _ => q - (intOf i).toNat)
  case atStart => exact ⟨0, Nat.zero_le _, rfl, rfl, by rw [HW5.out]; exact Below.refl _ _⟩
  case round =>
    obtain ⟨k, hk, rfl, rfl, hbr⟩ := hrel
    have HBR : Hid (Below w5.heap.size w5 wr) := hbr
    clear hbr eT
    by_cases hlt : k < q
    · obtain ⟨g, rfl, hg0, hg1, hgr⟩ := HE5.out.at' k hlt
      have hpkn : p + k < n := by omega
      obtain ⟨b2, o2, rfl, hb2, hc2⟩ := H2.out.at' (p + k) hpkn
      have hpkn' : p + k < n := hpkn
      obtain ⟨e, he⟩ : ∃ e, e = p + k := ⟨_, rfl⟩
      have hgr0 := hgr k hlt
      rw [← he] at hpkn hgr0
      have a0 : wr.cell? ⟨g, k * 4, none⟩ = some (.int .u64 (T e)) := (HBR.out.cell (p := ⟨g, k * 4, none⟩) (show g < _ by omega)).trans (hgr0 0 _ rfl)
      have a1 : wr.cell? ⟨g, k * 4 + 1, none⟩ = some (.slice (EA e) (RL e) (EC e)) := (HBR.out.cell (p := ⟨g, k * 4 + 1, none⟩) (show g < _ by omega)).trans (hgr0 1 _ rfl)
      have a2 : wr.cell? ⟨g, k * 4 + 2, none⟩ = some (.int .u8 0) := (HBR.out.cell (p := ⟨g, k * 4 + 2, none⟩) (show g < _ by omega)).trans (hgr0 2 _ rfl)
      have a3 : wr.cell? ⟨g, k * 4 + 3, none⟩ = some (.pointer none) := (HBR.out.cell (p := ⟨g, k * 4 + 3, none⟩) (show g < _ by omega)).trans (hgr0 3 _ rfl)
      have a4 := (HBR.out.cell (p := ⟨w4.heap.size, 4, none⟩) hs5).trans (show w5.cell? ⟨w4.heap.size, 4, none⟩ = _ by rw [HW5.out, cell_of_row _ _ _ _ _ (0, 0) (heap_alloc_last w4 _)]; try rfl)
      have hpk : (p : Int) + (k : Int) = (e : Int) := by omega
      have wpk : IntKind.i64.wrap ((p : Int) + (k : Int)) = (e : Int) := by rw [hpk, IntKind.wrap_i64]; omega
      have wee : IntKind.i64.wrap (e : Int) = (e : Int) := by rw [IntKind.wrap_i64]; omega
      have e0 : (0 : Int) ≤ (e : Int) := by omega
      have e1 : (e : Int) < (n : Int) := by omega
      have hRe : RL e ≤ 1048576 := by have := HF.out.each hpkn; omega
      have HW6 : Hid (∀ W, Below wr.heap.size wr W → Below w.heap.size w W) := fun W hb => (HB5.out.trans (HBR.out.mono HB5.out.size)).trans (hb.mono (Nat.le_trans HB5.out.size HBR.out.size))
      have CS : Hid (∀ W, Below wr.heap.size wr W → Calls Try.prog 31 #[.slice (EA e) (RL e) (EC e), .slice (RA e) (RL e) (RC e)] W fun r w' => r = .returned (.bool true) ∧ Below W.heap.size W w') := fun W hb =>
        same_any W w4.heap.size B (RL e) (EC e) (RC e) (EA e) (RA e) (Z e) hRe (Nat.le_trans (Nat.le_of_lt hs5) (Nat.le_trans HBR.out.size hb.size)) (Nat.le_trans hB ((HW6.out W hb).size))
          (((HL5.out.row e hpkn).below (HBR.out.mono (Nat.le_of_lt hs5))).below (hb.mono (Nat.le_trans (Nat.le_of_lt hs5) HBR.out.size))) ((H2.out.row e hpkn).below ((HW6.out W hb).mono hB))
      have MK : Hid (∀ W, Below (wr.heap.size + 1) (wr.alloc (Obj.cells #[.int .u64 (T e), .slice (EA e) (RL e) (EC e), .int .u8 0, .pointer none] 61)) W → SQ wr wr.heap.size b1 o1 b2 o2 e (T e) (EA e) (RA e) (RL e) (EC e) (RC e) W) := fun W hb => by
        have hw : Below wr.heap.size wr W := ((Below.refl _ wr).alloc (Nat.le_refl _) _).trans (hb.mono (Nat.le_succ _))
        have hw0 := HW6.out W hw
        have hx : ∀ i v, (entC T EA RL EC e)[i]? = some v → W.cell? ⟨wr.heap.size, i, none⟩ = some v := fun i v hv => (hb.cell (p := ⟨wr.heap.size, i, none⟩) (Nat.lt_succ_self _)).trans (by rw [cell_of_row _ _ _ _ _ (0, 0) (heap_alloc_last wr _)]; simpa [entC] using hv)
        have h3 := row_cell H1.out e hpkn
        have h4 := cmds_cell H2.out e hpkn
        exact ⟨hx 0 _ rfl, hx 1 _ rfl, hx 2 _ rfl, hx 3 _ rfl, (hw0.cell (p := ⟨b1, o1 + e, none⟩) (Nat.lt_of_lt_of_le h3.1 hB)).trans h3.2, (hw0.cell (p := ⟨b2, o2 + e, none⟩) (Nat.lt_of_lt_of_le h4.1 hB)).trans h4.2, hw⟩
      have HEE : Hid (e = p + k) := he
      clear he hgr hgr0 hc2
      have HZE : Hid (Sz RL p (k + 1) = Sz RL p k + (32 + RL e)) := by rw [HEE.out]; exact rfl
      have hSZ : Sz RL p (k + 1) ≤ 3145728 := by have h1 := Sz_le RL p (k + 1); have h2 := Sm_le (RL := RL) (show p + (k + 1) ≤ n by omega); have h3 := HF.out; unfold Fits at h3; omega
      have hSZ2 : Sz RL p k + (32 + RL e) ≤ 3145728 := by rw [HZE.out] at hSZ; exact hSZ
      clear hSZ
      go_wp2_with fail
      have hW6 : Hid (Below wr.heap.size wr (wr.alloc (Obj.cells #[Value.int .u64 (T e), Value.slice (EA e) (RL e) (EC e), Value.int .u8 0, Value.pointer none] 61))) := (Below.refl _ wr).alloc (Nat.le_refl _) _
      have hS6 : Hid (wr.heap.size + 1 = (wr.alloc (Obj.cells #[Value.int .u64 (T e), Value.slice (EA e) (RL e) (EC e), Value.int .u8 0, Value.pointer none] 61)).heap.size) := by show _ = _; simp
      generalize wr.alloc (Obj.cells #[Value.int .u64 (T e), Value.slice (EA e) (RL e) (EC e), Value.int .u8 0, Value.pointer none] 61) = W6 at *
      have HB6 : Hid (Below (wr.heap.size + 1) W6 W6) := Below.refl _ _
      have CS6 : Hid (∀ W, Below (wr.heap.size + 1) W6 W → Calls Try.prog 31 #[.slice (EA e) (RL e) (EC e), .slice (RA e) (RL e) (RC e)] W fun r w' => r = .returned (.bool true) ∧ Below (wr.heap.size + 1) W6 w') := fun W hb =>
        (CS.out W (hW6.out.trans (hb.mono (Nat.le_succ _)))).mono fun _ w' h => ⟨h.1, hb.trans (h.2.mono (by rw [hS6.out]; exact hb.size))⟩
      have hS := MK.out W6 HB6.out
      clear CS
      go_region_held3 (SQ wr wr.heap.size b1 o1 b2 o2 e (T e) (EA e) (RA e) (RL e) (EC e) (RC e))
        (first
          | with_reducible exact MK.out _ HB7.out
          | with_reducible exact MK.out _ (Below.drew HB7.out)
          | with_reducible exact MK.out _ HB6.out
          | with_reducible exact MK.out _ (Below.drew HB6.out))
        (first
          | (go_at_call 31
             refine (CS6.out _ (by first | exact HB6.out | exact Below.drew HB6.out)).mono ?_
             rintro _ w7 ⟨rfl, hb7⟩
             have HB7 : Hid (Below (wr.heap.size + 1) W6 w7) := hb7
             clear hb7))
      go_wp2
      go_roundw
      case rel =>
        refine ⟨k + 1, hlt, ?_, ?_, HBR.out.trans (Below.mono (hW6.out.trans (Below.mono (by first | exact HB7.out | exact Below.drew HB7.out) (Nat.le_succ _))) HBR.out.size)⟩
        · rw [HZE.out]; simp
        · simp
      case measure => simp [intOf]; omega
    · have hkq : k = q := by omega
      subst hkq
      have HFi : Hid (2 ≤ k → (Sz RL p k : Int) ≤ mx) := HCN.out.fits
      have HFu : Hid (p + k < n → mx < (Sz RL p (k + 1) : Int)) := HCN.out.full
      have hSS : Hid (Sz RL p (k + 1) = Sz RL p k + (32 + RL (p + k))) := rfl
      have HXS : Hid (p + k ≤ n → Sz RL p k ≤ 3145728) := fun hk => by have h1 := Sz_le RL p k; have h2 := Sm_le (RL := RL) hk; have h3 := HF.out; unfold Fits at h3; omega
      have hX0 := HXS.out hq1
      generalize Sz RL p k = X at *
      have hBE : Below w.heap.size w wr := HB5.out.trans (HBR.out.mono HB5.out.size)
      have HBE : Hid (Below w.heap.size w wr) := hBE
      clear hBE
      by_cases hfull : p + k < n
      · obtain ⟨b2, o2, rfl, hb2, hc2⟩ := H2.out.at' (p + k) hfull
        have hR := HF.out.each hfull
        have hR2 : RL (p + k) ≤ 1048576 := by omega
        have e2 := (HBE.out.cell (p := ⟨b2, o2 + (p + k), none⟩) (Nat.lt_of_lt_of_le hb2 hB)).trans (hc2 (p + k) hfull)
        have hfu := HFu.out hfull
        rw [hSS.out] at hfu
        have hfu2 : mx < (X : Int) + 32 + (RL (p + k) : Int) := by omega
        have r1 : (k : Int) < (n : Int) - (p : Int) := by omega
        clear hc2 hR hfu hSS HFu
        obtain ⟨e, he⟩ : ∃ e, e = p + k := ⟨_, rfl⟩
        rw [← he] at e2 hR2 hfu2
        have hpk : (p : Int) + (k : Int) = (e : Int) := by omega
        have e0 : (0 : Int) ≤ (e : Int) := by omega
        have e1 : (e : Int) < (n : Int) := by omega
        have HEE : Hid (e = p + k) := he
        clear he
        by_cases h2 : 2 ≤ k
        · have hfi := HFi.out h2
          have g1 : (2 : Int) ≤ (k : Int) := by omega
          go_wp2
          go_ret
          exact ⟨rfl, HBE.out⟩
        · have g1 : decide ((2 : Int) ≤ (k : Int)) = false := by simp; omega
          have g2 : (k : Int) < 2 := by omega
          go_wp2
          go_ret
          exact ⟨rfl, HBE.out⟩
      · have r1 : decide ((k : Int) < (n : Int) - (p : Int)) = false := by simp; omega
        have r2 : ¬ ((k : Int) < (n : Int) - (p : Int)) := by omega
        by_cases h2 : 2 ≤ k
        · have hfi := HFi.out h2
          have g1 : (2 : Int) ≤ (k : Int) := by omega
          go_wp2
          go_ret
          exact ⟨rfl, HBE.out⟩
        · have g1 : decide ((2 : Int) ≤ (k : Int)) = false := by simp; omega
          have g2 : (k : Int) < 2 := by omega
          go_wp2
          go_ret
          exact ⟨rfl, HBE.out⟩

end Go.Proofs.Qxb6612844a
