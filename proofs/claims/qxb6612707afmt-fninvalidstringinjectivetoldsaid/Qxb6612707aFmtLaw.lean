import Derived.Test.Qxb6612707aFmtWalks
namespace Go.Proofs.Qxb6612707aFmt
open Go.RowKit Go.Extern.Stop Go.Stop Go.Extern

/-- What the law wants of one message. -/
structure MsgOk (M d : ByteArray) : Prop where
  len : M.size ≤ 20000000
  pl : pre34.size ≤ M.size
  pe : ((M.extract 0 pre34.size).toList == pre34.toList) = true
  sl : (cut34 ++ d).size ≤ M.size
  se : ((M.extract (M.size - (cut34 ++ d).size) M.size).toList == (cut34 ++ d).toList) = true

set_option maxHeartbeats 1000000 in
theorem law_small (F : Interp) (f s1 s2 d1 d2 : ByteArray) (w : World) (hF : F.answers w.tape)
    (h0 : f.size ≤ 131072) (h1 : s1.size ≤ 131072) (h2 : s2.size ≤ 131072) (h3 : d1.size ≤ 131072) (h4 : d2.size ≤ 131072) (M1 M2 : ByteArray)
    (e1 : pre ++ FmtStop.textOf (F "fmt.Sprintf" (rdg s1.data.toList d1.data.toList) 0) = M1) (e2 : pre ++ FmtStop.textOf (F "fmt.Sprintf" (rdg s2.data.toList d2.data.toList) 0) = M2)
    (t1 : (FmtStop.textOf (F "fmt.Sprintf" (rdg s1.data.toList d1.data.toList) 0)).size ≤ 10000000) (t2 : (FmtStop.textOf (F "fmt.Sprintf" (rdg s2.data.toList d2.data.toList) 0)).size ≤ 10000000)
    (k1 : MsgOk M1 d1) (k2 : MsgOk M2 d2) (bs bd : Bool) (hs : (s1.toList == s2.toList) = bs) (hd : (d1.toList == d2.toList) = bd) (hm : (M1.toList == M2.toList) = (bs && bd)) :
    Calls Tryf.prog 3 #[.string f, .string s1, .string s2, .string d1, .string d2] w fun e w' => e = .returned (.bool true) ∧ Below w.heap.size w w' := by
  have g0 : f.size ≤ maxLen := by unfold maxLen; omega
  have g1 : s1.size ≤ maxLen := by unfold maxLen; omega
  have g2 : s2.size ≤ maxLen := by unfold maxLen; omega
  have g3 : d1.size ≤ maxLen := by unfold maxLen; omega
  have g4 : d2.size ≤ maxLen := by unfold maxLen; omega
  have ca : ∀ w1 : World, F.answers w1.tape → Calls Tryf.prog 5 #[.string f, .string s1, .string d1] w1 fun e w' => e = .returned (.agg #[.string rsn, .string M1, .string f]) ∧ Below w1.heap.size w1 w' := by
    intro w1 hw; rw [← e1]; exact inv_any F f s1 d1 w1 hw t1
  have cb : ∀ w1 : World, F.answers w1.tape → Calls Tryf.prog 5 #[.string f, .string s2, .string d2] w1 fun e w' => e = .returned (.agg #[.string rsn, .string M2, .string f]) ∧ Below w1.heap.size w1 w' := by
    intro w1 hw; rw [← e2]; exact inv_any F f s2 d2 w1 hw t2
  have CA : Hid (∀ w1 : World, F.answers w1.tape → Calls Tryf.prog 5 #[.string f, .string s1, .string d1] w1 fun e w' => e = .returned (.agg #[.string rsn, .string M1, .string f]) ∧ Below w1.heap.size w1 w') := ca
  have CB : Hid (∀ w1 : World, F.answers w1.tape → Calls Tryf.prog 5 #[.string f, .string s2, .string d2] w1 fun e w' => e = .returned (.agg #[.string rsn, .string M2, .string f]) ∧ Below w1.heap.size w1 w') := cb
  have HF : Hid (F.answers w.tape) := hF
  clear ca cb e1 e2 t1 t2 hF
  cases bs <;> cases bd <;> simp only [Bool.and_true, Bool.and_false] at hm
  all_goals
    go_enter Tryf.func3, Tryf.ntmps3
    go_wp2_with (first | (go_at_call 4; refine (bytes_any _ _ _ _ _ _ g0 g1 g2 g3 g4).mono ?_; rintro e w' ⟨b, rfl, rfl⟩; cases b))
    · go_ret
      exact ⟨rfl, Below.refl _ _⟩
    refine (CA.out _ (by exact HF.out)).mono ?_
    rintro e wa ⟨rfl, hba⟩
    go_wp2_with fail
    refine (CB.out _ (by show F.answers wa.tape; rw [hba.tape]; exact HF.out)).mono ?_
    rintro e wb ⟨rfl, hbb⟩
    obtain ⟨hc, hf⟩ := bcell hbb
    have hz : wa.heap.size < wb.heap.size := by have := hbb.size; simp at this; omega
    clear CA CB HF
    go_wp2_with fail
    refine (pfx_any M1 _ _ (Nat.le_trans k1.len (by decide)) k1.pl k1.pe).mono ?_
    rintro e wc ⟨rfl, rfl⟩
    go_wp2_with fail
    refine (sfx_any M1 _ _ (Nat.le_trans k1.len (by decide)) k1.sl k1.se).mono ?_
    rintro e wc ⟨rfl, rfl⟩
    go_wp2_with fail
    refine (pfx_any M2 _ _ (Nat.le_trans k2.len (by decide)) k2.pl k2.pe).mono ?_
    rintro e wc ⟨rfl, rfl⟩
    go_wp2_with fail
    refine (sfx_any M2 _ _ (Nat.le_trans k2.len (by decide)) k2.sl k2.se).mono ?_
    rintro e wc ⟨rfl, rfl⟩
    go_wp2_with fail
    go_ret
    exact ⟨rfl, ((hba.alloc hba.size _).trans (hbb.mono (by have := hba.size; simp; omega))).alloc (by have := hba.size; omega) _⟩

end Go.Proofs.Qxb6612707aFmt
