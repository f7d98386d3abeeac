/-
  THE WALKS: each Go function on the road, by a contract of its own.
-/
import Derived.Test.Qxb6612707aFmtCards
import Derived.Test.Qxb6612707aFmtFmt
import Derived.WalkKit
import Derived.WalkSpells
namespace Go.Proofs.Qxb6612707aFmt
open Go.RowKit Go.Extern.Stop Go.Stop Go.Extern

/-- WHAT fmt IS ASKED. -/
def rdg (s d : List UInt8) : List (List UInt8) :=
  [[37, 35, 118, 58, 32, 37, 115], Tryf.shape9, FmtStop.pack s, Tryf.shape9, FmtStop.pack d]

abbrev rsn : ByteArray := { data := #[70, 105, 101, 108, 100, 86, 97, 108, 117, 101, 73, 110, 118, 97, 108, 105, 100] }
abbrev pre : ByteArray := { data := #[73, 110, 118, 97, 108, 105, 100, 32, 118, 97, 108, 117, 101, 58, 32] }

theorem bcell {W w1 : World} (hb : Below W.heap.size W w1) : (∀ b o, b < W.heap.size → w1.cell? ⟨b, o, none⟩ = W.cell? ⟨b, o, none⟩) ∧ (∀ b o, b < W.heap.size → w1.frozen? ⟨b, o, none⟩ = W.frozen? ⟨b, o, none⟩) :=
  ⟨fun b o h => hb.cell (p := ⟨b, o, none⟩) h, fun b o h => hb.frozen (p := ⟨b, o, none⟩) h⟩

abbrev cells0 : Obj := .cells #[.string { data := #[] }, .string { data := #[] }, .string { data := #[] }] 24

set_option maxHeartbeats 400000 in
theorem field_any (f d : ByteArray) (w : World) (hd : d.size ≤ 10000000) :
    Calls Tryf.prog 9 #[.string f, .string d] w fun e w' => e = .returned (.agg #[.string rsn, .string (pre ++ d), .string f]) ∧ w.alloc (.cells #[.string rsn, .string (pre ++ d), .string f] 24) = w' := by
  go_enter Tryf.func9, Tryf.ntmps9
  go_wp2
  exact bodyPost_ret (v := .agg #[.string rsn, .string (pre ++ d), .string f]) (by simp [results, Tryf.results9, go_sem]) rfl ⟨rfl, rfl⟩

set_option maxHeartbeats 400000 in
theorem invalid_any (F : Interp) (f s d : ByteArray) (w : World) (hF : F.answers w.tape) (hT : (FmtStop.textOf (F "fmt.Sprintf" (rdg s.data.toList d.data.toList) 0)).size ≤ 10000000) :
    Calls Tryf.prog 8 #[.string f, .iface 9 (.string s), .string d] w fun e w' => e = .returned (.agg #[.string rsn, .string (pre ++ FmtStop.textOf (F "fmt.Sprintf" (rdg s.data.toList d.data.toList) 0)), .string f]) ∧ Below w.heap.size w w' := by
  have hF' := answers_open hF
  go_enter Tryf.func8, Tryf.ntmps8
  go_wp2_with (first | (go_at_call 9; refine (field_any _ _ _ (by exact hT)).mono ?_; rintro e w' ⟨rfl, rfl⟩))
  refine bodyPost_ret (v := .agg #[.string rsn, .string (pre ++ FmtStop.textOf (F "fmt.Sprintf" (rdg s.data.toList d.data.toList) 0)), .string f]) (by simp [results, Tryf.results8, go_sem, rdg]) rfl ⟨rfl, ?_⟩
  exact ((((Below.refl _ _).alloc (Nat.le_refl _) _).alloc (by simp) _).alloc (by simp; omega) _).drew

set_option maxHeartbeats 400000 in
theorem inv_any (F : Interp) (f s d : ByteArray) (w : World) (hF : F.answers w.tape) (hT : (FmtStop.textOf (F "fmt.Sprintf" (rdg s.data.toList d.data.toList) 0)).size ≤ 10000000) :
    Calls Tryf.prog 5 #[.string f, .string s, .string d] w fun e w' => e = .returned (.agg #[.string rsn, .string (pre ++ FmtStop.textOf (F "fmt.Sprintf" (rdg s.data.toList d.data.toList) 0)), .string f]) ∧ Below w.heap.size w w' := by
  go_enter Tryf.func5, Tryf.ntmps5
  go_wp2_with (first | (go_at_call 8; refine (invalid_any F _ _ _ _ (by exact hF) hT).mono ?_; rintro e w' ⟨rfl, hb⟩; obtain ⟨hc, hf⟩ := bcell hb))
  refine bodyPost_ret (v := .agg #[.string rsn, .string (pre ++ FmtStop.textOf (F "fmt.Sprintf" (rdg s.data.toList d.data.toList) 0)), .string f]) (by simp [results, Tryf.results5, go_sem, hc]) rfl ⟨rfl, ?_⟩
  exact ((((((Below.refl _ _).alloc (Nat.le_refl _) _).trans (hb.mono (by simp))).setCell (by simp) _).setCell (by simp) _).setCell (by simp) _)

set_option maxHeartbeats 400000 in
theorem bytes_any (f s1 s2 d1 d2 : ByteArray) (w : World) (h0 : f.size ≤ maxLen) (h1 : s1.size ≤ maxLen) (h2 : s2.size ≤ maxLen) (h3 : d1.size ≤ maxLen) (h4 : d2.size ≤ maxLen) :
    Calls Tryf.prog 4 #[.string f, .string s1, .string s2, .string d1, .string d2] w fun e w' => ∃ b, e = .returned (.bool b) ∧ w = w' := by
  unfold maxLen at h0 h1 h2 h3 h4
  go_enter Tryf.func4, Tryf.ntmps4
  go_wp2
  all_goals (go_ret; exact ⟨_, rfl, rfl⟩)

set_option maxHeartbeats 400000 in
theorem pfx_any (s p : ByteArray) (w : World) (_h0 : s.size ≤ maxLen) (hl : p.size ≤ s.size) (he : ((s.extract 0 p.size).toList == p.toList) = true) :
    Calls Tryf.prog 6 #[.string s, .string p] w fun e w' => e = .returned (.bool true) ∧ w = w' := by
  unfold maxLen at _h0
  go_enter Tryf.func6, Tryf.ntmps6
  go_wp2
  go_ret
  exact ⟨rfl, rfl⟩

set_option maxHeartbeats 400000 in
theorem sfx_any (s p : ByteArray) (w : World) (h0 : s.size ≤ maxLen) (hl : p.size ≤ s.size) (he : ((s.extract (s.size - p.size) s.size).toList == p.toList) = true) :
    Calls Tryf.prog 7 #[.string s, .string p] w fun e w' => e = .returned (.bool true) ∧ w = w' := by
  unfold maxLen at h0
  go_enter Tryf.func7, Tryf.ntmps7
  go_wp2
  go_ret
  exact ⟨rfl, rfl⟩

abbrev pre34 : ByteArray := { data := #[73, 110, 118, 97, 108, 105, 100, 32, 118, 97, 108, 117, 101, 58, 32, 34] }
abbrev cut34 : ByteArray := { data := #[34, 58, 32] }

set_option maxHeartbeats 400000 in
theorem law_big (f s1 s2 d1 d2 : ByteArray) (w : World) (h0 : f.size ≤ maxLen) (h1 : s1.size ≤ maxLen) (h2 : s2.size ≤ maxLen) (h3 : d1.size ≤ maxLen) (h4 : d2.size ≤ maxLen)
    (hbig : ¬ (f.size ≤ 131072 ∧ s1.size ≤ 131072 ∧ s2.size ≤ 131072 ∧ d1.size ≤ 131072 ∧ d2.size ≤ 131072)) :
    Calls Tryf.prog 3 #[.string f, .string s1, .string s2, .string d1, .string d2] w fun e w' => e = .returned (.bool true) ∧ Below w.heap.size w w' := by
  have g0 := h0; have g1 := h1; have g2 := h2; have g3 := h3; have g4 := h4
  unfold maxLen at h0 h1 h2 h3 h4
  go_enter Tryf.func3, Tryf.ntmps3
  go_wp2_with (first | (go_at_call 4; refine (bytes_any _ _ _ _ _ _ g0 g1 g2 g3 g4).mono ?_; rintro e w' ⟨b, rfl, rfl⟩; cases b))
  all_goals (first | (exfalso; omega) | (go_ret; exact ⟨rfl, Below.refl _ _⟩))

end Go.Proofs.Qxb6612707aFmt
