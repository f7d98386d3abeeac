/-
  THE TOLD ROW: fmt's text of the two operands, told by the kit's own function; the plain law on the messages; the row; the card.
-/
import Derived.Test.Qxb6612707aFmtLaw
import Derived.Test.Qxb6612707aFmtQuote
import Derived.ProofKit
import Derived.OpenShut
import Derived.Stop.JoinedAt
import Derived.Stop.Texts
import Derived.Stop.JoinedTold
import Derived.Stop.FmtQuoteTie
import Derived.Stop.FmtTextKit
import Derived.SizedLaws
import Derived.SevenToldRow
import Derived.Lib.Strings
namespace Go.Proofs.Qxb6612707aFmt
open Go.ChangeShapes Go.WideShapes Go.ChangeAt Go.RowKit Go.Kit
open Go.ChangeMaps (open_string shut_string)
open Go.Extern.Stop Go.Stop Go.Extern

theorem Tryf.own : ownKnob Tryf.prog.godebug = none := by kernel_rfl

theorem len_data (b : ByteArray) : b.data.toList.length = b.size := Array.length_toList

def tText (s d : List UInt8) : List UInt8 := FmtText.quote false s ++ ([58, 32] ++ d)

theorem t_parse : (FmtText.parse [37, 35, 118, 58, 32, 37, 115]).map FmtText.glue = some [.verb { sharpV := true } 118, .lit [58, 32], .verb {} 115] := by rfl

theorem t_text (s d : List UInt8) (hs : s.length < 2 ^ 64) (hd : d.length < 2 ^ 64) : FmtText.text "fmt.Sprintf" (rdg s d) = some (tText s d) := by
  have h1 := FmtText.operand_str_at (sh := Tryf.shape9) rfl rfl s hs
  have h2 := FmtText.operand_str_at (sh := Tryf.shape9) rfl rfl d hd
  rw [rdg, FmtText.text_sprintf_glued t_parse (FmtText.operands_cons h1 (FmtText.operands_cons h2 FmtText.operands_nil))]
  simp [FmtText.render, FmtText.printArg, FmtText.scalarArg, FmtText.fits, FmtText.fmtQ, FmtText.fmtS, FmtText.pad, FmtText.truncate, tText]

/-- The message's bytes. -/
theorem m_data (F : Interp) (s d : ByteArray) (hs : s.size ≤ 131072) (hd : d.size ≤ 131072) :
    (FmtStop.textOf (F.told "fmt.Sprintf" (rdg s.data.toList d.data.toList) 0)).data.toList = tText s.data.toList d.data.toList := by
  have e1 := len_data s
  have e2 := len_data d
  have l3 := FmtText.quote_length_le s.data.toList
  rw [textOf_list]
  exact told_string F (t_text _ _ (by omega) (by omega)) (by simp only [tText, List.length_append, List.length_cons, List.length_nil]; omega)

theorem m_size (F : Interp) (s d : ByteArray) (hs : s.size ≤ 131072) (hd : d.size ≤ 131072) :
    (FmtStop.textOf (F.told "fmt.Sprintf" (rdg s.data.toList d.data.toList) 0)).size ≤ 10000000 := by
  have e1 := len_data s
  have e2 := len_data d
  have l3 := FmtText.quote_length_le s.data.toList
  have e := congrArg List.length (m_data F s d hs hd)
  rw [tText, len_data] at e
  simp only [List.length_append, List.length_cons, List.length_nil] at e
  omega

/-- The message, as the law wants it: a list of bytes. -/
theorem msg_list (T : ByteArray) (s d : List UInt8) (h : T.data.toList = tText s d) : (pre ++ T).data.toList = pre.data.toList ++ (FmtText.quote false s ++ ([58, 32] ++ d)) := by
  rw [ByteArray.data_append, Array.toList_append, h, tText]

theorem msg_ok (T s d : ByteArray) (h : T.data.toList = tText s.data.toList d.data.toList) (hT : T.size ≤ 10000000) : MsgOk (pre ++ T) d := by
  have hl := msg_list T _ _ h
  have hq : ∃ l, FmtText.quote false s.data.toList = 34 :: (l ++ [34]) := ⟨_, rfl⟩
  obtain ⟨l, hq⟩ := hq
  rw [hq] at hl
  have hz : (pre ++ T).size = 15 + T.size := by rw [ByteArray.size_append]; rfl
  have hsz := (len_data (pre ++ T)).symm
  have hd := (len_data d).symm
  have h16 : pre34.size = 16 := rfl
  have hc : (cut34 ++ d).size = 3 + d.size := by rw [ByteArray.size_append]; rfl
  have hcl : (cut34 ++ d).toList = [34, 58, 32] ++ d.data.toList := by rw [Lib.toList_data, ByteArray.data_append, Array.toList_append]
  have hlen : (pre ++ T).size = 20 + l.length - 2 + d.size + 1 := by
    rw [hsz, hl, hd]
    simp only [List.length_append, List.length_cons, List.length_nil, List.cons_append, List.nil_append]
    omega
  refine ⟨by omega, by omega, ?_, by omega, ?_⟩
  · rw [Lib.extract_toList, hl, h16]
    simp [Lib.toList_data]
  · rw [Lib.extract_toList, hcl, beq_iff_eq, hl]
    have e : pre.data.toList ++ (34 :: (l ++ [34]) ++ ([58, 32] ++ d.data.toList)) = (pre.data.toList ++ 34 :: l) ++ ([34, 58, 32] ++ d.data.toList) := by simp
    rw [e, List.drop_left' (by simp only [List.length_append, List.length_cons]; rw [hc]; show 15 + (l.length + 1) = _; omega)]
    apply List.take_of_length_le
    simp only [List.length_append, List.length_cons, List.length_nil]
    omega

/-- THE PLAIN LAW: two messages are one just where both values and both details are. -/
theorem msg_inj (T1 T2 s1 s2 d1 d2 : ByteArray) (h1 : T1.data.toList = tText s1.data.toList d1.data.toList) (h2 : T2.data.toList = tText s2.data.toList d2.data.toList) :
    ((pre ++ T1).toList == (pre ++ T2).toList) = ((s1.toList == s2.toList) && (d1.toList == d2.toList)) := by
  rw [Bool.eq_iff_iff]
  simp only [Bool.and_eq_true, beq_iff_eq, Lib.toList_data]
  rw [msg_list _ _ _ h1, msg_list _ _ _ h2]
  constructor
  · intro h
    have h' := List.append_cancel_left h
    obtain ⟨a, b⟩ := Quo.quote_inj _ _ _ _ h'
    exact ⟨a, List.append_cancel_left b⟩
  · rintro ⟨a, b⟩
    rw [a, b]

theorem law_all (F : Interp) (f s1 s2 d1 d2 : ByteArray) (w : World) (hF : F.told.answers w.tape) (h0 : f.size ≤ maxLen) (h1 : s1.size ≤ maxLen) (h2 : s2.size ≤ maxLen) (h3 : d1.size ≤ maxLen) (h4 : d2.size ≤ maxLen) :
    Calls Tryf.prog 3 #[.string f, .string s1, .string s2, .string d1, .string d2] w fun e w' => e = .returned (.bool true) ∧ Below w.heap.size w w' := by
  by_cases hb : f.size ≤ 131072 ∧ s1.size ≤ 131072 ∧ s2.size ≤ 131072 ∧ d1.size ≤ 131072 ∧ d2.size ≤ 131072
  · obtain ⟨b0, b1, b2, b3, b4⟩ := hb
    have m1 := m_data F s1 d1 b1 b3
    have m2 := m_data F s2 d2 b2 b4
    exact law_small F.told f s1 s2 d1 d2 w hF b0 b1 b2 b3 b4 _ _ rfl rfl (m_size F s1 d1 b1 b3) (m_size F s2 d2 b2 b4) (msg_ok _ _ _ m1 (m_size F s1 d1 b1 b3)) (msg_ok _ _ _ m2 (m_size F s2 d2 b2 b4)) _ _ rfl rfl (msg_inj _ _ _ _ _ _ m1 m2)
  · exact law_big f s1 s2 d1 d2 w h0 h1 h2 h3 h4 hb

/-! ### THE ROW -/

abbrev lawSpec : OpenSpec := OpenSpec.ofChange Rows.fnInvalidStringInjectiveSpec

set_option maxRecDepth 100000 in
theorem t_lifted (os : Os) (started : os.Started) (H : Type) (enc : TypeId × Value → H) :
    ReturnsInTold none {} Tryf.checked os 3 .any Input.okWide (lawSpec.preRow enc Tryf.prog Tryf.f3 [] false []) (fun F => (lawSpec.at F).post enc Tryf.prog Tryf.f3 false true false false) (aloneAtReturn Tryf.prog) nothingAlways := by
  refine returnsInTold_of_row (C := Tryf.checked) (s := lawSpec) (by kernel_rfl) Tryf.own started (by kernel_rfl) Tryf.func3
    (OpenSpec.witness_stopped (enc := enc) (C := Tryf.checked) false ⟨#[], #[.string ⟨#[]⟩, .string ⟨#[]⟩, .string ⟨#[]⟩, .string ⟨#[]⟩, .string ⟨#[]⟩], []⟩ 8 (by kernel_rfl) (by kernel_rfl) (by kernel_rfl) (by kernel_rfl)) ?_
  intro F W base args ds gs before _ hF hval0 hW _ _ hsz _ _
  have hval : ∀ (j : Nat) t v, Tryf.f3.params[j]? = some t → args[j]? = some v → Value.okWide Tryf.prog W .any base t v := hval0
  have hW' := hW
  obtain ⟨p, q, hA0, hV, rfl, hfz, hnd⟩ := hW
  have hA : DataW.TrodAll enc Tryf.prog W 0 (fun _ => true) true Tryf.f3.params.toList args.toList ds p := hA0
  rw [Tryf.params3] at hA hval
  obtain ⟨v0, vs0, d0, ds0, p0, q0, hargs, rfl, rfl, h0, r0⟩ := trodAll_cons hA
  obtain ⟨v1, vs1, d1, ds1, p1, q1, rfl, rfl, rfl, h1, r1⟩ := trodAll_cons r0
  obtain ⟨v2, vs2, d2, ds2, p2, q2, rfl, rfl, rfl, h2, r2⟩ := trodAll_cons r1
  obtain ⟨v3, vs3, d3, ds3, p3, q3, rfl, rfl, rfl, h3, r3⟩ := trodAll_cons r2
  obtain ⟨v4, vs4, d4, ds4, p4, q4, rfl, rfl, rfl, h4, r4⟩ := trodAll_cons r3
  obtain ⟨rfl, rfl, rfl⟩ := trodAll_nil r4
  obtain rfl : args = #[v0, v1, v2, v3, v4] := by cases args; simp_all
  obtain ⟨rfl, rfl⟩ := trodVars_none hV
  obtain ⟨f, rfl, rfl, rfl, wf⟩ := open_string Tryf.underlying9 (hval 0 9 v0 rfl rfl) h0
  obtain ⟨s1, rfl, rfl, rfl, ws1⟩ := open_string Tryf.underlying9 (hval 1 9 v1 rfl rfl) h1
  obtain ⟨s2, rfl, rfl, rfl, ws2⟩ := open_string Tryf.underlying9 (hval 2 9 v2 rfl rfl) h2
  obtain ⟨e1, rfl, rfl, rfl, we1⟩ := open_string Tryf.underlying9 (hval 3 9 v3 rfl rfl) h3
  obtain ⟨e2, rfl, rfl, rfl, we2⟩ := open_string Tryf.underlying9 (hval 4 9 v4 rfl rfl) h4
  clear hA0 hval0
  refine (law_all F f s1 s2 e1 e2 W hF wf ws1 ws2 we1 we2).mono fun e W' ⟨he, hw⟩ => ?_
  subst he
  refine ⟨_, rfl, _, _, _, [], [], [], hW', ?_, ?_, rfl, ?_, fun h => by cases h⟩
  · exact trodAll_mk1 (shut_bool Tryf.underlying4 true)
  · exact trodAll_cons_mk (shut_string Tryf.underlying9 wf) (trodAll_cons_mk (shut_string Tryf.underlying9 ws1) (trodAll_cons_mk (shut_string Tryf.underlying9 ws2) (trodAll_cons_mk (shut_string Tryf.underlying9 we1) (trodAll_cons_mk (shut_string Tryf.underlying9 we2) trodAll_mk0))))
  · exact hw.frame _

theorem Tryf.laidOut : laidOutB Tryf.pinned.checked.prog = true := by kernel_rfl
theorem Tryf.stops : Tryf.pinned.checked.prog.stops = ["fmt.Sprintf"] := by kernel_rfl
theorem Tryf.stopKnobs : Tryf.pinned.checked.prog.stopKnobs = [] := by kernel_rfl
theorem Tryf.quiet (os : Os) : Stop.quiet Tryf.pinned.checked.prog os := by
  intro k hk
  rw [Tryf.stopKnobs] at hk
  cases hk

/-- THE STATEMENT. -/
theorem proved : Rows.FnInvalidStringInjectiveToldSaid :=
  Claim7.holds_of_told_any 3 Tryf.f3 "fmt.Sprintf" [] [] _ _ _ (by kernel_rfl) rfl rfl rfl Tryf.laidOut (by kernel_rfl) rfl ⟨rfl, rfl, rfl, rfl, rfl, rfl, rfl⟩ rfl rfl (by kernel_rfl) (by kernel_rfl) Tryf.func3 (by kernel_rfl)
    (of_decide_eq_true (by kernel_rfl)) (by unfold Func.isWrapper; rw [if_neg (of_decide_eq_false (by kernel_rfl))]; exact ⟨rfl, rfl⟩) Tryf.stops.symm rfl Tryf.stopKnobs.symm (by kernel_rfl)
    (by kernel_rfl) (by kernel_rfl) (by kernel_rfl) (by kernel_rfl) (by kernel_rfl) (by kernel_rfl) (by kernel_rfl) (by kernel_rfl) (by kernel_rfl) rfl (by kernel_rfl) rfl rfl
    rfl rfl
    rfl (by kernel_rfl) (by kernel_rfl) (by kernel_rfl) (by decide) (by kernel_rfl)
    (OpenClaim.moreEntering_of (by kernel_rfl) (by kernel_rfl) (by kernel_rfl) (by kernel_rfl) (by kernel_rfl) (by kernel_rfl) (by kernel_rfl) (by kernel_rfl) (by kernel_rfl) (by kernel_rfl))
    ⟨_, WideRow.started_initial, Tryf.quiet _⟩
    (fun os started _ H enc _ => t_lifted os started H enc)

#print axioms proved

end Go.Proofs.Qxb6612707aFmt
