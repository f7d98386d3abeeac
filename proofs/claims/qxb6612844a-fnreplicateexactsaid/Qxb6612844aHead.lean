/-
  THE DUMP's HEAD WORD, cut at its first blanks. Three closed facts of every row of this seat look into that long string; to have the kernel evaluate them as they stand costs 9 GB and a minute each (the 64 signs of the sum, one by one). Here its first three words are taken off by a law, the sum's signs are held by their numbers, and the rest stays a variable.
-/
import Derived.Test.Qxb6612844aRows
import Derived.JoinedOf
import Derived.KernelRfl
namespace Go.Proofs.Qxb6612844a
open Go
theorem words_cut : ∀ (w r : List Char), (w.all fun c => !(c == ' ')) = true → wordsSigns (w ++ ' ' :: r) = w :: wordsSigns r
  | [], _, _ => rfl
  | c :: w, r, h => by
    simp only [List.all_cons, Bool.and_eq_true, Bool.not_eq_true', beq_eq_false_iff_ne] at h
    have ih := words_cut w r h.2
    rw [List.cons_append, wordsSigns.eq_3 c _ h.1, ih]
def head1 : List Char := [Char.ofNat 104, Char.ofNat 97, Char.ofNat 114, Char.ofNat 110, Char.ofNat 101, Char.ofNat 115, Char.ofNat 115]
def sumNums : List Nat := [55, 101, 50, 101, 50, 52, 48, 100, 53, 51, 50, 54, 98, 99, 57, 102, 55, 57, 54, 101, 51, 57, 48, 48, 48, 102, 49, 101, 57, 52, 101, 99, 102, 100, 101, 100, 53, 101, 50, 102, 51, 49, 49, 54, 97, 97, 97, 49, 100, 100, 101, 54, 48, 97, 100, 98, 99, 52, 54, 102, 48, 48, 48, 54]
def head2 : List Char := sumNums.map Char.ofNat
def head3 : List Char := [Char.ofNat 99, Char.ofNat 117, Char.ofNat 116]
def head4 : List Char := [Char.ofNat 97, Char.ofNat 116, Char.ofNat 32, Char.ofNat 101, Char.ofNat 120, Char.ofNat 97, Char.ofNat 109, Char.ofNat 112, Char.ofNat 108, Char.ofNat 101, Char.ofNat 46, Char.ofNat 99, Char.ofNat 111, Char.ofNat 109, Char.ofNat 47, Char.ofNat 113, Char.ofNat 117, Char.ofNat 111, Char.ofNat 114, Char.ofNat 117, Char.ofNat 109, Char.ofNat 108, Char.ofNat 111, Char.ofNat 103, Char.ofNat 47, Char.ofNat 113, Char.ofNat 117, Char.ofNat 111, Char.ofNat 114, Char.ofNat 117, Char.ofNat 109, Char.ofNat 108, Char.ofNat 111, Char.ofNat 103, Char.ofNat 47, Char.ofNat 122, Char.ofNat 122, Char.ofNat 108, Char.ofNat 97, Char.ofNat 119, Char.ofNat 115, Char.ofNat 95, Char.ofNat 105, Char.ofNat 110, Char.ofNat 116, Char.ofNat 101, Char.ofNat 114, Char.ofNat 110, Char.ofNat 97, Char.ofNat 108, Char.ofNat 95, Char.ofNat 114, Char.ofNat 97, Char.ofNat 102, Char.ofNat 116, Char.ofNat 95, Char.ofNat 98, Char.ofNat 49, Char.ofNat 46, Char.ofNat 70, Char.ofNat 110, Char.ofNat 80, Char.ofNat 101, Char.ofNat 101, Char.ofNat 114, Char.ofNat 115, Char.ofNat 69, Char.ofNat 120, Char.ofNat 97, Char.ofNat 99, Char.ofNat 116, Char.ofNat 32, Char.ofNat 101, Char.ofNat 120, Char.ofNat 97, Char.ofNat 109, Char.ofNat 112, Char.ofNat 108, Char.ofNat 101, Char.ofNat 46, Char.ofNat 99, Char.ofNat 111, Char.ofNat 109, Char.ofNat 47, Char.ofNat 113, Char.ofNat 117, Char.ofNat 111, Char.ofNat 114, Char.ofNat 117, Char.ofNat 109, Char.ofNat 108, Char.ofNat 111, Char.ofNat 103, Char.ofNat 47, Char.ofNat 113, Char.ofNat 117, Char.ofNat 111, Char.ofNat 114, Char.ofNat 117, Char.ofNat 109, Char.ofNat 108, Char.ofNat 111, Char.ofNat 103, Char.ofNat 47, Char.ofNat 122, Char.ofNat 122, Char.ofNat 108, Char.ofNat 97, Char.ofNat 119, Char.ofNat 115, Char.ofNat 95, Char.ofNat 105, Char.ofNat 110, Char.ofNat 116, Char.ofNat 101, Char.ofNat 114, Char.ofNat 110, Char.ofNat 97, Char.ofNat 108, Char.ofNat 95, Char.ofNat 114, Char.ofNat 97, Char.ofNat 102, Char.ofNat 116, Char.ofNat 95, Char.ofNat 98, Char.ofNat 49, Char.ofNat 46, Char.ofNat 70, Char.ofNat 110, Char.ofNat 80, Char.ofNat 101, Char.ofNat 101, Char.ofNat 114, Char.ofNat 115, Char.ofNat 76, Char.ofNat 101, Char.ofNat 97, Char.ofNat 100, Char.ofNat 101, Char.ofNat 114, Char.ofNat 65, Char.ofNat 100, Char.ofNat 100, Char.ofNat 115, Char.ofNat 78, Char.ofNat 111, Char.ofNat 110, Char.ofNat 86, Char.ofNat 111, Char.ofNat 116, Char.ofNat 101, Char.ofNat 114, Char.ofNat 115, Char.ofNat 65, Char.ofNat 102, Char.ofNat 116, Char.ofNat 101, Char.ofNat 114, Char.ofNat 86, Char.ofNat 111, Char.ofNat 116, Char.ofNat 101, Char.ofNat 114, Char.ofNat 115, Char.ofNat 32, Char.ofNat 101, Char.ofNat 120, Char.ofNat 97, Char.ofNat 109, Char.ofNat 112, Char.ofNat 108, Char.ofNat 101, Char.ofNat 46, Char.ofNat 99, Char.ofNat 111, Char.ofNat 109, Char.ofNat 47, Char.ofNat 113, Char.ofNat 117, Char.ofNat 111, Char.ofNat 114, Char.ofNat 117, Char.ofNat 109, Char.ofNat 108, Char.ofNat 111, Char.ofNat 103, Char.ofNat 47, Char.ofNat 113, Char.ofNat 117, Char.ofNat 111, Char.ofNat 114, Char.ofNat 117, Char.ofNat 109, Char.ofNat 108, Char.ofNat 111, Char.ofNat 103, Char.ofNat 47, Char.ofNat 122, Char.ofNat 122, Char.ofNat 108, Char.ofNat 97, Char.ofNat 119, Char.ofNat 115, Char.ofNat 95, Char.ofNat 105, Char.ofNat 110, Char.ofNat 116, Char.ofNat 101, Char.ofNat 114, Char.ofNat 110, Char.ofNat 97, Char.ofNat 108, Char.ofNat 95, Char.ofNat 114, Char.ofNat 97, Char.ofNat 102, Char.ofNat 116, Char.ofNat 95, Char.ofNat 98, Char.ofNat 49, Char.ofNat 46, Char.ofNat 70, Char.ofNat 110, Char.ofNat 70, Char.ofNat 105, Char.ofNat 114, Char.ofNat 115, Char.ofNat 116, Char.ofNat 73, Char.ofNat 110, Char.ofNat 100, Char.ofNat 101, Char.ofNat 120, Char.ofNat 76, Char.ofNat 101, Char.ofNat 97, Char.ofNat 115, Char.ofNat 116, Char.ofNat 85, Char.ofNat 115, Char.ofNat 97, Char.ofNat 98, Char.ofNat 108, Char.ofNat 101, Char.ofNat 65, Char.ofNat 110, Char.ofNat 100, Char.ofNat 83, Char.ofNat 112, Char.ofNat 97, Char.ofNat 110, Char.ofNat 32, Char.ofNat 101, Char.ofNat 120, Char.ofNat 97, Char.ofNat 109, Char.ofNat 112, Char.ofNat 108, Char.ofNat 101, Char.ofNat 46, Char.ofNat 99, Char.ofNat 111, Char.ofNat 109, Char.ofNat 47, Char.ofNat 113, Char.ofNat 117, Char.ofNat 111, Char.ofNat 114, Char.ofNat 117, Char.ofNat 109, Char.ofNat 108, Char.ofNat 111, Char.ofNat 103, Char.ofNat 47, Char.ofNat 113, Char.ofNat 117, Char.ofNat 111, Char.ofNat 114, Char.ofNat 117, Char.ofNat 109, Char.ofNat 108, Char.ofNat 111, Char.ofNat 103, Char.ofNat 47, Char.ofNat 122, Char.ofNat 122, Char.ofNat 108, Char.ofNat 97, Char.ofNat 119, Char.ofNat 115, Char.ofNat 95, Char.ofNat 105, Char.ofNat 110, Char.ofNat 116, Char.ofNat 101, Char.ofNat 114, Char.ofNat 110, Char.ofNat 97, Char.ofNat 108, Char.ofNat 95, Char.ofNat 114, Char.ofNat 97, Char.ofNat 102, Char.ofNat 116, Char.ofNat 95, Char.ofNat 98, Char.ofNat 49, Char.ofNat 46, Char.ofNat 70, Char.ofNat 110, Char.ofNat 67, Char.ofNat 97, Char.ofNat 110, Char.ofNat 85, Char.ofNat 115, Char.ofNat 101, Char.ofNat 83, Char.ofNat 110, Char.ofNat 97, Char.ofNat 112, Char.ofNat 115, Char.ofNat 104, Char.ofNat 111, Char.ofNat 116, Char.ofNat 65, Char.ofNat 103, Char.ofNat 114, Char.ofNat 101, Char.ofNat 101, Char.ofNat 115, Char.ofNat 87, Char.ofNat 105, Char.ofNat 116, Char.ofNat 104, Char.ofNat 82, Char.ofNat 101, Char.ofNat 112, Char.ofNat 108, Char.ofNat 105, Char.ofNat 99, Char.ofNat 97, Char.ofNat 116, Char.ofNat 101, Char.ofNat 32, Char.ofNat 101, Char.ofNat 120, Char.ofNat 97, Char.ofNat 109, Char.ofNat 112, Char.ofNat 108, Char.ofNat 101, Char.ofNat 46, Char.ofNat 99, Char.ofNat 111, Char.ofNat 109, Char.ofNat 47, Char.ofNat 113, Char.ofNat 117, Char.ofNat 111, Char.ofNat 114, Char.ofNat 117, Char.ofNat 109, Char.ofNat 108, Char.ofNat 111, Char.ofNat 103, Char.ofNat 47, Char.ofNat 113, Char.ofNat 117, Char.ofNat 111, Char.ofNat 114, Char.ofNat 117, Char.ofNat 109, Char.ofNat 108, Char.ofNat 111, Char.ofNat 103, Char.ofNat 47, Char.ofNat 122, Char.ofNat 122, Char.ofNat 108, Char.ofNat 97, Char.ofNat 119, Char.ofNat 115, Char.ofNat 95, Char.ofNat 105, Char.ofNat 110, Char.ofNat 116, Char.ofNat 101, Char.ofNat 114, Char.ofNat 110, Char.ofNat 97, Char.ofNat 108, Char.ofNat 95, Char.ofNat 114, Char.ofNat 97, Char.ofNat 102, Char.ofNat 116, Char.ofNat 95, Char.ofNat 98, Char.ofNat 49, Char.ofNat 46, Char.ofNat 70, Char.ofNat 110, Char.ofNat 67, Char.ofNat 97, Char.ofNat 110, Char.ofNat 85, Char.ofNat 115, Char.ofNat 101, Char.ofNat 83, Char.ofNat 110, Char.ofNat 97, Char.ofNat 112, Char.ofNat 115, Char.ofNat 104, Char.ofNat 111, Char.ofNat 116, Char.ofNat 77, Char.ofNat 111, Char.ofNat 110, Char.ofNat 111, Char.ofNat 116, Char.ofNat 111, Char.ofNat 110, Char.ofNat 101, Char.ofNat 65, Char.ofNat 110, Char.ofNat 100, Char.ofNat 80, Char.ofNat 97, Char.ofNat 115, Char.ofNat 116, Char.ofNat 84, Char.ofNat 104, Char.ofNat 101, Char.ofNat 76, Char.ofNat 111, Char.ofNat 103, Char.ofNat 32, Char.ofNat 101, Char.ofNat 120, Char.ofNat 97, Char.ofNat 109, Char.ofNat 112, Char.ofNat 108, Char.ofNat 101, Char.ofNat 46, Char.ofNat 99, Char.ofNat 111, Char.ofNat 109, Char.ofNat 47, Char.ofNat 113, Char.ofNat 117, Char.ofNat 111, Char.ofNat 114, Char.ofNat 117, Char.ofNat 109, Char.ofNat 108, Char.ofNat 111, Char.ofNat 103, Char.ofNat 47, Char.ofNat 113, Char.ofNat 117, Char.ofNat 111, Char.ofNat 114, Char.ofNat 117, Char.ofNat 109, Char.ofNat 108, Char.ofNat 111, Char.ofNat 103, Char.ofNat 47, Char.ofNat 122, Char.ofNat 122, Char.ofNat 108, Char.ofNat 97, Char.ofNat 119, Char.ofNat 115, Char.ofNat 95, Char.ofNat 105, Char.ofNat 110, Char.ofNat 116, Char.ofNat 101, Char.ofNat 114, Char.ofNat 110, Char.ofNat 97, Char.ofNat 108, Char.ofNat 95, Char.ofNat 114, Char.ofNat 97, Char.ofNat 102, Char.ofNat 116, Char.ofNat 95, Char.ofNat 98, Char.ofNat 49, Char.ofNat 46, Char.ofNat 70, Char.ofNat 110, Char.ofNat 82, Char.ofNat 101, Char.ofNat 112, Char.ofNat 108, Char.ofNat 105, Char.ofNat 99, Char.ofNat 97, Char.ofNat 116, Char.ofNat 101, Char.ofNat 69, Char.ofNat 120, Char.ofNat 97, Char.ofNat 99, Char.ofNat 116]
theorem head_eq : Try.prog.initOrder = String.ofList (head1 ++ ' ' :: (head2 ++ ' ' :: (head3 ++ ' ' :: head4))) := by kernel_rfl
theorem head_words : ∃ T, wordsSigns Try.prog.initOrder.toList = head1 :: head2 :: head3 :: T := by
  refine ⟨wordsSigns head4, ?_⟩
  rw [head_eq, String.toList_ofList, words_cut head1 _ (by kernel_rfl), words_cut head2 _ (by kernel_rfl), words_cut head3 _ (by kernel_rfl)]
def hexNat (n : Nat) : Bool := (48 ≤ n && n ≤ 57) || (97 ≤ n && n ≤ 102)
def isHex (c : Char) : Bool := ('0' ≤ c && c ≤ '9') || ('a' ≤ c && c ≤ 'f')
theorem sign_ok (n : Nat) (h : hexNat n = true) : isHex (Char.ofNat n) = true := by
  simp only [hexNat, Bool.or_eq_true, Bool.and_eq_true, decide_eq_true_eq] at h
  have hn : n = 48 ∨ n = 49 ∨ n = 50 ∨ n = 51 ∨ n = 52 ∨ n = 53 ∨ n = 54 ∨ n = 55 ∨ n = 56 ∨ n = 57 ∨ n = 97 ∨ n = 98 ∨ n = 99 ∨ n = 100 ∨ n = 101 ∨ n = 102 := by omega
  rcases hn with rfl | rfl | rfl | rfl | rfl | rfl | rfl | rfl | rfl | rfl | rfl | rfl | rfl | rfl | rfl | rfl <;> decide
theorem sum_ok : isSumSigns head2 = true := by
  have e : isSumSigns head2 = (head2.length == 64 && head2.all isHex) := rfl
  rw [e, Bool.and_eq_true]
  unfold head2
  refine ⟨by rw [List.length_map]; decide, ?_⟩
  rw [List.all_map, List.all_eq_true]
  intro n hn
  exact sign_ok n (List.all_eq_true.1 (by decide : sumNums.all hexNat = true) n hn)
theorem tl {o : String} {l : List Char} (h : o = String.ofList l) : o.toList = l := by rw [h, String.toList_ofList]
theorem behind_ok (T : List (List Char)) : behindMainWord (head1 :: head2 :: head3 :: T) = head3 :: T := by
  have e : behindMainWord (head1 :: head2 :: head3 :: T) = if ((head1 == "harness".toList || head1 == "ownmain".toList) && isSumSigns head2) = true then head3 :: T else head1 :: head2 :: head3 :: T := rfl
  rw [e, sum_ok, Bool.and_true, tl (o := "harness") (l := head1) rfl, if_pos (by simp)]
theorem strip_step (o : String) (l : List Char) (os : List String) (w : List Char) (ws : List (List Char)) (ho : o.toList = l) (h : (w == l) = false) : stripLifts (o :: os) (w :: ws) = stripLifts os (w :: ws) := by
  rw [stripLifts, ho, h]
  simp
theorem strip_ok (T : List (List Char)) : stripLifts liftWords (head3 :: T) = ([], head3 :: T) := by
  unfold liftWords
  rw [strip_step _ [Char.ofNat 102, Char.ofNat 105, Char.ofNat 110, Char.ofNat 97, Char.ofNat 108, Char.ofNat 115] _ _ _ (tl rfl) (by decide)]
  rw [strip_step _ [Char.ofNat 114, Char.ofNat 101, Char.ofNat 102, Char.ofNat 108, Char.ofNat 101, Char.ofNat 99, Char.ofNat 116, Char.ofNat 114, Char.ofNat 111, Char.ofNat 119, Char.ofNat 115] _ _ _ (tl rfl) (by decide)]
  rw [strip_step _ [Char.ofNat 108, Char.ofNat 101, Char.ofNat 97, Char.ofNat 110, Char.ofNat 114, Char.ofNat 111, Char.ofNat 119, Char.ofNat 115] _ _ _ (tl rfl) (by decide)]
  rw [strip_step _ [Char.ofNat 111, Char.ofNat 110, Char.ofNat 101, Char.ofNat 98, Char.ofNat 117, Char.ofNat 105, Char.ofNat 108, Char.ofNat 100] _ _ _ (tl rfl) (by decide)]
  rw [strip_step _ [Char.ofNat 112, Char.ofNat 117, Char.ofNat 98, Char.ofNat 108, Char.ofNat 105, Char.ofNat 99, Char.ofNat 115, Char.ofNat 117, Char.ofNat 109, Char.ofNat 115] _ _ _ (tl rfl) (by decide)]
  rw [strip_step _ [Char.ofNat 101, Char.ofNat 113, Char.ofNat 103, Char.ofNat 117, Char.ofNat 97, Char.ofNat 114, Char.ofNat 100] _ _ _ (tl rfl) (by decide)]
  rw [strip_step _ [Char.ofNat 111, Char.ofNat 119, Char.ofNat 110, Char.ofNat 117, Char.ofNat 110, Char.ofNat 115, Char.ofNat 97, Char.ofNat 102, Char.ofNat 101] _ _ _ (tl rfl) (by decide)]
  rw [strip_step _ [Char.ofNat 108, Char.ofNat 105, Char.ofNat 98, Char.ofNat 98, Char.ofNat 101, Char.ofNat 115, Char.ofNat 105, Char.ofNat 100, Char.ofNat 101] _ _ _ (tl rfl) (by decide)]
  rw [strip_step _ [Char.ofNat 111, Char.ofNat 119, Char.ofNat 110, Char.ofNat 98, Char.ofNat 101, Char.ofNat 115, Char.ofNat 105, Char.ofNat 100, Char.ofNat 101] _ _ _ (tl rfl) (by decide)]
  rw [strip_step _ [Char.ofNat 114, Char.ofNat 101, Char.ofNat 102, Char.ofNat 108, Char.ofNat 98, Char.ofNat 101, Char.ofNat 115, Char.ofNat 105, Char.ofNat 100, Char.ofNat 101] _ _ _ (tl rfl) (by decide)]
  rw [strip_step _ [Char.ofNat 97, Char.ofNat 108, Char.ofNat 105, Char.ofNat 97, Char.ofNat 115, Char.ofNat 101, Char.ofNat 115] _ _ _ (tl rfl) (by decide)]
  rw [strip_step _ [Char.ofNat 97, Char.ofNat 102, Char.ofNat 116, Char.ofNat 101, Char.ofNat 114, Char.ofNat 105, Char.ofNat 110, Char.ofNat 105, Char.ofNat 116] _ _ _ (tl rfl) (by decide)]
  rw [strip_step _ [Char.ofNat 99, Char.ofNat 114, Char.ofNat 99, Char.ofNat 112, Char.ofNat 108, Char.ofNat 97, Char.ofNat 105, Char.ofNat 110] _ _ _ (tl rfl) (by decide)]
  rw [strip_step _ [Char.ofNat 114, Char.ofNat 111, Char.ofNat 97, Char.ofNat 100, Char.ofNat 117, Char.ofNat 110, Char.ofNat 115, Char.ofNat 97, Char.ofNat 102, Char.ofNat 101] _ _ _ (tl rfl) (by decide)]
  rw [strip_step _ [Char.ofNat 102, Char.ofNat 109, Char.ofNat 116, Char.ofNat 104, Char.ofNat 97, Char.ofNat 110, Char.ofNat 100, Char.ofNat 111, Char.ofNat 110] _ _ _ (tl rfl) (by decide)]
  rfl
theorem gc_ok : "gc".toList = [Char.ofNat 103, Char.ofNat 99] := tl rfl
theorem spec_ok : "spec".toList = [Char.ofNat 115, Char.ofNat 112, Char.ofNat 101, Char.ofNat 99] := tl rfl
theorem carried_ok : "carried".toList = [Char.ofNat 99, Char.ofNat 97, Char.ofNat 114, Char.ofNat 114, Char.ofNat 105, Char.ofNat 101, Char.ofNat 100] := tl rfl
theorem cut_ok : "cut".toList = head3 := tl rfl
theorem finals_ok : "finals".toList = [Char.ofNat 102, Char.ofNat 105, Char.ofNat 110, Char.ofNat 97, Char.ofNat 108, Char.ofNat 115] := tl rfl
theorem mayEnter_of (P : Program) (T : List (List Char)) (h : wordsSigns P.initOrder.toList = head1 :: head2 :: head3 :: T) (hl : P.laysLater = false) (hb : P.bearsReflect = false) (hd : P.doorFits [] = true) : P.mayEnter = true := by
  unfold Program.mayEnter
  rw [h, behind_ok]
  simp only [strip_ok, cut_ok, hl, hb, hd]
  simp
theorem liftsFinal_of (P : Program) (T : List (List Char)) (h : wordsSigns P.initOrder.toList = head1 :: head2 :: head3 :: T) : (false == P.liftsFinal) = true := by
  unfold Program.liftsFinal Program.headLifts
  rw [h, behind_ok]
  simp only [strip_ok, cut_ok, carried_ok]
  simp [head3]
theorem make_of (P : Program) (T : List (List Char)) (h : wordsSigns P.initOrder.toList = head1 :: head2 :: head3 :: T) : (P.make == some Make.cut) = true := by
  unfold Program.make Program.headLifts
  rw [h, behind_ok]
  simp only [strip_ok, cut_ok, gc_ok, spec_ok]
  rfl
theorem doors_ok : (Try.prog.laysLater || Try.prog.bearsReflect || !Try.prog.doorFits []) = false := by kernel_rfl
theorem greatA : (Try.prog.mayEnter) = true := by
  obtain ⟨T, h⟩ := head_words
  have hd := doors_ok
  simp only [Bool.or_eq_false_iff, Bool.not_eq_false'] at hd
  exact mayEnter_of _ T h hd.1.1 hd.1.2 hd.2
theorem greatB : ((false == Try.prog.liftsFinal)) = true := by
  obtain ⟨T, h⟩ := head_words
  exact liftsFinal_of _ T h
theorem greatC : ((Try.prog.make == some Make.cut)) = true := by
  obtain ⟨T, h⟩ := head_words
  exact make_of _ T h
end Go.Proofs.Qxb6612844a
