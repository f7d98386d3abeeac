/-
  THE LAW, where Replicate grants: what its four ways share.
-/
import Derived.Test.Qxb6612844aNo
set_option linter.unusedVariables false
set_option linter.unusedSimpArgs false
namespace Go.Proofs.Qxb6612844a
open Go.RowKit Go.Maps Go.WideMaps

theorem Sz_le (RL : Nat → Nat) (p : Nat) : ∀ k, Sz RL p k ≤ 32 * k + Sm RL (p + k)
  | 0 => Nat.zero_le _
  | k + 1 => by
    have ih := Sz_le RL p k
    show Sz RL p k + (32 + RL (p + k)) ≤ 32 * (k + 1) + (Sm RL (p + k) + RL (p + k))
    omega

/-- The term of the entry ahead of number p. -/
def prevT (st : Int) (T : Nat → Int) (p : Nat) : Int := if p = 0 then st else T (p - 1)

theorem term_prev {w : World} {g : Nat} {id term role : Int} {si n c h : Nat} {st commit : Int} {M : Value} {T : Nat → Int} {EA : Nat → Option Addr} {RL EC : Nat → Nat} {Z : Nat → Nat → Int}
    (hC : Core w g id term role si st (.slice (some ⟨h, 0, none⟩) n c) commit M) (hL : Log w w.heap.size h n T EA RL EC Z) (hsn : si + n < 18446744073709551615) (hn : n ≤ 65536) (p : Nat) (hp : p ≤ n) (W : World) (hb : Below w.heap.size w W) :
    Calls Try.prog 52 #[.pointer (some ⟨g, 0, none⟩), .int .u64 ((si : Int) + (p : Int))] W fun e w' => e = .returned (.int .u64 (prevT st T p)) ∧ Below W.heap.size W w' := by
  have hC' := hC.below hb hC.lt
  cases p with
  | zero =>
    have := term_zero W g si st hC'.c12 hC'.c13
    simpa [prevT] using this
  | succ p =>
    have := term_succ W g si n c p h T EA RL EC hC'.c12 hC'.c16 hsn hn (by omega) (Nat.lt_of_lt_of_le hL.lt hb.size) ((hL.below hb (Nat.le_refl _)).ent p (by omega))
    have e : (si : Int) + 1 + (p : Int) = (si : Int) + ((p + 1 : Nat) : Int) := by omega
    rw [e] at this
    simpa [prevT] using this

theorem row_cell {w : World} {B : Nat} {k : IntKind} {b o n : Nat} {z : Nat → Int} (h : Row w B k (some ⟨b, o, none⟩) n z) (j : Nat) (hj : j < n) : b < B ∧ w.cell? ⟨b, o + j, none⟩ = some (.int k (z j)) := by
  obtain ⟨b', o', e, hb, hc⟩ := h.at' j hj
  cases e
  exact ⟨hb, hc j hj⟩

theorem cmds_cell {w : World} {B : Nat} {b o n : Nat} {RA : Nat → Option Addr} {RL RC : Nat → Nat} {Z : Nat → Nat → Int} (h : Cmds w B (some ⟨b, o, none⟩) n RA RL RC Z) (j : Nat) (hj : j < n) : b < B ∧ w.cell? ⟨b, o + j, none⟩ = some (.slice (RA j) (RL j) (RC j)) := by
  obtain ⟨b', o', e, hb, hc⟩ := h.at' j hj
  cases e
  exact ⟨hb, hc j hj⟩

/-- What the test of the round asks of the world. -/
abbrev SQ (w0 : World) (r b1 o1 b2 o2 e : Nat) (t : Int) (EA RA : Option Addr) (l ec rc : Nat) (w : World) : Prop :=
  w.cell? ⟨r, 0, none⟩ = some (.int .u64 t) ∧ w.cell? ⟨r, 1, none⟩ = some (.slice EA l ec) ∧ w.cell? ⟨r, 2, none⟩ = some (.int .u8 0) ∧ w.cell? ⟨r, 3, none⟩ = some (.pointer none) ∧
  w.cell? ⟨b1, o1 + e, none⟩ = some (.int .u64 t) ∧ w.cell? ⟨b2, o2 + e, none⟩ = some (.slice RA l rc) ∧ Below w0.heap.size w0 w

end Go.Proofs.Qxb6612844a
