/-
  THE WALKS of blank, of the law's two readers and of the law.
-/
import Derived.Test.Qxb6612819aWalks
import Derived.Lib.SlBytesConst
import Derived.BigQuiet
import Derived.Deep.QuietTactic
set_option linter.unusedVariables false
set_option linter.unusedSimpArgs false
namespace Go.Proofs.Qxb6612819a
open Go.RowKit

set_option maxHeartbeats 1000000 in
theorem rep_zero (b cap : Nat) (w : World) :
    Calls Try.prog 8 #[.slice (some ⟨b, 0, none⟩) 1 cap, .int .i64 0] w fun e w' => e = .returned (.slice (some ⟨w.heap.size, 0, none⟩) 0 0) ∧ w.heap.size < w'.heap.size ∧ Below w.heap.size w w' := by
  go_enter Try.func8, Try.ntmps8
  go_wp2
  go_ret
  exact ⟨rfl, by simp, (Below.refl _ _).alloc (Nat.le_refl _) _⟩

/-- The call hands back n blanks, in a block of its own. -/
def Blanks (w : World) (n : Nat) (e : Ending) (w' : World) : Prop :=
  ∃ h, e = .returned (.slice (some ⟨h, 0, none⟩) n n) ∧ w.heap.size ≤ h ∧ h < w'.heap.size ∧ (∀ j, j < n → w'.cell? ⟨h, j, none⟩ = some (.int .u8 32)) ∧ Below w.heap.size w w'

set_option maxHeartbeats 1000000 in
theorem blank_any (n : Nat) (hn : n ≤ 131072) (w : World) :
    Calls Try.prog 7 #[.int .i64 n] w fun e w' => Blanks w n e w' := by
  have kc := fun (w : World) (C : Array Value) (n c : Nat) => Lib.run_convert_bytes_const (P := Try.prog) w 22 5 C n c Try.underlying22 Try.underlying5
  have hcm : (w.alloc (.cells #[.int .u8 32] 5 (1, 2))).cell? ⟨w.heap.size, 0, none⟩ = some (.int .u8 32) := by
    have hg : (w.alloc (.cells #[.int .u8 32] 5 (1, 2))).heap[w.heap.size]? = some (.cells #[.int .u8 32] 5 (1, 2)) := by show (w.heap.push _)[w.heap.size]? = _; simp
    rw [cell_of_row _ _ 0 _ 5 (1, 2) hg]
    rfl
  have HC : Hid ((w.alloc (.cells #[.int .u8 32] 5 (1, 2))).cell? ⟨w.heap.size, 0, none⟩ = some (.int .u8 32)) := hcm
  clear hcm
  have hB : Below w.heap.size w (w.alloc (.cells #[.int .u8 32] 5 (1, 2))) := (Below.refl _ _).alloc (Nat.le_refl _) _
  by_cases h0 : n = 0
  · subst h0
    go_enter Try.func7, Try.ntmps7
    go_wp2_with fail
    refine (rep_zero w.heap.size 1 _).mono ?_
    rintro e w1 ⟨rfl, hz1, hb1⟩
    go_wp2
    go_ret
    exact ⟨_, rfl, by simp, by simpa using hz1, fun j hj => absurd hj (Nat.not_lt_zero j), hB.trans (hb1.mono (by simp))⟩
  · go_enter Try.func7, Try.ntmps7
    go_wp2_with fail
    refine (rep_any w.heap.size 1 n hn (by omega) _ (by simp) HC.out).mono ?_
    rintro e w1 ⟨rfl, F⟩
    have FF : Hid (Fill (w.alloc (.cells #[.int .u8 32] 5 (1, 2))) w1 (w.alloc (.cells #[.int .u8 32] 5 (1, 2))).heap.size n n) := F
    clear F
    go_wp2
    go_ret
    have hbl := FF.out.blank
    have hz := block_lt_of_cell (hbl 0 (by omega))
    exact ⟨_, rfl, by simp, by simpa using hz, by simpa using hbl, hB.trans (FF.out.below.mono (by simp))⟩

set_option maxHeartbeats 1000000 in
theorem zblank_any (n : Nat) (hn : n ≤ 131072) (w : World) :
    Calls Try.prog 4 #[.int .i64 n] w fun e w' => Blanks w n e w' := by
  go_enter Try.func4, Try.ntmps4
  go_wp2_with fail
  refine (blank_any n hn _).mono ?_
  rintro e w1 ⟨h, rfl, h1, h2, h3, h4⟩
  have H3 : Hid (∀ j, j < n → w1.cell? ⟨h, j, none⟩ = some (.int .u8 32)) := h3
  clear h3
  go_wp2
  go_ret
  exact ⟨_, rfl, h1, h2, H3.out, h4⟩

theorem zblank_int (x : Int) (n : Nat) (hx : x = n) (hn : n ≤ 131072) (w : World) :
    Calls Try.prog 4 #[.int .i64 x] w fun e w' => Blanks w n e w' := by
  subst hx
  exact zblank_any n hn w

set_option maxHeartbeats 1000000 in
theorem all_any (b o c n : Nat) (hn : n ≤ 131072) (w : World) (hc : ∀ j, j < n → w.cell? ⟨b, o + j, none⟩ = some (.int .u8 32)) :
    Calls Try.prog 5 #[.slice (some ⟨b, o, none⟩) n c] w fun e w' => e = .returned (.bool true) ∧ w = w' := by
  go_enter Try.func5, Try.ntmps5
  go_wp2
  go_loop [3] (fun i => ∃ k : Nat, k ≤ n ∧ i = .int .i64 k) (fun i => n - (intOf i).toNat)
  case atStart => exact ⟨0, Nat.zero_le _, rfl⟩
  case round =>
    obtain ⟨k, hk, rfl⟩ := hrel
    by_cases hlt : k < n
    · have hcx := hc k hlt
      clear hc
      go_wp2
      go_round
      case rel => exact ⟨k + 1, by omega, by go_num⟩
      case measure => simp [intOf]; omega
    · go_wp2
      go_ret
      exact ⟨rfl, rfl⟩

set_option maxHeartbeats 1000000 in
theorem same_any (b o c b2 o2 c2 n : Nat) (hn : n ≤ 131072) (w : World) (hc : ∀ j, j < n → w.cell? ⟨b, o + j, none⟩ = some (.int .u8 32)) (hc2 : ∀ j, j < n → w.cell? ⟨b2, o2 + j, none⟩ = some (.int .u8 32)) :
    Calls Try.prog 6 #[.slice (some ⟨b, o, none⟩) n c, .slice (some ⟨b2, o2, none⟩) n c2] w fun e w' => e = .returned (.bool true) ∧ ∃ q, w' = w.drewN q := by
  go_enter Try.func6, Try.ntmps6
  go_wp2
  go_loopw [5] (fun i wr => ∃ k : Nat, k ≤ n ∧ i = .int .i64 k ∧ ∃ q, wr = w.drewN q) (fun i _ => n - (intOf i).toNat)
  case atStart => exact ⟨0, Nat.zero_le _, rfl, 0, rfl⟩
  case round =>
    obtain ⟨k, hk, rfl, q, rfl⟩ := hrel
    by_cases hlt : k < n
    · have hcx := hc k hlt
      have hcx2 := hc2 k hlt
      clear hc hc2
      go_wp2
      go_quiet (fail)
      go_wp2
      go_roundw
      case rel => exact ⟨k + 1, by omega, by go_num, _, rfl⟩
      case measure => simp [intOf]; omega
    · go_wp2
      go_ret
      exact ⟨rfl, q, rfl⟩

theorem same_len (b o c b2 o2 c2 l n : Nat) (hl : l = n) (hn : n ≤ 131072) (w : World) (hc : ∀ j, j < n → w.cell? ⟨b, o + j, none⟩ = some (.int .u8 32)) (hc2 : ∀ j, j < n → w.cell? ⟨b2, o2 + j, none⟩ = some (.int .u8 32)) :
    Calls Try.prog 6 #[.slice (some ⟨b, o, none⟩) l c, .slice (some ⟨b2, o2, none⟩) n c2] w fun e w' => e = .returned (.bool true) ∧ ∃ q, w' = w.drewN q := by
  subst hl
  exact same_any b o c b2 o2 c2 l hn w hc hc2

set_option maxHeartbeats 1000000 in
theorem same_none (a a2 : Option Addr) (c c2 : Nat) (w : World) :
    Calls Try.prog 6 #[.slice a 0 c, .slice a2 0 c2] w fun e w' => e = .returned (.bool true) ∧ ∃ q, w' = w.drewN q := by
  go_enter Try.func6, Try.ntmps6
  go_wp2
  refine wp_loop_rounds 1 ?_
  rw [rounds_succ]
  go_wp2
  go_ret
  exact ⟨rfl, 0, rfl⟩

set_option maxHeartbeats 1000000 in
theorem law_out (m n : Int) (w : World) (h : m < 0 ∨ 65536 < m ∨ n < 0 ∨ 65536 < n) :
    Calls Try.prog 3 #[.int .i64 m, .int .i64 n] w fun e w' => e = .returned (.bool true) ∧ Below w.heap.size w w' := by
  go_enter Try.func3, Try.ntmps3
  go_wp2_with fail
  all_goals first
    | (go_ret; exact ⟨rfl, Below.refl _ _⟩)
    | (exfalso; omega)

set_option maxHeartbeats 2000000 in
theorem law_in (m n : Nat) (hm : m ≤ 65536) (hn : n ≤ 65536) (w : World) :
    Calls Try.prog 3 #[.int .i64 m, .int .i64 n] w fun e w' => e = .returned (.bool true) ∧ Below w.heap.size w w' := by
  by_cases hn0 : n = 0
  · subst hn0
    go_enter Try.func3, Try.ntmps3
    go_wp2_with fail
    refine (zblank_int _ m (by omega) (by omega) _).mono ?_
    rintro e w1 ⟨h0, rfl, p0, q0, c0, b0⟩
    have C0 : Hid (∀ j, j < m → w1.cell? ⟨h0, j, none⟩ = some (.int .u8 32)) := c0
    clear c0
    go_wp2_with fail
    refine (zblank_int _ m rfl (by omega) _).mono ?_
    rintro e w2 ⟨h1, rfl, p1, q1, c1, b1⟩
    have C1 : Hid (∀ j, j < m → w2.cell? ⟨h1, j, none⟩ = some (.int .u8 32)) := c1
    clear c1
    go_wp2_with fail
    refine (zblank_int _ 0 rfl (by omega) _).mono ?_
    rintro e w3 ⟨h2, rfl, p2, q2, c2, b2⟩
    clear c2
    have D0 : Hid (∀ j, j < m → w3.cell? ⟨h0, j, none⟩ = some (.int .u8 32)) := fun j hj =>
      ((b2.cell (p := ⟨h0, j, none⟩) (Nat.lt_of_lt_of_le q0 b1.size)).trans (b1.cell (p := ⟨h0, j, none⟩) q0)).trans (C0.out j hj)
    have D1 : Hid (∀ j, j < m → w3.cell? ⟨h1, j, none⟩ = some (.int .u8 32)) := fun j hj => (b2.cell (p := ⟨h1, j, none⟩) q1).trans (C1.out j hj)
    have hB : Below w.heap.size w w3 := (b0.trans (b1.mono b0.size)).trans (b2.mono (Nat.le_trans b0.size b1.size))
    clear C0 C1 b0 b1 b2
    go_wp2_with fail
    refine (all_any h0 0 _ (m) (by omega) _ (fun j hj => by simpa using D0.out j hj)).mono ?_
    rintro e w4 ⟨rfl, rfl⟩
    go_wp2_with fail
    refine (same_len h0 0 _ h1 0 _ _ m rfl (by omega) _ (fun j hj => by simpa using D0.out j (by omega)) (fun j hj => by simpa using D1.out j hj)).mono ?_
    rintro e w4 ⟨rfl, q, rfl⟩
    go_wp2_with fail
    refine (same_none _ _ _ _ _).mono ?_
    rintro e w4 ⟨rfl, q2, rfl⟩
    go_wp2_with fail
    go_ret
    exact ⟨rfl, below_drewN hB _⟩

  · skip
    go_enter Try.func3, Try.ntmps3
    go_wp2_with fail
    refine (zblank_int _ (m + n) (by omega) (by omega) _).mono ?_
    rintro e w1 ⟨h0, rfl, p0, q0, c0, b0⟩
    have C0 : Hid (∀ j, j < m + n → w1.cell? ⟨h0, j, none⟩ = some (.int .u8 32)) := c0
    clear c0
    go_wp2_with fail
    refine (zblank_int _ m rfl (by omega) _).mono ?_
    rintro e w2 ⟨h1, rfl, p1, q1, c1, b1⟩
    have C1 : Hid (∀ j, j < m → w2.cell? ⟨h1, j, none⟩ = some (.int .u8 32)) := c1
    clear c1
    go_wp2_with fail
    refine (zblank_int _ n rfl (by omega) _).mono ?_
    rintro e w3 ⟨h2, rfl, p2, q2, c2, b2⟩
    have C2 : Hid (∀ j, j < n → w3.cell? ⟨h2, j, none⟩ = some (.int .u8 32)) := c2
    clear c2
    have D0 : Hid (∀ j, j < m + n → w3.cell? ⟨h0, j, none⟩ = some (.int .u8 32)) := fun j hj =>
      ((b2.cell (p := ⟨h0, j, none⟩) (Nat.lt_of_lt_of_le q0 b1.size)).trans (b1.cell (p := ⟨h0, j, none⟩) q0)).trans (C0.out j hj)
    have D1 : Hid (∀ j, j < m → w3.cell? ⟨h1, j, none⟩ = some (.int .u8 32)) := fun j hj => (b2.cell (p := ⟨h1, j, none⟩) q1).trans (C1.out j hj)
    have hB : Below w.heap.size w w3 := (b0.trans (b1.mono b0.size)).trans (b2.mono (Nat.le_trans b0.size b1.size))
    clear C0 C1 b0 b1 b2
    go_wp2_with fail
    refine (all_any h0 0 _ (m + n) (by omega) _ (fun j hj => by simpa using D0.out j hj)).mono ?_
    rintro e w4 ⟨rfl, rfl⟩
    go_wp2_with fail
    refine (same_len h0 0 _ h1 0 _ _ m rfl (by omega) _ (fun j hj => by simpa using D0.out j (by omega)) (fun j hj => by simpa using D1.out j hj)).mono ?_
    rintro e w4 ⟨rfl, q, rfl⟩
    go_wp2_with fail
    have E0 : ∀ j, j < n → (w3.drewN q).cell? ⟨h0, m + j, none⟩ = some (.int .u8 32) := fun j hj => D0.out (m + j) (by omega)
    have E2 : ∀ j, j < n → (w3.drewN q).cell? ⟨h2, 0 + j, none⟩ = some (.int .u8 32) := fun j hj => by rw [Nat.zero_add]; exact C2.out j hj
    refine (same_len h0 m n h2 0 n n n rfl (by omega) _ E0 E2).mono ?_
    rintro e w4 ⟨rfl, q3, rfl⟩
    clear E0 E2
    go_wp2_with fail
    go_ret
    exact ⟨rfl, below_drewN hB _⟩

theorem law_all (a b : Int) (w : World) : Calls Try.prog 3 #[.int .i64 a, .int .i64 b] w fun e w' => e = .returned (.bool true) ∧ Below w.heap.size w w' := by
  by_cases h : a < 0 ∨ 65536 < a ∨ b < 0 ∨ 65536 < b
  · exact law_out a b w h
  · obtain ⟨m, rfl⟩ : ∃ m : Nat, a = m := ⟨a.toNat, by omega⟩
    obtain ⟨n, rfl⟩ : ∃ n : Nat, b = n := ⟨b.toNat, by omega⟩
    exact law_in m n (by omega) (by omega) w

end Go.Proofs.Qxb6612819a
