/-
  THE TREE: a map that the call makes, keyed by paths; its entries are directories tagged by their positions.
-/
import Derived.Test.Qxb6612745aWalks
import Derived.Maps.OwnSet
import Derived.Deep.WholeRow
import Derived.Laws.ResultCell
import Derived.Laws.CopyOwn
set_option linter.unusedVariables false
set_option linter.unusedSimpArgs false
namespace Go.Proofs.Qxb6612745a
open Go.RowKit Go.Maps Go.WideMaps

abbrev nilS : Value := .slice none 0 0
abbrev str0 : Value := .string ⟨#[]⟩
/-- An entry of kind k whose stamp's number is n. -/
def entC (k n : Int) : Array Value := #[.int .u8 k, nilS, nilS, nilS, nilS, nilS, str0, .int .u64 n, .int .i64 0, str0, str0, .int .u64 0, .int .i64 0, str0, nilS, str0, .int .u64 0, .int .i64 0, str0, nilS, nilS]
def ent (k n : Int) : Value := .agg (entC k n)
theorem entC_size (k n : Int) : (entC k n).size = 21 := rfl
theorem entC_one (k n : Int) : (entC k n).all (·.oneCell') = true := by simp [entC, Value.oneCell']
theorem info34 : (Try.prog.info? 34).map (·.size) = some 21 := by kernel_rfl

theorem law : Keyed Try.prog 9 := string_keyed Try.underlying9
theorem zeroE (w : World) : (zeroValue 34).run Try.prog w = .ok (ent 0 0) w := by kernel_rfl

/-- How an element reads: as itself. -/
def self (v : Value) : Option (DataW Value × List MemPlace) := some (.held v, [])

def keyL (s : ByteArray) : Lit := .string s.data.toList

/-- The tree behind k rounds. -/
def Tr (ss : List ByteArray) : Nat → DataW Value
  | 0 => .map []
  | k + 1 => (Tr ss k).put (keyL (ss.getD k ByteArray.empty)) (.held (ent 3 ((k : Int) + 1)))

set_option maxHeartbeats 400000 in
theorem dir_none (a : Option Addr) (cap : Nat) (ss : List ByteArray) (w : World) :
    Calls Try.prog 30 #[.slice a 0 cap] w fun e w' => e = .returned (.map (some w.heap.size)) ∧ w'.ownsMap Try.prog 9 self w.heap.size 0 (Tr ss 0) ∧ Below w.heap.size w w' := by
  have hmm := @run_makeMap Try.prog
  go_enter Try.func30, Try.ntmps30
  go_wp2
  refine wp_loop_rounds 1 ?_
  rw [rounds_succ]
  go_wp2
  go_ret
  exact ⟨rfl, World.ownsMap_made _ _ _ _, (Below.refl _ _).alloc (Nat.le_refl _) _⟩

set_option maxHeartbeats 400000 in
theorem dir_any (b off len cap : Nat) (ss : List ByteArray) (w : World) (hP : Paths w b off len ss) :
    Calls Try.prog 30 #[.slice (some ⟨b, off, none⟩) len cap] w fun e w' => e = .returned (.map (some w.heap.size)) ∧ w'.ownsMap Try.prog 9 self w.heap.size len (Tr ss len) ∧ Below w.heap.size w w' := by
  have hmm := @run_makeMap Try.prog
  have hr := hP.reach
  have hl := hP.le
  go_enter Try.func30, Try.ntmps30
  go_wp2
  go_loopw [4] (fun i wr => ∃ k : Nat, k ≤ len ∧ i = .int .i64 k ∧ wr.ownsMap Try.prog 9 self w.heap.size k (Tr ss k) ∧ Below w.heap.size w wr) (fun i _ => len - (intOf i).toNat)
  case atStart => exact ⟨0, Nat.zero_le _, rfl, World.ownsMap_made _ _ _ _, (Below.refl _ _).alloc (Nat.le_refl _) _⟩
  case round =>
    obtain ⟨k, hk, rfl, hown, hnx⟩ := hrel
    obtain ⟨s, hs⟩ : ∃ s, s = ss.getD k ByteArray.empty := ⟨_, rfl⟩
    have hcx : k < len → wr.cell? ⟨b, off + k, none⟩ = some (.string s) := fun _ => by rw [hs]; exact (hnx.cell (by exact hP.blk)).trans (hP.cell k (by omega))
    have hkey : keyOf Try.prog 9 (.string s) = some (keyL s) := keyOf_string_mk Try.underlying9 (by rw [hs]; exact hP.at k)
    have hT : Hid (Tr ss (k + 1) = (Tr ss k).put (keyL s) (.held (ent 3 ((k : Int) + 1)))) := by rw [hs]; exact rfl
    clear hs hP
    by_cases hlt : k < len
    · go_wp2_with (first
        | (at_mapUpdate; refine wpList_mapUpdate_own _ rfl _ _ _ 36 rfl 9 34 law Try.underlying36 self w.heap.size k _ rfl hown (by unfold maxLen; omega) _ _ _ rfl rfl hkey (.held (ent 3 ((k : Int) + 1))) [] rfl ?_))
      intro w1 hown1 hgrow1
      have R1 : w1.ownsMap Try.prog 9 self w.heap.size (k + 1) (Tr ss (k + 1)) := by rw [hT.out]; exact hown1
      have R2 := hnx.grown hgrow1 hnx.size (fun j hj => by cases hj; exact Nat.le_refl _)
      clear hown1 hgrow1 hown hcx
      go_wp2
      go_roundw
      case rel => exact ⟨k + 1, by omega, by go_num, R1, R2⟩
      case measure => simp [intOf]; omega
    · go_wp2
      have : k = len := by omega
      subst this
      go_ret
      exact ⟨rfl, hown, hnx⟩

/-! ### look-ups, the element's shape written out -/
/-- Every element is an entry that has a kind and a number alone. -/
def Flat (D : DataW Value) : Prop := ∀ kl, ∃ k n : Int, D.atKey kl (.held (ent 0 0)) = .held (ent k n)

section
variable (w : World) {ops : Array Oper} {rest : List Oper} {o : Oper} {a : Act} {Q : Exit → Act → World → Prop}

theorem look_ok (hg : o.guard = none) (m x : Operand) (hop : o.op = Op.lookup 36 m x true) (b n : Nat) (D : DataW Value) (hm : a.eval m = .map (some b)) (hown : w.ownsMap Try.prog 9 self b n D) (hD : Flat D)
    (s : ByteArray) (hx : a.eval x = .string s) (hs : s.size ≤ maxLen)
    (hK : ∀ k n : Int, D.atKey (keyL s) (.held (ent 0 0)) = .held (ent k n) → wpList Try.prog ops Q rest (a.put o.dst (.tuple #[.agg (entC k n), .bool (Maps.has D (keyL s))])) w) :
    wpList Try.prog ops Q (o :: rest) a w := by
  refine wpList_lookup_own_ok w hg m x 36 hop 9 34 law Try.underlying36 self (zeroE w) (.held (ent 0 0)) [] rfl b n D hm hown _ (keyL s) hx (keyOf_string_mk Try.underlying9 hs) ?_
  intro v ps hv
  obtain ⟨k, n, e⟩ := hD (keyL s)
  rw [e] at hv
  simp only [self, Option.some.injEq, Prod.mk.injEq, DataW.held.injEq] at hv
  rw [hv.1]
  exact hK k n e

theorem look (hg : o.guard = none) (m x : Operand) (hop : o.op = Op.lookup 36 m x false) (b n : Nat) (D : DataW Value) (hm : a.eval m = .map (some b)) (hown : w.ownsMap Try.prog 9 self b n D)
    (s : ByteArray) (hx : a.eval x = .string s) (hs : s.size ≤ maxLen) (k l : Int) (hat : D.atKey (keyL s) (.held (ent 0 0)) = .held (ent k l))
    (hK : wpList Try.prog ops Q rest (a.put o.dst (.agg (entC k l))) w) :
    wpList Try.prog ops Q (o :: rest) a w := by
  refine wpList_plain hg fun K' hK' => ?_
  obtain ⟨v, ps, hrun, hv⟩ := hown.lookup law Try.underlying36 (zeroE w) (zd := .held (ent 0 0)) (zp := []) rfl (keyOf_string_mk Try.underlying9 hs)
  change self v = some (D.atKey (keyL s) (.held (ent 0 0)), ps) at hv
  rw [hat] at hv
  simp only [self, Option.some.injEq, Prod.mk.injEq, DataW.held.injEq] at hv
  rw [hv.1] at hrun
  unfold Oper.wp
  simp [execOp, hop, hm, hx, hrun, Result.andThen]
  exact hK' _ _ hK

/-- An entry, by value, out of a block, under a guard that says yes. -/
theorem ld_ent (hw : Region.wanted o (yielded ops a.tmps) = true) (x : Operand) (hop : o.op = Op.load 34 x) (g : Nat) (hx : a.eval x = .pointer (some ⟨g, 0, none⟩)) (k n : Int)
    (hb : w.heap[g]? = some (.cells (entC k n) 34 (0, 0))) (h : wpList Try.prog ops Q rest (a.put o.dst (.agg (entC k n))) w) : wpList Try.prog ops Q (o :: rest) a w :=
  BigFrame.wpList_want hw fun _ hK => wp_load_row 34 x hop g hx 34 (entC k n) (0, 0) _ hb Try.underlying34 rfl (by rw [info34, entC_size]) (hK _ _ h)

/-- An entry, by value, into a block of 21 cells. -/
theorem st_ent (hg : o.guard = none) (x y : Operand) (hop : o.op = Op.store 34 x y) (g : Nat) (hx : a.eval x = .pointer (some ⟨g, 0, none⟩)) (k n : Int) (hy : a.eval y = .agg (entC k n))
    (old : Array Value) (hb : w.heap[g]? = some (.cells old 34 (0, 0))) (ho : old.size = 21) (h : wpList Try.prog ops Q rest (a.put o.dst undef) (w.setRow g (entC k n))) : wpList Try.prog ops Q (o :: rest) a w :=
  wpList_store_row hg 34 x y hop g (entC k n) hx hy 34 old hb (by rw [info34, entC_size]) (by rw [ho, entC_size]) (entC_one k n) h
end

/-! ### above -/
def held (D : DataW Value) (s : ByteArray) : Bool := Maps.has D (keyL s)

theorem isEmpty_size (s : ByteArray) : s.toList.isEmpty = true ↔ s.size = 0 := by
  rw [Lib.toList_data, List.isEmpty_iff, ← List.length_eq_zero_iff, Array.length_toList]; rfl

theorem ret_sb {X : ByteArray × Bool} {a : ByteArray} {x : Bool} (h : X = (a, x)) : Ending.returned (.tuple #[.string a, .bool x]) = .returned (.tuple #[.string X.1, .bool X.2]) := by rw [h]

set_option maxHeartbeats 1000000 in
theorem above_any (s : ByteArray) (B n : Nat) (D : DataW Value) (w : World) (hown : w.ownsMap Try.prog 9 self B n D) (hD : Flat D) (hs : s.size ≤ maxLen) :
    Calls Try.prog 46 #[.map (some B), .string s] w fun e w' => e = .returned (.tuple #[.string (Pl.above (held D) s).1, .bool (Pl.above (held D) s).2]) ∧ Below w.heap.size w w' := by
  have HD : Hid (Flat D) := hD
  clear hD
  go_enter Try.func46, Try.ntmps46
  go_wp2
  go_loopw [1] (fun t wr => ∃ q : ByteArray, q.size ≤ maxLen ∧ t = .string q ∧ Pl.above (held D) s = Pl.above (held D) q ∧ wr.ownsMap Try.prog 9 self B n D ∧ Below w.heap.size w wr) (fun t _ => match t with | .string q => q.size | _ => 0)
  case atStart => exact ⟨s, hs, rfl, rfl, hown, Below.refl _ _⟩
  case round =>
    obtain ⟨q, hq, rfl, ha, hownr, hnx⟩ := hrel
    have HA : Hid (Pl.above (held D) s = Pl.above (held D) q) := ha
    clear ha hown
    by_cases h0 : q.toList.isEmpty = true
    · go_wp2
      go_ret2
      exact ⟨ret_sb (HA.out.trans (Pl.above_empty _ _ ((isEmpty_size q).1 h0))), hnx⟩
    · have h0' : q.toList.isEmpty = false := by simpa using h0
      have hpos : 0 < q.size := by have := mt (isEmpty_size q).2 h0; omega
      have hpl : (Pl.par q).size ≤ maxLen := Nat.le_trans (Nat.le_of_lt (Pl.par_size q hpos)) hq
      have HS : Hid (Pl.above (held D) s = if held D (Pl.par q) then (Pl.par q, true) else Pl.above (held D) (Pl.par q)) := HA.out.trans (Pl.above_step _ _ hpos)
      have HM : Hid ((Pl.par q).size < q.size) := Pl.par_size q hpos
      clear h0 hpos
      go_wp2_with (first
        | (go_at_call 52; refine (parent_any _ _ hq).mono ?_; rintro e w' ⟨rfl, rfl⟩)
        | (at_lookup; refine look_ok _ rfl _ _ rfl B n D rfl hownr HD.out (Pl.par q) rfl hpl ?_; intro k m hat)
        | (refine st_ent _ rfl _ _ rfl wr.heap.size rfl _ _ rfl _ (heap_alloc_last wr _) rfl ?_; rw [World.setRow_alloc_new]))
      · go_ret2
        exact ⟨ret_sb (HS.out.trans (if_pos ‹_›)), hnx.alloc hnx.size _⟩
      · go_roundw
        case rel => exact ⟨Pl.par q, hpl, rfl, HS.out.trans (if_neg (by rw [held, ‹has D (keyL (Pl.par q)) = false›]; simp)), hownr.alloc _, hnx.alloc hnx.size _⟩
        case measure => exact HM.out

theorem owns_below {w w' : World} {B n C : Nat} {D : DataW Value} (h : w.ownsMap Try.prog 9 self B n D) (hb : Below C w w') (hB : B < C) : w'.ownsMap Try.prog 9 self B n D := by
  obtain ⟨es, clock, hb', F, hs, hD⟩ := h
  exact ⟨es, clock, (hb.block B hB).trans hb', F, hs, hD⟩

theorem abv_size (hd : ByteArray → Bool) : ∀ (n : Nat) (s : ByteArray), (Pl.abv hd n s).1.size ≤ s.size
  | 0, s => Nat.zero_le _
  | n + 1, s => by
    unfold Pl.abv
    by_cases h0 : s.size = 0
    · rw [if_pos h0]; exact Nat.zero_le _
    · have hp := Pl.par_size s (by omega)
      rw [if_neg h0]
      split
      · exact Nat.le_of_lt hp
      · exact Nat.le_trans (abv_size hd n (Pl.par s)) (Nat.le_of_lt hp)

/-- Two results, the first an entry that lies in a block. -/
theorem res_ent {fn : Func} {p u : Tmp} (h : fn.results = #[.cell p 34, .tmp u]) (tmps : Array Value) (w : World) (g : Nat) (k m : Int) (x : Value) (hp : tmps.getD p undef = .pointer (some ⟨g, 0, none⟩)) (hu : tmps.getD u undef = x)
    (hg : w.heap[g]? = some (.cells (entC k m) 34 (0, 0))) : (results fn tmps).run Try.prog w = .ok (.tuple #[.agg (entC k m), x]) w := by
  have hl := run_loadVar_row (P := Try.prog) w g 34 34 (entC k m) (0, 0) _ hg Try.underlying34 rfl (by rw [info34, entC_size])
  rw [results_cell_tmp h, hp, hu]
  simp only [asAddr, Sem.run_pure, Result.andThen, hl]

/-- The cells of an entry that the law looks at by themselves. -/
theorem ent_cells {w : World} {g : Nat} {k n : Int} (h : w.heap[g]? = some (.cells (entC k n) 34 (0, 0))) :
    w.cell? ⟨g, 0, none⟩ = some (.int .u8 k) ∧ w.cell? ⟨g, 6, none⟩ = some str0 ∧ w.cell? ⟨g, 7, none⟩ = some (.int .u64 n) ∧ w.cell? ⟨g, 8, none⟩ = some (.int .i64 0) ∧ w.cell? ⟨g, 9, none⟩ = some str0 := by
  refine ⟨?_, ?_, ?_, ?_, ?_⟩ <;> rw [cell_of_row _ _ _ _ _ _ h] <;> rfl

abbrev zero34 : Array Value := #[.int .u8 0, nilS, nilS, nilS, nilS, nilS, str0, .int .u64 0, .int .i64 0, str0, str0, .int .u64 0, .int .i64 0, str0, nilS, str0, .int .u64 0, .int .i64 0, str0, nilS, nilS]

set_option maxHeartbeats 1000000 in
theorem over_any (s : ByteArray) (B n : Nat) (D : DataW Value) (w : World) (hown : w.ownsMap Try.prog 9 self B n D) (hD : Flat D) (hs : s.size ≤ maxLen) (dir : ByteArray) (ok : Bool) (k m : Int)
    (ha : Pl.above (held D) s = (dir, ok)) (hat : D.atKey (keyL dir) (.held (ent 0 0)) = .held (ent k m)) :
    Calls Try.prog 40 #[.map (some B), .string s] w fun e w' => e = .returned (.tuple #[.agg (entC k m), .bool ok]) ∧ Below w.heap.size w w' := by
  have hdl : dir.size ≤ maxLen := by
    have := abv_size (held D) s.size s
    have e : (Pl.abv (held D) s.size s).1 = dir := by show (Pl.above (held D) s).1 = dir; rw [ha]
    rw [e] at this
    omega
  have hBl := hown.lt
  have ca : ∀ w1 : World, w1.ownsMap Try.prog 9 self B n D → Calls Try.prog 46 #[.map (some B), .string s] w1 fun e w' => e = .returned (.tuple #[.string dir, .bool ok]) ∧ Below w1.heap.size w1 w' := by
    intro w1 h1
    have := above_any s B n D w1 h1 hD hs
    rw [ha] at this
    exact this
  have CA : Hid (∀ w1 : World, w1.ownsMap Try.prog 9 self B n D → Calls Try.prog 46 #[.map (some B), .string s] w1 fun e w' => e = .returned (.tuple #[.string dir, .bool ok]) ∧ Below w1.heap.size w1 w') := ca
  have HD : Hid (Flat D) := hD
  have HAT : Hid (D.atKey (keyL dir) (.held (ent 0 0)) = .held (ent k m)) := hat
  clear ca ha hD hat
  go_enter Try.func40, Try.ntmps40
  go_wp2_with (first
    | (go_at_call 46; refine (CA.out _ (by exact hown.alloc _)).mono ?_; rintro e w1 ⟨rfl, hb1⟩; have hown1 := owns_below (hown.alloc _) hb1 (by simp; omega); have hg1 := (hb1.block w.heap.size (by simp)).trans (heap_alloc_last w _))
    | (at_lookup; refine look _ rfl _ _ rfl B n D rfl hown1 dir rfl hdl k m HAT.out ?_)
    | (refine st_ent _ rfl _ _ rfl w.heap.size rfl k m rfl _ hg1 rfl ?_))
  refine bodyPost_ret (v := .tuple #[.agg (entC k m), .bool ok]) (res_ent Try.results40 _ _ w.heap.size k m _ rfl rfl (setRow_heap _ _ _ _ _ _ hg1)) rfl ⟨rfl, ?_⟩
  exact below_setRow (((Below.refl _ _).alloc (Nat.le_refl _) _).trans (hb1.mono (by simp))) (Nat.le_refl _) _

set_option maxHeartbeats 1000000 in
theorem zover_any (s : ByteArray) (B n : Nat) (D : DataW Value) (w : World) (hown : w.ownsMap Try.prog 9 self B n D) (hD : Flat D) (hs : s.size ≤ maxLen) (dir : ByteArray) (ok : Bool) (k m : Int)
    (ha : Pl.above (held D) s = (dir, ok)) (hat : D.atKey (keyL dir) (.held (ent 0 0)) = .held (ent k m)) :
    Calls Try.prog 31 #[.map (some B), .string s] w fun e w' => e = .returned (.tuple #[.agg (entC k m), .bool ok]) ∧ Below w.heap.size w w' := by
  have ca : ∀ w1 : World, w1.ownsMap Try.prog 9 self B n D → Calls Try.prog 40 #[.map (some B), .string s] w1 fun e w' => e = .returned (.tuple #[.agg (entC k m), .bool ok]) ∧ Below w1.heap.size w1 w' :=
    fun w1 h1 => over_any s B n D w1 h1 hD hs dir ok k m ha hat
  have CA : Hid (∀ w1 : World, w1.ownsMap Try.prog 9 self B n D → Calls Try.prog 40 #[.map (some B), .string s] w1 fun e w' => e = .returned (.tuple #[.agg (entC k m), .bool ok]) ∧ Below w1.heap.size w1 w') := ca
  clear ca ha hD hat
  go_enter Try.func31, Try.ntmps31
  go_wp2_with (first
    | (go_at_call 40; refine (CA.out _ (by exact hown.alloc _)).mono ?_; rintro e w1 ⟨rfl, hb1⟩; have hg1 := (hb1.block w.heap.size (by simp)).trans (heap_alloc_last w _))
    | (refine st_ent _ rfl _ _ rfl w.heap.size rfl k m rfl _ hg1 rfl ?_))
  refine bodyPost_ret (v := .tuple #[.agg (entC k m), .bool ok]) (res_ent Try.results31 _ _ w.heap.size k m _ rfl rfl (setRow_heap _ _ _ _ _ _ hg1)) rfl ⟨rfl, ?_⟩
  exact below_setRow (((Below.refl _ _).alloc (Nat.le_refl _) _).trans (hb1.mono (by simp))) (Nat.le_refl _) _

set_option maxHeartbeats 1000000 in
theorem bare_any (k m : Int) (w : World) :
    Calls Try.prog 33 #[.agg (entC k m)] w fun e w' => e = .returned (.bool true) ∧ Below w.heap.size w w' := by
  unfold entC
  go_enter Try.func33, Try.ntmps33
  go_wp2
  go_ret
  exact ⟨rfl, (Below.refl _ _).alloc (Nat.le_refl _) _⟩

end Go.Proofs.Qxb6612745a
